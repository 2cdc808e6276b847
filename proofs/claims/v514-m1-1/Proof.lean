import JvmDerived
import JvmDerived.Pilot.@@N@@Statement
import JvmDerived.Pilot.@@N@@Code
set_option linter.unusedVariables false
set_option linter.unusedSimpArgs false
namespace Jvm.Pilot.@@N@@
open Jvm Jvm.ClassFile Sem Op Lib Jvm.Free Jvm.Stand Jvm.LawKit Jvm.RoadKit Bundle Jvm.Pilot.@@N@@.Jvm.D
/-- from any state that stands here with this heap the walk comes to a return with Q -/
def Go (p : Program) (l : Launch) (e : Env) (R : Room) (s : State) (m : MethodId) (args : Array Value) (below : List Frame) (meth : Method) (c : Code) (n0 : Nat) (Q : Option Value → Heap → Prop) (h : Heap) (k n : Nat) (f : JFrame) : Prop :=
  ∀ T L, Stand p l e R s m args below meth c T L k n → T.heap = h → Fr n0 L →
    ∃ s₂ o, Steps p.tables e below (T.setTop f) s₂ ∧ s₂.status = .running ∧ Ended s₂ below o ∧
      ∃ v L', o = .returned v ∧ (Q v s₂.heap ∧ Fr n0 L') ∧ FrameEnd s o s₂ L' R.cells R.slots
/-- what is known of the body that is walked -/
def Kx (Z : State) (own nm : String) (bytes : ByteArray) (ml : Nat) (rt : Option FieldType) (p : Program) (s : State) (m : MethodId) (meth : Method) (c : Code) : Prop :=
  p.tables.exec = Jvm.exec ∧ Z.Warmed39 s.vm ∧ s.vm.findClass own = some m.cls ∧ c.code = bytes ∧ c.maxLocals = ml ∧ meth.sig.returnType = rt ∧ meth.locks = false ∧ meth.name = nm
/-- a method's contract, at given arguments and heap -/
def Meets (l : Launch) (y : MethodName) (bytes : ByteArray) (ml : Nat) (rt : Option FieldType) (rm : Room) (Z : State) (as : Array Value) (h0 : Heap) (n0 : Nat) (Q : Option Value → Heap → Prop) : Prop :=
  ∀ ws : List Jvm.Cond, MetFree l y (head1 (Jvm.Cond.code y bytes ml rt :: ws) rm) (fun a U => a = as ∧ Z.Warmed39 U.vm ∧ U.heap = h0) (fun _ _ _ _ _ => True)
    (fun _ U o U' => ∃ v L, o = .returned v ∧ (Q v U'.heap ∧ Fr n0 L) ∧ FrameEnd U o U' L rm.cells rm.slots)
/-- an array of ints, bytes, booleans ..: its values as a list -/
def IA (Z : State) (h : Heap) (a : Addr) (ty : FieldType) (xs : List Int32) : Prop := ∃ cl : Cell, Arr Z h a cl ty ∧ cl.slots = (xs.map Value.int).toArray
/-- an array of longs -/
def LA (Z : State) (h : Heap) (a : Addr) (xs : List Int64) : Prop := ∃ cl : Cell, Arr Z h a cl .long ∧ cl.slots = (xs.map Value.long).toArray
section ArrFacts
variable {Z : State} {h h' : Heap} {a : Addr} {ty : FieldType} {xs : List Int32} {ys : List Int64} {ws : List Addr}
theorem IA.keep (F : IA Z h a ty xs) (K : Keep h h' ws) (q : a ∉ ws) : IA Z h' a ty xs := by obtain ⟨c, A, r⟩ := F; exact ⟨c, ⟨K.2.1 a c A.1 q, A.2⟩, r⟩
theorem LA.keep (F : LA Z h a ys) (K : Keep h h' ws) (q : a ∉ ws) : LA Z h' a ys := by obtain ⟨c, A, r⟩ := F; exact ⟨c, ⟨K.2.1 a c A.1 q, A.2⟩, r⟩
theorem IA.lt (F : IA Z h a ty xs) : a < h.size := by obtain ⟨c, A, -⟩ := F; exact A.lt
theorem LA.lt (F : LA Z h a ys) : a < h.size := by obtain ⟨c, A, -⟩ := F; exact A.lt
theorem IA.set {j : Nat} {x : Int32} (F : IA Z h a ty xs) (W : Wr h h' a j (.int x)) : IA Z h' a ty (xs.set j x) := by
  obtain ⟨c, A, r⟩ := F
  refine ⟨_, A.same W, ?_⟩
  simp [Cell.setSlot, r, List.map_set]
theorem LA.set {j : Nat} {x : Int64} (F : LA Z h a ys) (W : Wr h h' a j (.long x)) : LA Z h' a (ys.set j x) := by
  obtain ⟨c, A, r⟩ := F
  refine ⟨_, A.same W, ?_⟩
  simp [Cell.setSlot, r, List.map_set]
theorem keep_ext (E : Ext h h') : Keep h h' [] := (Keep.refl h []).ext E
theorem own_clamp {j : Int32} {n : Nat} (h0 : ¬ j < 0) (hn : j.toNatClampNeg < n) {cl : Cell} (hs : cl.slots.size = n) : ¬ (j < 0 ∨ cl.slots.size ≤ j.toNatClampNeg) := by
  rw [hs]; rintro (q | q)
  · exact h0 q
  · omega
theorem own_ne_of_lt {a b : Nat} {h : Heap} (q : a < h.size) (r : b = h.size) : a ≠ b := by omega
end ArrFacts
section GoSteps
variable {p : Program} {l : Launch} {e : Env} {R : Room} {s : State} {m : MethodId} {args : Array Value} {below : List Frame} {meth : Method} {c : Code} {n0 : Nat} {Q : Option Value → Heap → Prop} {h : Heap} {k n : Nat} {Z : State} {own nm : String} {bytes : ByteArray} {ml : Nat} {rt : Option FieldType} {Ls : Array Slot} {st : List Value} {a0 : Array Value}
theorem go_step {f f' : JFrame} (st : ∀ T L, Stand p l e R s m args below meth c T L k n → ∀ t, Steps p.tables e below (T.setTop f') t → Steps p.tables e below (T.setTop f) t) (hr : Go p l e R s m args below meth c n0 Q h k n f') : Go p l e R s m args below meth c n0 Q h k n f := by
  intro T L X eT N
  obtain ⟨s₂, o, S, r⟩ := hr T L X eT N
  exact ⟨s₂, o, st T L X _ S, r⟩
theorem go_mono {f : JFrame} {k' n' : Nat} (hk : k ≤ k') (hn : n ≤ n') (hr : Go p l e R s m args below meth c n0 Q h k' n' f) : Go p l e R s m args below meth c n0 Q h k n f := by
  intro T L X eT N
  exact hr T L (X.more hk hn) eT N
theorem go_post {f : JFrame} {Q' : Option Value → Heap → Prop} (hq : ∀ v h, Q' v h → Q v h) (hr : Go p l e R s m args below meth c n0 Q' h k n f) : Go p l e R s m args below meth c n0 Q h k n f := by
  intro T L X eT N
  obtain ⟨s₂, o, S, r1, r2, v, L', q1, q2, q3⟩ := hr T L X eT N
  exact ⟨s₂, o, S, r1, r2, v, L', q1, ⟨hq _ _ q2.1, q2.2⟩, q3⟩
theorem go_cast {pc : Nat} {k' n' : Nat} {st' : List Value} (q1 : k = k') (q2 : n = n') (q3 : st = st') (hr : Go p l e R s m args below meth c n0 Q h k' n' (mkF m pc Ls st')) : Go p l e R s m args below meth c n0 Q h k n (mkF m pc Ls st) := by subst q1 q2 q3; exact hr
theorem g_iload (K : Kx Z own nm bytes ml rt p s m meth c) (pc : Nat) {i : Nat} {v : Int32} (hd : decode bytes pc = .ok (.iload i, 2)) (hl : Ls[i]? = some (.val (.int v))) (hr : Go p l e R s m args below meth c n0 Q h k n (mkF m (pc + 2) Ls (.int v :: st))) : Go p l e R s m args below meth c n0 Q h k n (mkF m pc Ls st) :=
  go_step (fun T L X t S => XS.iload X.here K.1 rfl (hb K.2.2.2.1 hd) hl S) hr
theorem g_iloadN (K : Kx Z own nm bytes ml rt p s m meth c) (pc : Nat) {i : Fin 4} {v : Int32} (hd : decode bytes pc = .ok (.iload_n i, 1)) (hl : Ls[i.val]? = some (.val (.int v))) (hr : Go p l e R s m args below meth c n0 Q h k n (mkF m (pc + 1) Ls (.int v :: st))) : Go p l e R s m args below meth c n0 Q h k n (mkF m pc Ls st) :=
  go_step (fun T L X t S => XS.iloadN X.here K.1 rfl (hb K.2.2.2.1 hd) hl S) hr
theorem g_lload (K : Kx Z own nm bytes ml rt p s m meth c) (pc : Nat) {i : Nat} {v : Int64} (hd : decode bytes pc = .ok (.lload i, 2)) (hl : Ls[i]? = some (.val (.long v))) (hr : Go p l e R s m args below meth c n0 Q h k n (mkF m (pc + 2) Ls (.long v :: st))) : Go p l e R s m args below meth c n0 Q h k n (mkF m pc Ls st) :=
  go_step (fun T L X t S => XT.lload X.here K.1 rfl (hb K.2.2.2.1 hd) hl S) hr
theorem g_lloadN (K : Kx Z own nm bytes ml rt p s m meth c) (pc : Nat) {i : Fin 4} {v : Int64} (hd : decode bytes pc = .ok (.lload_n i, 1)) (hl : Ls[i.val]? = some (.val (.long v))) (hr : Go p l e R s m args below meth c n0 Q h k n (mkF m (pc + 1) Ls (.long v :: st))) : Go p l e R s m args below meth c n0 Q h k n (mkF m pc Ls st) :=
  go_step (fun T L X t S => XT.lloadN X.here K.1 rfl (hb K.2.2.2.1 hd) hl S) hr
theorem g_aload (K : Kx Z own nm bytes ml rt p s m meth c) (pc : Nat) {i : Nat} {v : Value} (hd : decode bytes pc = .ok (.aload i, 2)) (hl : Ls[i]? = some (.val v)) (hv : v.isRef = true) (hr : Go p l e R s m args below meth c n0 Q h k n (mkF m (pc + 2) Ls (v :: st))) : Go p l e R s m args below meth c n0 Q h k n (mkF m pc Ls st) :=
  go_step (fun T L X t S => XS.aload X.here K.1 rfl (hb K.2.2.2.1 hd) hl hv S) hr
theorem g_aloadN (K : Kx Z own nm bytes ml rt p s m meth c) (pc : Nat) {i : Fin 4} {v : Value} (hd : decode bytes pc = .ok (.aload_n i, 1)) (hl : Ls[i.val]? = some (.val v)) (hv : v.isRef = true) (hr : Go p l e R s m args below meth c n0 Q h k n (mkF m (pc + 1) Ls (v :: st))) : Go p l e R s m args below meth c n0 Q h k n (mkF m pc Ls st) :=
  go_step (fun T L X t S => XS.aloadN X.here K.1 rfl (hb K.2.2.2.1 hd) hl hv S) hr
theorem g_istore (K : Kx Z own nm bytes ml rt p s m meth c) (pc : Nat) {i : Nat} {v : Int32} (l' : Array Slot) (hd : decode bytes pc = .ok (.istore i, 2)) (hl : storeLocals Ls i (.int v) = some l') (hr : Go p l e R s m args below meth c n0 Q h k n (mkF m (pc + 2) l' st)) : Go p l e R s m args below meth c n0 Q h k n (mkF m pc Ls (.int v :: st)) :=
  go_step (fun T L X t S => XS.istore X.here K.1 rfl (hb K.2.2.2.1 hd) rfl hl S) hr
theorem g_istoreN (K : Kx Z own nm bytes ml rt p s m meth c) (pc : Nat) {i : Fin 4} {v : Int32} (l' : Array Slot) (hd : decode bytes pc = .ok (.istore_n i, 1)) (hl : storeLocals Ls i.val (.int v) = some l') (hr : Go p l e R s m args below meth c n0 Q h k n (mkF m (pc + 1) l' st)) : Go p l e R s m args below meth c n0 Q h k n (mkF m pc Ls (.int v :: st)) :=
  go_step (fun T L X t S => XS.istoreN X.here K.1 rfl (hb K.2.2.2.1 hd) rfl hl S) hr
theorem g_lstore (K : Kx Z own nm bytes ml rt p s m meth c) (pc : Nat) {i : Nat} {v : Int64} (l' : Array Slot) (hd : decode bytes pc = .ok (.lstore i, 2)) (hl : storeLocals Ls i (.long v) = some l') (hr : Go p l e R s m args below meth c n0 Q h k n (mkF m (pc + 2) l' st)) : Go p l e R s m args below meth c n0 Q h k n (mkF m pc Ls (.long v :: st)) :=
  go_step (fun T L X t S => XT.lstore X.here K.1 rfl (hb K.2.2.2.1 hd) rfl hl S) hr
theorem g_lstoreN (K : Kx Z own nm bytes ml rt p s m meth c) (pc : Nat) {i : Fin 4} {v : Int64} (l' : Array Slot) (hd : decode bytes pc = .ok (.lstore_n i, 1)) (hl : storeLocals Ls i.val (.long v) = some l') (hr : Go p l e R s m args below meth c n0 Q h k n (mkF m (pc + 1) l' st)) : Go p l e R s m args below meth c n0 Q h k n (mkF m pc Ls (.long v :: st)) :=
  go_step (fun T L X t S => XT.lstoreN X.here K.1 rfl (hb K.2.2.2.1 hd) rfl hl S) hr
theorem g_astore (K : Kx Z own nm bytes ml rt p s m meth c) (pc : Nat) {i : Nat} {v : Value} (l' : Array Slot) (hd : decode bytes pc = .ok (.astore i, 2)) (hv : v.isRef = true) (hl : storeLocals Ls i v = some l') (hr : Go p l e R s m args below meth c n0 Q h k n (mkF m (pc + 2) l' st)) : Go p l e R s m args below meth c n0 Q h k n (mkF m pc Ls (v :: st)) :=
  go_step (fun T L X t S => XS.astore X.here K.1 rfl (hb K.2.2.2.1 hd) rfl hv hl S) hr
theorem g_astoreN (K : Kx Z own nm bytes ml rt p s m meth c) (pc : Nat) {i : Fin 4} {v : Value} (l' : Array Slot) (hd : decode bytes pc = .ok (.astore_n i, 1)) (hv : v.isRef = true) (hl : storeLocals Ls i.val v = some l') (hr : Go p l e R s m args below meth c n0 Q h k n (mkF m (pc + 1) l' st)) : Go p l e R s m args below meth c n0 Q h k n (mkF m pc Ls (v :: st)) :=
  go_step (fun T L X t S => XS.astoreN X.here K.1 rfl (hb K.2.2.2.1 hd) rfl hv hl S) hr
theorem g_iconst (K : Kx Z own nm bytes ml rt p s m meth c) (pc : Nat) {i : Int} (v : Int32) (hd : decode bytes pc = .ok (.iconst i, 1)) (hv : Int32.ofInt i = v) (hr : Go p l e R s m args below meth c n0 Q h k n (mkF m (pc + 1) Ls (.int v :: st))) : Go p l e R s m args below meth c n0 Q h k n (mkF m pc Ls st) :=
  go_step (fun T L X t S => XT.iconstV X.here K.1 rfl v (hb K.2.2.2.1 hd) hv S) hr
theorem g_bipush (K : Kx Z own nm bytes ml rt p s m meth c) (pc : Nat) {i : Int} (v : Int32) (hd : decode bytes pc = .ok (.bipush i, 2)) (hv : (Int8.ofInt i).toInt32 = v) (hr : Go p l e R s m args below meth c n0 Q h k n (mkF m (pc + 2) Ls (.int v :: st))) : Go p l e R s m args below meth c n0 Q h k n (mkF m pc Ls st) :=
  go_step (fun T L X t S => XT.bipushV X.here K.1 rfl v (hb K.2.2.2.1 hd) hv S) hr
theorem g_sipush (K : Kx Z own nm bytes ml rt p s m meth c) (pc : Nat) {i : Int} (v : Int32) (hd : decode bytes pc = .ok (.sipush i, 3)) (hv : (Int16.ofInt i).toInt32 = v) (hr : Go p l e R s m args below meth c n0 Q h k n (mkF m (pc + 3) Ls (.int v :: st))) : Go p l e R s m args below meth c n0 Q h k n (mkF m pc Ls st) :=
  go_step (fun T L X t S => XT.sipushV X.here K.1 rfl v (hb K.2.2.2.1 hd) hv S) hr
theorem g_lconst (K : Kx Z own nm bytes ml rt p s m meth c) (pc : Nat) {i : Fin 2} (v : Int64) (hd : decode bytes pc = .ok (.lconst i, 1)) (hv : Int64.ofNat i = v) (hr : Go p l e R s m args below meth c n0 Q h k n (mkF m (pc + 1) Ls (.long v :: st))) : Go p l e R s m args below meth c n0 Q h k n (mkF m pc Ls st) :=
  go_step (fun T L X t S => XT.lconstV X.here K.1 rfl v (hb K.2.2.2.1 hd) hv S) hr
theorem g_aconst_null (K : Kx Z own nm bytes ml rt p s m meth c) (pc : Nat)  (hd : decode bytes pc = .ok (.aconst_null, 1))  (hr : Go p l e R s m args below meth c n0 Q h k n (mkF m (pc + 1) Ls (.null :: st))) : Go p l e R s m args below meth c n0 Q h k n (mkF m pc Ls st) :=
  go_step (fun T L X t S => XS.aconstNull X.here K.1 rfl (hb K.2.2.2.1 hd)  S) hr
theorem g_iinc (K : Kx Z own nm bytes ml rt p s m meth c) (pc : Nat) {i : Nat} {cst : Int} {x : Int32} (v : Int32) (l' : Array Slot) (hd : decode bytes pc = .ok (.iinc i cst, 3)) (hv : Int32.ofInt cst = v) (hl : Ls[i]? = some (.val (.int x))) (hl' : storeLocals Ls i (.int (x + v)) = some l') (hr : Go p l e R s m args below meth c n0 Q h k n (mkF m (pc + 3) l' st)) : Go p l e R s m args below meth c n0 Q h k n (mkF m pc Ls st) :=
  go_step (fun T L X t S => XT.iincV X.here K.1 rfl v (hb K.2.2.2.1 hd) hv hl hl' S) hr
theorem g_iadd (K : Kx Z own nm bytes ml rt p s m meth c) (pc : Nat) {x y : Int32} (hd : decode bytes pc = .ok (.iadd, 1))  (hr : Go p l e R s m args below meth c n0 Q h k n (mkF m (pc + 1) Ls (.int (x + y) :: st))) : Go p l e R s m args below meth c n0 Q h k n (mkF m pc Ls (.int y :: .int x :: st)) :=
  go_step (fun T L X t S => XS.iadd X.here K.1 rfl (hb K.2.2.2.1 hd) rfl S) hr
theorem g_isub (K : Kx Z own nm bytes ml rt p s m meth c) (pc : Nat) {x y : Int32} (hd : decode bytes pc = .ok (.isub, 1))  (hr : Go p l e R s m args below meth c n0 Q h k n (mkF m (pc + 1) Ls (.int (x - y) :: st))) : Go p l e R s m args below meth c n0 Q h k n (mkF m pc Ls (.int y :: .int x :: st)) :=
  go_step (fun T L X t S => XS.isub X.here K.1 rfl (hb K.2.2.2.1 hd) rfl S) hr
theorem g_imul (K : Kx Z own nm bytes ml rt p s m meth c) (pc : Nat) {x y : Int32} (hd : decode bytes pc = .ok (.imul, 1))  (hr : Go p l e R s m args below meth c n0 Q h k n (mkF m (pc + 1) Ls (.int (x * y) :: st))) : Go p l e R s m args below meth c n0 Q h k n (mkF m pc Ls (.int y :: .int x :: st)) :=
  go_step (fun T L X t S => XS.imul X.here K.1 rfl (hb K.2.2.2.1 hd) rfl S) hr
theorem g_iand (K : Kx Z own nm bytes ml rt p s m meth c) (pc : Nat) {x y : Int32} (hd : decode bytes pc = .ok (.iand, 1))  (hr : Go p l e R s m args below meth c n0 Q h k n (mkF m (pc + 1) Ls (.int (x &&& y) :: st))) : Go p l e R s m args below meth c n0 Q h k n (mkF m pc Ls (.int y :: .int x :: st)) :=
  go_step (fun T L X t S => XS.iand X.here K.1 rfl (hb K.2.2.2.1 hd) rfl S) hr
theorem g_ior (K : Kx Z own nm bytes ml rt p s m meth c) (pc : Nat) {x y : Int32} (hd : decode bytes pc = .ok (.ior, 1))  (hr : Go p l e R s m args below meth c n0 Q h k n (mkF m (pc + 1) Ls (.int (x ||| y) :: st))) : Go p l e R s m args below meth c n0 Q h k n (mkF m pc Ls (.int y :: .int x :: st)) :=
  go_step (fun T L X t S => XT.ior X.here K.1 rfl (hb K.2.2.2.1 hd) rfl S) hr
theorem g_ixor (K : Kx Z own nm bytes ml rt p s m meth c) (pc : Nat) {x y : Int32} (hd : decode bytes pc = .ok (.ixor, 1))  (hr : Go p l e R s m args below meth c n0 Q h k n (mkF m (pc + 1) Ls (.int (x ^^^ y) :: st))) : Go p l e R s m args below meth c n0 Q h k n (mkF m pc Ls (.int y :: .int x :: st)) :=
  go_step (fun T L X t S => XT.ixor X.here K.1 rfl (hb K.2.2.2.1 hd) rfl S) hr
theorem g_ishl (K : Kx Z own nm bytes ml rt p s m meth c) (pc : Nat) {x y : Int32} (hd : decode bytes pc = .ok (.ishl, 1))  (hr : Go p l e R s m args below meth c n0 Q h k n (mkF m (pc + 1) Ls (.int (x <<< (y &&& 31)) :: st))) : Go p l e R s m args below meth c n0 Q h k n (mkF m pc Ls (.int y :: .int x :: st)) :=
  go_step (fun T L X t S => XT.ishl X.here K.1 rfl (hb K.2.2.2.1 hd) rfl S) hr
theorem g_ishr (K : Kx Z own nm bytes ml rt p s m meth c) (pc : Nat) {x y : Int32} (hd : decode bytes pc = .ok (.ishr, 1))  (hr : Go p l e R s m args below meth c n0 Q h k n (mkF m (pc + 1) Ls (.int (x >>> (y &&& 31)) :: st))) : Go p l e R s m args below meth c n0 Q h k n (mkF m pc Ls (.int y :: .int x :: st)) :=
  go_step (fun T L X t S => XT.ishr X.here K.1 rfl (hb K.2.2.2.1 hd) rfl S) hr
theorem g_iushr (K : Kx Z own nm bytes ml rt p s m meth c) (pc : Nat) {x y : Int32} (hd : decode bytes pc = .ok (.iushr, 1))  (hr : Go p l e R s m args below meth c n0 Q h k n (mkF m (pc + 1) Ls (.int (XT.ushr x y) :: st))) : Go p l e R s m args below meth c n0 Q h k n (mkF m pc Ls (.int y :: .int x :: st)) :=
  go_step (fun T L X t S => XT.iushr X.here K.1 rfl (hb K.2.2.2.1 hd) rfl S) hr
theorem g_idiv (K : Kx Z own nm bytes ml rt p s m meth c) (pc : Nat) {x y : Int32} (hd : decode bytes pc = .ok (.idiv, 1)) (hy : y ≠ 0) (hr : Go p l e R s m args below meth c n0 Q h k n (mkF m (pc + 1) Ls (.int (x / y) :: st))) : Go p l e R s m args below meth c n0 Q h k n (mkF m pc Ls (.int y :: .int x :: st)) :=
  go_step (fun T L X t S => XS.idiv X.here K.1 rfl (hb K.2.2.2.1 hd) rfl hy S) hr
theorem g_irem (K : Kx Z own nm bytes ml rt p s m meth c) (pc : Nat) {x y : Int32} (hd : decode bytes pc = .ok (.irem, 1)) (hy : y ≠ 0) (hr : Go p l e R s m args below meth c n0 Q h k n (mkF m (pc + 1) Ls (.int (x % y) :: st))) : Go p l e R s m args below meth c n0 Q h k n (mkF m pc Ls (.int y :: .int x :: st)) :=
  go_step (fun T L X t S => iremM X K.1 rfl (hb K.2.2.2.1 hd) rfl hy S) hr
theorem g_ineg (K : Kx Z own nm bytes ml rt p s m meth c) (pc : Nat) {x : Int32} (hd : decode bytes pc = .ok (.ineg, 1))  (hr : Go p l e R s m args below meth c n0 Q h k n (mkF m (pc + 1) Ls (.int (-x) :: st))) : Go p l e R s m args below meth c n0 Q h k n (mkF m pc Ls (.int x :: st)) :=
  go_step (fun T L X t S => XS.ineg X.here K.1 rfl (hb K.2.2.2.1 hd) rfl S) hr
theorem g_ladd (K : Kx Z own nm bytes ml rt p s m meth c) (pc : Nat) {x y : Int64} (hd : decode bytes pc = .ok (.ladd, 1))  (hr : Go p l e R s m args below meth c n0 Q h k n (mkF m (pc + 1) Ls (.long (x + y) :: st))) : Go p l e R s m args below meth c n0 Q h k n (mkF m pc Ls (.long y :: .long x :: st)) :=
  go_step (fun T L X t S => XT.ladd X.here K.1 rfl (hb K.2.2.2.1 hd) rfl S) hr
theorem g_lsub (K : Kx Z own nm bytes ml rt p s m meth c) (pc : Nat) {x y : Int64} (hd : decode bytes pc = .ok (.lsub, 1))  (hr : Go p l e R s m args below meth c n0 Q h k n (mkF m (pc + 1) Ls (.long (x - y) :: st))) : Go p l e R s m args below meth c n0 Q h k n (mkF m pc Ls (.long y :: .long x :: st)) :=
  go_step (fun T L X t S => XT.lsub X.here K.1 rfl (hb K.2.2.2.1 hd) rfl S) hr
theorem g_lmul (K : Kx Z own nm bytes ml rt p s m meth c) (pc : Nat) {x y : Int64} (hd : decode bytes pc = .ok (.lmul, 1))  (hr : Go p l e R s m args below meth c n0 Q h k n (mkF m (pc + 1) Ls (.long (x * y) :: st))) : Go p l e R s m args below meth c n0 Q h k n (mkF m pc Ls (.long y :: .long x :: st)) :=
  go_step (fun T L X t S => XT.lmul X.here K.1 rfl (hb K.2.2.2.1 hd) rfl S) hr
theorem g_land (K : Kx Z own nm bytes ml rt p s m meth c) (pc : Nat) {x y : Int64} (hd : decode bytes pc = .ok (.land, 1))  (hr : Go p l e R s m args below meth c n0 Q h k n (mkF m (pc + 1) Ls (.long (x &&& y) :: st))) : Go p l e R s m args below meth c n0 Q h k n (mkF m pc Ls (.long y :: .long x :: st)) :=
  go_step (fun T L X t S => XT.land X.here K.1 rfl (hb K.2.2.2.1 hd) rfl S) hr
theorem g_lor (K : Kx Z own nm bytes ml rt p s m meth c) (pc : Nat) {x y : Int64} (hd : decode bytes pc = .ok (.lor, 1))  (hr : Go p l e R s m args below meth c n0 Q h k n (mkF m (pc + 1) Ls (.long (x ||| y) :: st))) : Go p l e R s m args below meth c n0 Q h k n (mkF m pc Ls (.long y :: .long x :: st)) :=
  go_step (fun T L X t S => XT.lor X.here K.1 rfl (hb K.2.2.2.1 hd) rfl S) hr
theorem g_lxor (K : Kx Z own nm bytes ml rt p s m meth c) (pc : Nat) {x y : Int64} (hd : decode bytes pc = .ok (.lxor, 1))  (hr : Go p l e R s m args below meth c n0 Q h k n (mkF m (pc + 1) Ls (.long (x ^^^ y) :: st))) : Go p l e R s m args below meth c n0 Q h k n (mkF m pc Ls (.long y :: .long x :: st)) :=
  go_step (fun T L X t S => XT.lxor X.here K.1 rfl (hb K.2.2.2.1 hd) rfl S) hr
theorem g_ldiv (K : Kx Z own nm bytes ml rt p s m meth c) (pc : Nat) {x y : Int64} (hd : decode bytes pc = .ok (.ldiv, 1)) (hy : y ≠ 0) (hr : Go p l e R s m args below meth c n0 Q h k n (mkF m (pc + 1) Ls (.long (x / y) :: st))) : Go p l e R s m args below meth c n0 Q h k n (mkF m pc Ls (.long y :: .long x :: st)) :=
  go_step (fun T L X t S => XT.ldiv X.here K.1 rfl (hb K.2.2.2.1 hd) rfl hy S) hr
theorem g_lshl (K : Kx Z own nm bytes ml rt p s m meth c) (pc : Nat) {x : Int64} {y : Int32} (hd : decode bytes pc = .ok (.lshl, 1))  (hr : Go p l e R s m args below meth c n0 Q h k n (mkF m (pc + 1) Ls (.long (x <<< (y.toInt64 &&& 63)) :: st))) : Go p l e R s m args below meth c n0 Q h k n (mkF m pc Ls (.int y :: .long x :: st)) :=
  go_step (fun T L X t S => XT.lshl X.here K.1 rfl (hb K.2.2.2.1 hd) rfl S) hr
theorem g_lshr (K : Kx Z own nm bytes ml rt p s m meth c) (pc : Nat) {x : Int64} {y : Int32} (hd : decode bytes pc = .ok (.lshr, 1))  (hr : Go p l e R s m args below meth c n0 Q h k n (mkF m (pc + 1) Ls (.long (x >>> (y.toInt64 &&& 63)) :: st))) : Go p l e R s m args below meth c n0 Q h k n (mkF m pc Ls (.int y :: .long x :: st)) :=
  go_step (fun T L X t S => XT.lshr X.here K.1 rfl (hb K.2.2.2.1 hd) rfl S) hr
theorem g_lushr (K : Kx Z own nm bytes ml rt p s m meth c) (pc : Nat) {x : Int64} {y : Int32} (hd : decode bytes pc = .ok (.lushr, 1))  (hr : Go p l e R s m args below meth c n0 Q h k n (mkF m (pc + 1) Ls (.long (XT.ushrL x y) :: st))) : Go p l e R s m args below meth c n0 Q h k n (mkF m pc Ls (.int y :: .long x :: st)) :=
  go_step (fun T L X t S => XT.lushr X.here K.1 rfl (hb K.2.2.2.1 hd) rfl S) hr
theorem g_lneg (K : Kx Z own nm bytes ml rt p s m meth c) (pc : Nat) {x : Int64} (hd : decode bytes pc = .ok (.lneg, 1))  (hr : Go p l e R s m args below meth c n0 Q h k n (mkF m (pc + 1) Ls (.long (-x) :: st))) : Go p l e R s m args below meth c n0 Q h k n (mkF m pc Ls (.long x :: st)) :=
  go_step (fun T L X t S => XT.lneg X.here K.1 rfl (hb K.2.2.2.1 hd) rfl S) hr
theorem g_i2l (K : Kx Z own nm bytes ml rt p s m meth c) (pc : Nat) {x : Int32} (hd : decode bytes pc = .ok (.i2l, 1))  (hr : Go p l e R s m args below meth c n0 Q h k n (mkF m (pc + 1) Ls (.long x.toInt64 :: st))) : Go p l e R s m args below meth c n0 Q h k n (mkF m pc Ls (.int x :: st)) :=
  go_step (fun T L X t S => XT.i2l X.here K.1 rfl (hb K.2.2.2.1 hd) rfl S) hr
theorem g_l2i (K : Kx Z own nm bytes ml rt p s m meth c) (pc : Nat) {x : Int64} (hd : decode bytes pc = .ok (.l2i, 1))  (hr : Go p l e R s m args below meth c n0 Q h k n (mkF m (pc + 1) Ls (.int x.toInt32 :: st))) : Go p l e R s m args below meth c n0 Q h k n (mkF m pc Ls (.long x :: st)) :=
  go_step (fun T L X t S => XT.l2i X.here K.1 rfl (hb K.2.2.2.1 hd) rfl S) hr
theorem g_i2b (K : Kx Z own nm bytes ml rt p s m meth c) (pc : Nat) {x : Int32} (hd : decode bytes pc = .ok (.i2b, 1))  (hr : Go p l e R s m args below meth c n0 Q h k n (mkF m (pc + 1) Ls (.int x.toInt8.toInt32 :: st))) : Go p l e R s m args below meth c n0 Q h k n (mkF m pc Ls (.int x :: st)) :=
  go_step (fun T L X t S => XT.i2b X.here K.1 rfl (hb K.2.2.2.1 hd) rfl S) hr
theorem g_i2s (K : Kx Z own nm bytes ml rt p s m meth c) (pc : Nat) {x : Int32} (hd : decode bytes pc = .ok (.i2s, 1))  (hr : Go p l e R s m args below meth c n0 Q h k n (mkF m (pc + 1) Ls (.int x.toInt16.toInt32 :: st))) : Go p l e R s m args below meth c n0 Q h k n (mkF m pc Ls (.int x :: st)) :=
  go_step (fun T L X t S => XT.i2s X.here K.1 rfl (hb K.2.2.2.1 hd) rfl S) hr
theorem g_lcmp (K : Kx Z own nm bytes ml rt p s m meth c) (pc : Nat) {x y : Int64} (hd : decode bytes pc = .ok (.lcmp, 1))  (hr : Go p l e R s m args below meth c n0 Q h k n (mkF m (pc + 1) Ls (.int (XT.cmpL x y) :: st))) : Go p l e R s m args below meth c n0 Q h k n (mkF m pc Ls (.long y :: .long x :: st)) :=
  go_step (fun T L X t S => XT.lcmp X.here K.1 rfl (hb K.2.2.2.1 hd) rfl S) hr
theorem g_dup (K : Kx Z own nm bytes ml rt p s m meth c) (pc : Nat) {v : Value} (hd : decode bytes pc = .ok (.dup, 1)) (hc : v.category = 1) (hr : Go p l e R s m args below meth c n0 Q h k n (mkF m (pc + 1) Ls (v :: v :: st))) : Go p l e R s m args below meth c n0 Q h k n (mkF m pc Ls (v :: st)) :=
  go_step (fun T L X t S => XS.dup X.here K.1 rfl (hb K.2.2.2.1 hd) rfl hc S) hr
theorem g_pop (K : Kx Z own nm bytes ml rt p s m meth c) (pc : Nat) {v : Value} (hd : decode bytes pc = .ok (.pop, 1)) (hc : v.category = 1) (hr : Go p l e R s m args below meth c n0 Q h k n (mkF m (pc + 1) Ls st)) : Go p l e R s m args below meth c n0 Q h k n (mkF m pc Ls (v :: st)) :=
  go_step (fun T L X t S => XT.pop X.here K.1 rfl (hb K.2.2.2.1 hd) rfl hc S) hr
theorem g_goto (K : Kx Z own nm bytes ml rt p s m meth c) (pc pc' : Nat) {o : Int} (hd : decode bytes pc = .ok (.goto o, 3)) (ho : 0 ≤ (pc : Int) + o) (hp : ((pc : Int) + o).toNat = pc') (hr : Go p l e R s m args below meth c n0 Q h k n (mkF m pc' Ls st)) : Go p l e R s m args below meth c n0 Q h k n (mkF m pc Ls st) :=
  go_step (fun T L X t S => XS.goto X.here K.1 rfl rfl (hb K.2.2.2.1 hd) ho hp S) hr
theorem g_if_eq (K : Kx Z own nm bytes ml rt p s m meth c) (pc pc' : Nat) {o : Int} {x : Int32} (hd : decode bytes pc = .ok (.ifCond .eq o, 3)) (ho : 0 ≤ (pc : Int) + o) (hp : ((pc : Int) + o).toNat = pc') (hT : x = 0 → Go p l e R s m args below meth c n0 Q h k n (mkF m pc' Ls st)) (hF : ¬ x = 0 → Go p l e R s m args below meth c n0 Q h k n (mkF m (pc + 3) Ls st)) : Go p l e R s m args below meth c n0 Q h k n (mkF m pc Ls (.int x :: st)) := by
  by_cases q : x = 0
  · exact go_step (fun T L X t S => XS.ifYes X.here K.1 rfl rfl (hb K.2.2.2.1 hd) rfl (XT.i0_eq_t q) ho hp S) (hT q)
  · exact go_step (fun T L X t S => XS.ifNo X.here K.1 rfl (hb K.2.2.2.1 hd) rfl (XT.i0_eq_f q) S) (hF q)
theorem g_ii_eq (K : Kx Z own nm bytes ml rt p s m meth c) (pc pc' : Nat) {o : Int} {x y : Int32} (hd : decode bytes pc = .ok (.if_icmp .eq o, 3)) (ho : 0 ≤ (pc : Int) + o) (hp : ((pc : Int) + o).toNat = pc') (hT : x = y → Go p l e R s m args below meth c n0 Q h k n (mkF m pc' Ls st)) (hF : ¬ x = y → Go p l e R s m args below meth c n0 Q h k n (mkF m (pc + 3) Ls st)) : Go p l e R s m args below meth c n0 Q h k n (mkF m pc Ls (.int y :: .int x :: st)) := by
  by_cases q : x = y
  · exact go_step (fun T L X t S => XS.icmpYes X.here K.1 rfl rfl (hb K.2.2.2.1 hd) rfl (XT.ii_eq_t q) ho hp S) (hT q)
  · exact go_step (fun T L X t S => XS.icmpNo X.here K.1 rfl (hb K.2.2.2.1 hd) rfl (XT.ii_eq_f q) S) (hF q)
theorem g_ll_eq (K : Kx Z own nm bytes ml rt p s m meth c) (pc pc' : Nat) {o : Int} {x y : Int64} (hd : decode bytes pc = .ok (.ifCond .eq o, 3)) (ho : 0 ≤ (pc : Int) + o) (hp : ((pc : Int) + o).toNat = pc') (hT : x = y → Go p l e R s m args below meth c n0 Q h k n (mkF m pc' Ls st)) (hF : ¬ x = y → Go p l e R s m args below meth c n0 Q h k n (mkF m (pc + 3) Ls st)) : Go p l e R s m args below meth c n0 Q h k n (mkF m pc Ls (.int (XT.cmpL x y) :: st)) := by
  by_cases q : x = y
  · exact go_step (fun T L X t S => XS.ifYes X.here K.1 rfl rfl (hb K.2.2.2.1 hd) rfl (XT.ll_eq_t q) ho hp S) (hT q)
  · exact go_step (fun T L X t S => XS.ifNo X.here K.1 rfl (hb K.2.2.2.1 hd) rfl (XT.ll_eq_f q) S) (hF q)
theorem g_if_ne (K : Kx Z own nm bytes ml rt p s m meth c) (pc pc' : Nat) {o : Int} {x : Int32} (hd : decode bytes pc = .ok (.ifCond .ne o, 3)) (ho : 0 ≤ (pc : Int) + o) (hp : ((pc : Int) + o).toNat = pc') (hT : ¬ x = 0 → Go p l e R s m args below meth c n0 Q h k n (mkF m pc' Ls st)) (hF : x = 0 → Go p l e R s m args below meth c n0 Q h k n (mkF m (pc + 3) Ls st)) : Go p l e R s m args below meth c n0 Q h k n (mkF m pc Ls (.int x :: st)) := by
  by_cases q : x = 0
  · exact go_step (fun T L X t S => XS.ifNo X.here K.1 rfl (hb K.2.2.2.1 hd) rfl (XT.i0_ne_f q) S) (hF q)
  · exact go_step (fun T L X t S => XS.ifYes X.here K.1 rfl rfl (hb K.2.2.2.1 hd) rfl (XT.i0_ne_t q) ho hp S) (hT q)
theorem g_ii_ne (K : Kx Z own nm bytes ml rt p s m meth c) (pc pc' : Nat) {o : Int} {x y : Int32} (hd : decode bytes pc = .ok (.if_icmp .ne o, 3)) (ho : 0 ≤ (pc : Int) + o) (hp : ((pc : Int) + o).toNat = pc') (hT : ¬ x = y → Go p l e R s m args below meth c n0 Q h k n (mkF m pc' Ls st)) (hF : x = y → Go p l e R s m args below meth c n0 Q h k n (mkF m (pc + 3) Ls st)) : Go p l e R s m args below meth c n0 Q h k n (mkF m pc Ls (.int y :: .int x :: st)) := by
  by_cases q : x = y
  · exact go_step (fun T L X t S => XS.icmpNo X.here K.1 rfl (hb K.2.2.2.1 hd) rfl (XT.ii_ne_f q) S) (hF q)
  · exact go_step (fun T L X t S => XS.icmpYes X.here K.1 rfl rfl (hb K.2.2.2.1 hd) rfl (XT.ii_ne_t q) ho hp S) (hT q)
theorem g_ll_ne (K : Kx Z own nm bytes ml rt p s m meth c) (pc pc' : Nat) {o : Int} {x y : Int64} (hd : decode bytes pc = .ok (.ifCond .ne o, 3)) (ho : 0 ≤ (pc : Int) + o) (hp : ((pc : Int) + o).toNat = pc') (hT : ¬ x = y → Go p l e R s m args below meth c n0 Q h k n (mkF m pc' Ls st)) (hF : x = y → Go p l e R s m args below meth c n0 Q h k n (mkF m (pc + 3) Ls st)) : Go p l e R s m args below meth c n0 Q h k n (mkF m pc Ls (.int (XT.cmpL x y) :: st)) := by
  by_cases q : x = y
  · exact go_step (fun T L X t S => XS.ifNo X.here K.1 rfl (hb K.2.2.2.1 hd) rfl (XT.ll_ne_f q) S) (hF q)
  · exact go_step (fun T L X t S => XS.ifYes X.here K.1 rfl rfl (hb K.2.2.2.1 hd) rfl (XT.ll_ne_t q) ho hp S) (hT q)
theorem g_if_lt (K : Kx Z own nm bytes ml rt p s m meth c) (pc pc' : Nat) {o : Int} {x : Int32} (hd : decode bytes pc = .ok (.ifCond .lt o, 3)) (ho : 0 ≤ (pc : Int) + o) (hp : ((pc : Int) + o).toNat = pc') (hT : x < 0 → Go p l e R s m args below meth c n0 Q h k n (mkF m pc' Ls st)) (hF : ¬ x < 0 → Go p l e R s m args below meth c n0 Q h k n (mkF m (pc + 3) Ls st)) : Go p l e R s m args below meth c n0 Q h k n (mkF m pc Ls (.int x :: st)) := by
  by_cases q : x < 0
  · exact go_step (fun T L X t S => XS.ifYes X.here K.1 rfl rfl (hb K.2.2.2.1 hd) rfl (XT.i0_lt_t q) ho hp S) (hT q)
  · exact go_step (fun T L X t S => XS.ifNo X.here K.1 rfl (hb K.2.2.2.1 hd) rfl (XT.i0_lt_f q) S) (hF q)
theorem g_ii_lt (K : Kx Z own nm bytes ml rt p s m meth c) (pc pc' : Nat) {o : Int} {x y : Int32} (hd : decode bytes pc = .ok (.if_icmp .lt o, 3)) (ho : 0 ≤ (pc : Int) + o) (hp : ((pc : Int) + o).toNat = pc') (hT : x < y → Go p l e R s m args below meth c n0 Q h k n (mkF m pc' Ls st)) (hF : ¬ x < y → Go p l e R s m args below meth c n0 Q h k n (mkF m (pc + 3) Ls st)) : Go p l e R s m args below meth c n0 Q h k n (mkF m pc Ls (.int y :: .int x :: st)) := by
  by_cases q : x < y
  · exact go_step (fun T L X t S => XS.icmpYes X.here K.1 rfl rfl (hb K.2.2.2.1 hd) rfl (XT.ii_lt_t q) ho hp S) (hT q)
  · exact go_step (fun T L X t S => XS.icmpNo X.here K.1 rfl (hb K.2.2.2.1 hd) rfl (XT.ii_lt_f q) S) (hF q)
theorem g_ll_lt (K : Kx Z own nm bytes ml rt p s m meth c) (pc pc' : Nat) {o : Int} {x y : Int64} (hd : decode bytes pc = .ok (.ifCond .lt o, 3)) (ho : 0 ≤ (pc : Int) + o) (hp : ((pc : Int) + o).toNat = pc') (hT : x < y → Go p l e R s m args below meth c n0 Q h k n (mkF m pc' Ls st)) (hF : ¬ x < y → Go p l e R s m args below meth c n0 Q h k n (mkF m (pc + 3) Ls st)) : Go p l e R s m args below meth c n0 Q h k n (mkF m pc Ls (.int (XT.cmpL x y) :: st)) := by
  by_cases q : x < y
  · exact go_step (fun T L X t S => XS.ifYes X.here K.1 rfl rfl (hb K.2.2.2.1 hd) rfl (XT.ll_lt_t q) ho hp S) (hT q)
  · exact go_step (fun T L X t S => XS.ifNo X.here K.1 rfl (hb K.2.2.2.1 hd) rfl (XT.ll_lt_f q) S) (hF q)
theorem g_if_ge (K : Kx Z own nm bytes ml rt p s m meth c) (pc pc' : Nat) {o : Int} {x : Int32} (hd : decode bytes pc = .ok (.ifCond .ge o, 3)) (ho : 0 ≤ (pc : Int) + o) (hp : ((pc : Int) + o).toNat = pc') (hT : ¬ x < 0 → Go p l e R s m args below meth c n0 Q h k n (mkF m pc' Ls st)) (hF : x < 0 → Go p l e R s m args below meth c n0 Q h k n (mkF m (pc + 3) Ls st)) : Go p l e R s m args below meth c n0 Q h k n (mkF m pc Ls (.int x :: st)) := by
  by_cases q : x < 0
  · exact go_step (fun T L X t S => XS.ifNo X.here K.1 rfl (hb K.2.2.2.1 hd) rfl (XT.i0_ge_f q) S) (hF q)
  · exact go_step (fun T L X t S => XS.ifYes X.here K.1 rfl rfl (hb K.2.2.2.1 hd) rfl (XT.i0_ge_t q) ho hp S) (hT q)
theorem g_ii_ge (K : Kx Z own nm bytes ml rt p s m meth c) (pc pc' : Nat) {o : Int} {x y : Int32} (hd : decode bytes pc = .ok (.if_icmp .ge o, 3)) (ho : 0 ≤ (pc : Int) + o) (hp : ((pc : Int) + o).toNat = pc') (hT : ¬ x < y → Go p l e R s m args below meth c n0 Q h k n (mkF m pc' Ls st)) (hF : x < y → Go p l e R s m args below meth c n0 Q h k n (mkF m (pc + 3) Ls st)) : Go p l e R s m args below meth c n0 Q h k n (mkF m pc Ls (.int y :: .int x :: st)) := by
  by_cases q : x < y
  · exact go_step (fun T L X t S => XS.icmpNo X.here K.1 rfl (hb K.2.2.2.1 hd) rfl (XT.ii_ge_f q) S) (hF q)
  · exact go_step (fun T L X t S => XS.icmpYes X.here K.1 rfl rfl (hb K.2.2.2.1 hd) rfl (XT.ii_ge_t q) ho hp S) (hT q)
theorem g_ll_ge (K : Kx Z own nm bytes ml rt p s m meth c) (pc pc' : Nat) {o : Int} {x y : Int64} (hd : decode bytes pc = .ok (.ifCond .ge o, 3)) (ho : 0 ≤ (pc : Int) + o) (hp : ((pc : Int) + o).toNat = pc') (hT : ¬ x < y → Go p l e R s m args below meth c n0 Q h k n (mkF m pc' Ls st)) (hF : x < y → Go p l e R s m args below meth c n0 Q h k n (mkF m (pc + 3) Ls st)) : Go p l e R s m args below meth c n0 Q h k n (mkF m pc Ls (.int (XT.cmpL x y) :: st)) := by
  by_cases q : x < y
  · exact go_step (fun T L X t S => XS.ifNo X.here K.1 rfl (hb K.2.2.2.1 hd) rfl (XT.ll_ge_f q) S) (hF q)
  · exact go_step (fun T L X t S => XS.ifYes X.here K.1 rfl rfl (hb K.2.2.2.1 hd) rfl (XT.ll_ge_t q) ho hp S) (hT q)
theorem g_if_gt (K : Kx Z own nm bytes ml rt p s m meth c) (pc pc' : Nat) {o : Int} {x : Int32} (hd : decode bytes pc = .ok (.ifCond .gt o, 3)) (ho : 0 ≤ (pc : Int) + o) (hp : ((pc : Int) + o).toNat = pc') (hT : 0 < x → Go p l e R s m args below meth c n0 Q h k n (mkF m pc' Ls st)) (hF : ¬ 0 < x → Go p l e R s m args below meth c n0 Q h k n (mkF m (pc + 3) Ls st)) : Go p l e R s m args below meth c n0 Q h k n (mkF m pc Ls (.int x :: st)) := by
  by_cases q : 0 < x
  · exact go_step (fun T L X t S => XS.ifYes X.here K.1 rfl rfl (hb K.2.2.2.1 hd) rfl (XT.i0_gt_t q) ho hp S) (hT q)
  · exact go_step (fun T L X t S => XS.ifNo X.here K.1 rfl (hb K.2.2.2.1 hd) rfl (XT.i0_gt_f q) S) (hF q)
theorem g_ii_gt (K : Kx Z own nm bytes ml rt p s m meth c) (pc pc' : Nat) {o : Int} {x y : Int32} (hd : decode bytes pc = .ok (.if_icmp .gt o, 3)) (ho : 0 ≤ (pc : Int) + o) (hp : ((pc : Int) + o).toNat = pc') (hT : y < x → Go p l e R s m args below meth c n0 Q h k n (mkF m pc' Ls st)) (hF : ¬ y < x → Go p l e R s m args below meth c n0 Q h k n (mkF m (pc + 3) Ls st)) : Go p l e R s m args below meth c n0 Q h k n (mkF m pc Ls (.int y :: .int x :: st)) := by
  by_cases q : y < x
  · exact go_step (fun T L X t S => XS.icmpYes X.here K.1 rfl rfl (hb K.2.2.2.1 hd) rfl (XT.ii_gt_t q) ho hp S) (hT q)
  · exact go_step (fun T L X t S => XS.icmpNo X.here K.1 rfl (hb K.2.2.2.1 hd) rfl (XT.ii_gt_f q) S) (hF q)
theorem g_ll_gt (K : Kx Z own nm bytes ml rt p s m meth c) (pc pc' : Nat) {o : Int} {x y : Int64} (hd : decode bytes pc = .ok (.ifCond .gt o, 3)) (ho : 0 ≤ (pc : Int) + o) (hp : ((pc : Int) + o).toNat = pc') (hT : y < x → Go p l e R s m args below meth c n0 Q h k n (mkF m pc' Ls st)) (hF : ¬ y < x → Go p l e R s m args below meth c n0 Q h k n (mkF m (pc + 3) Ls st)) : Go p l e R s m args below meth c n0 Q h k n (mkF m pc Ls (.int (XT.cmpL x y) :: st)) := by
  by_cases q : y < x
  · exact go_step (fun T L X t S => XS.ifYes X.here K.1 rfl rfl (hb K.2.2.2.1 hd) rfl (XT.ll_gt_t q) ho hp S) (hT q)
  · exact go_step (fun T L X t S => XS.ifNo X.here K.1 rfl (hb K.2.2.2.1 hd) rfl (XT.ll_gt_f q) S) (hF q)
theorem g_if_le (K : Kx Z own nm bytes ml rt p s m meth c) (pc pc' : Nat) {o : Int} {x : Int32} (hd : decode bytes pc = .ok (.ifCond .le o, 3)) (ho : 0 ≤ (pc : Int) + o) (hp : ((pc : Int) + o).toNat = pc') (hT : ¬ 0 < x → Go p l e R s m args below meth c n0 Q h k n (mkF m pc' Ls st)) (hF : 0 < x → Go p l e R s m args below meth c n0 Q h k n (mkF m (pc + 3) Ls st)) : Go p l e R s m args below meth c n0 Q h k n (mkF m pc Ls (.int x :: st)) := by
  by_cases q : 0 < x
  · exact go_step (fun T L X t S => XS.ifNo X.here K.1 rfl (hb K.2.2.2.1 hd) rfl (XT.i0_le_f q) S) (hF q)
  · exact go_step (fun T L X t S => XS.ifYes X.here K.1 rfl rfl (hb K.2.2.2.1 hd) rfl (XT.i0_le_t q) ho hp S) (hT q)
theorem g_ii_le (K : Kx Z own nm bytes ml rt p s m meth c) (pc pc' : Nat) {o : Int} {x y : Int32} (hd : decode bytes pc = .ok (.if_icmp .le o, 3)) (ho : 0 ≤ (pc : Int) + o) (hp : ((pc : Int) + o).toNat = pc') (hT : ¬ y < x → Go p l e R s m args below meth c n0 Q h k n (mkF m pc' Ls st)) (hF : y < x → Go p l e R s m args below meth c n0 Q h k n (mkF m (pc + 3) Ls st)) : Go p l e R s m args below meth c n0 Q h k n (mkF m pc Ls (.int y :: .int x :: st)) := by
  by_cases q : y < x
  · exact go_step (fun T L X t S => XS.icmpNo X.here K.1 rfl (hb K.2.2.2.1 hd) rfl (XT.ii_le_f q) S) (hF q)
  · exact go_step (fun T L X t S => XS.icmpYes X.here K.1 rfl rfl (hb K.2.2.2.1 hd) rfl (XT.ii_le_t q) ho hp S) (hT q)
theorem g_ll_le (K : Kx Z own nm bytes ml rt p s m meth c) (pc pc' : Nat) {o : Int} {x y : Int64} (hd : decode bytes pc = .ok (.ifCond .le o, 3)) (ho : 0 ≤ (pc : Int) + o) (hp : ((pc : Int) + o).toNat = pc') (hT : ¬ y < x → Go p l e R s m args below meth c n0 Q h k n (mkF m pc' Ls st)) (hF : y < x → Go p l e R s m args below meth c n0 Q h k n (mkF m (pc + 3) Ls st)) : Go p l e R s m args below meth c n0 Q h k n (mkF m pc Ls (.int (XT.cmpL x y) :: st)) := by
  by_cases q : y < x
  · exact go_step (fun T L X t S => XS.ifNo X.here K.1 rfl (hb K.2.2.2.1 hd) rfl (XT.ll_le_f q) S) (hF q)
  · exact go_step (fun T L X t S => XS.ifYes X.here K.1 rfl rfl (hb K.2.2.2.1 hd) rfl (XT.ll_le_t q) ho hp S) (hT q)
theorem g_aa_eq (K : Kx Z own nm bytes ml rt p s m meth c) (pc pc' : Nat) {o : Int} {x y : Value} (hx' : x.isRef = true) (hy' : y.isRef = true) (hd : decode bytes pc = .ok (.if_acmp .eq o, 3)) (ho : 0 ≤ (pc : Int) + o) (hp : ((pc : Int) + o).toNat = pc') (hT : x = y → Go p l e R s m args below meth c n0 Q h k n (mkF m pc' Ls st)) (hF : ¬ x = y → Go p l e R s m args below meth c n0 Q h k n (mkF m (pc + 3) Ls st)) : Go p l e R s m args below meth c n0 Q h k n (mkF m pc Ls (y :: x :: st)) := by
  by_cases q : x = y
  · exact go_step (fun T L X t S => XT.acmpYes X.here K.1 rfl rfl (hb K.2.2.2.1 hd) rfl hx' hy' (XT.aa_eq_t q) ho hp S) (hT q)
  · exact go_step (fun T L X t S => XT.acmpNo X.here K.1 rfl (hb K.2.2.2.1 hd) rfl hx' hy' (XT.aa_eq_f q) S) (hF q)
theorem g_aa_ne (K : Kx Z own nm bytes ml rt p s m meth c) (pc pc' : Nat) {o : Int} {x y : Value} (hx' : x.isRef = true) (hy' : y.isRef = true) (hd : decode bytes pc = .ok (.if_acmp .ne o, 3)) (ho : 0 ≤ (pc : Int) + o) (hp : ((pc : Int) + o).toNat = pc') (hT : ¬ x = y → Go p l e R s m args below meth c n0 Q h k n (mkF m pc' Ls st)) (hF : x = y → Go p l e R s m args below meth c n0 Q h k n (mkF m (pc + 3) Ls st)) : Go p l e R s m args below meth c n0 Q h k n (mkF m pc Ls (y :: x :: st)) := by
  by_cases q : x = y
  · exact go_step (fun T L X t S => XT.acmpNo X.here K.1 rfl (hb K.2.2.2.1 hd) rfl hx' hy' (XT.aa_ne_f q) S) (hF q)
  · exact go_step (fun T L X t S => XT.acmpYes X.here K.1 rfl rfl (hb K.2.2.2.1 hd) rfl hx' hy' (XT.aa_ne_t q) ho hp S) (hT q)
theorem g_ifnull_ref (K : Kx Z own nm bytes ml rt p s m meth c) (pc : Nat) {o : Int} {b : Addr} (hd : decode bytes pc = .ok (.ifnull o, 3)) (hr : Go p l e R s m args below meth c n0 Q h k n (mkF m (pc + 3) Ls st)) : Go p l e R s m args below meth c n0 Q h k n (mkF m pc Ls (.ref b :: st)) :=
  go_step (fun T L X t S => XS.ifnullNo X.here K.1 rfl (hb K.2.2.2.1 hd) rfl S) hr
theorem g_ifnull_null (K : Kx Z own nm bytes ml rt p s m meth c) (pc pc' : Nat) {o : Int} (hd : decode bytes pc = .ok (.ifnull o, 3)) (ho : 0 ≤ (pc : Int) + o) (hp : ((pc : Int) + o).toNat = pc') (hr : Go p l e R s m args below meth c n0 Q h k n (mkF m pc' Ls st)) : Go p l e R s m args below meth c n0 Q h k n (mkF m pc Ls (.null :: st)) :=
  go_step (fun T L X t S => XS.ifnullYes X.here K.1 rfl rfl (hb K.2.2.2.1 hd) rfl ho hp S) hr
theorem g_ldc (K : Kx Z own nm bytes ml rt p s m meth c) (pc : Nat) {i : Nat} {v : Int32} (hd : decode bytes pc = .ok (.ldc i, 2)) (w : (Jvm.Cond.constant own i v).before a0 Z = true) (hr : Go p l e R s m args below meth c n0 Q h k n (mkF m (pc + 2) Ls (.int v :: st))) : Go p l e R s m args below meth c n0 Q h k n (mkF m pc Ls st) :=
  go_step (fun T L X t S => X.ldcI K.1 K.2.2.1 (mvT K.2.1 w) rfl (hb K.2.2.2.1 hd) S) hr
theorem g_ldc_w (K : Kx Z own nm bytes ml rt p s m meth c) (pc : Nat) {i : Nat} {v : Int32} (hd : decode bytes pc = .ok (.ldc_w i, 3)) (w : (Jvm.Cond.constant own i v).before a0 Z = true) (hr : Go p l e R s m args below meth c n0 Q h k n (mkF m (pc + 3) Ls (.int v :: st))) : Go p l e R s m args below meth c n0 Q h k n (mkF m pc Ls st) :=
  go_step (fun T L X t S => X.ldcWI K.1 K.2.2.1 (mvT K.2.1 w) rfl (hb K.2.2.2.1 hd) S) hr
theorem g_ldc2_w (K : Kx Z own nm bytes ml rt p s m meth c) (pc : Nat) {i : Nat} {v : Int64} (hd : decode bytes pc = .ok (.ldc2_w i, 3)) (w : (Jvm.Cond.constantLong own i v).before a0 Z = true) (hr : Go p l e R s m args below meth c n0 Q h k n (mkF m (pc + 3) Ls (.long v :: st))) : Go p l e R s m args below meth c n0 Q h k n (mkF m pc Ls st) :=
  go_step (fun T L X t S => X.ldc2J K.1 K.2.2.1 (mvT K.2.1 w) rfl (hb K.2.2.2.1 hd) S) hr
theorem g_ireturn (K : Kx Z own nm bytes ml rt p s m meth c) (pc : Nat) {z : Int32} (hd : decode bytes pc = .ok (.ireturn, 1)) (hrt : rt = some .int)  (hk : k ≤ R.cells) (hn : n ≤ R.slots) (hq : Q (some (.int z)) h) : Go p l e R s m args below meth c n0 Q h k n (mkF m pc Ls [.int z]) := by
  intro T L X eT N
  obtain ⟨fs, hr, hrun, hended, hW, hsame⟩ := X.leave (v := some (.int z)) (fun hh => by first | rfl | (rw [K.2.2.2.2.2.1, hrt] at hh; cases hh)) K.2.2.2.2.2.2.1
  refine ⟨_, _, X.ireturnOut K.1 (K.2.2.2.2.2.1.trans hrt) rfl (Or.inl rfl) (hb K.2.2.2.1 hd) hr, hrun, hended, _, L, rfl, ⟨?_, N⟩, ⟨_, rfl⟩, hW, hsame.mono hk hn⟩
  show Q _ T.heap
  rw [eT]; exact hq
theorem g_retN (K : Kx Z own nm bytes ml rt p s m meth c) (pc : Nat) {z : Int32} (t : FieldType) (hd : decode bytes pc = .ok (.ireturn, 1)) (hrt : rt = some t) (ht : t = .boolean ∨ t = .byte ∨ t = .char ∨ t = .short) (hk : k ≤ R.cells) (hn : n ≤ R.slots) (hq : Q (some (.int (nar t z))) h) : Go p l e R s m args below meth c n0 Q h k n (mkF m pc Ls (.int z :: st)) := by
  intro T L X eT N
  obtain ⟨fs, hr, hrun, hended, hW, hsame⟩ := X.leave (v := some (.int (nar t z))) (fun hh => by first | rfl | (rw [K.2.2.2.2.2.1, hrt] at hh; cases hh)) K.2.2.2.2.2.2.1
  refine ⟨_, _, retN X K.1 (K.2.2.2.2.2.1.trans hrt) ht (hb K.2.2.2.1 hd) hr, hrun, hended, _, L, rfl, ⟨?_, N⟩, ⟨_, rfl⟩, hW, hsame.mono hk hn⟩
  show Q _ T.heap
  rw [eT]; exact hq
theorem g_lreturn (K : Kx Z own nm bytes ml rt p s m meth c) (pc : Nat) {z : Int64} (hd : decode bytes pc = .ok (.lreturn, 1)) (hrt : rt = some .long)  (hk : k ≤ R.cells) (hn : n ≤ R.slots) (hq : Q (some (.long z)) h) : Go p l e R s m args below meth c n0 Q h k n (mkF m pc Ls [.long z]) := by
  intro T L X eT N
  obtain ⟨fs, hr, hrun, hended, hW, hsame⟩ := X.leave (v := some (.long z)) (fun hh => by first | rfl | (rw [K.2.2.2.2.2.1, hrt] at hh; cases hh)) K.2.2.2.2.2.2.1
  refine ⟨_, _, X.lreturnOut K.1 (K.2.2.2.2.2.1.trans hrt) (hb K.2.2.2.1 hd) hr, hrun, hended, _, L, rfl, ⟨?_, N⟩, ⟨_, rfl⟩, hW, hsame.mono hk hn⟩
  show Q _ T.heap
  rw [eT]; exact hq
theorem g_areturn (K : Kx Z own nm bytes ml rt p s m meth c) (pc : Nat) {w : Value} (t : FieldType) (hd : decode bytes pc = .ok (.areturn, 1)) (hrt : rt = some t) (hw : w.isRef = true) (ht : t.isReference = true) (hk : k ≤ R.cells) (hn : n ≤ R.slots) (hq : Q (some w) h) : Go p l e R s m args below meth c n0 Q h k n (mkF m pc Ls [w]) := by
  intro T L X eT N
  obtain ⟨fs, hr, hrun, hended, hW, hsame⟩ := X.leave (v := some w) (fun hh => by first | rfl | (rw [K.2.2.2.2.2.1, hrt] at hh; cases hh)) K.2.2.2.2.2.2.1
  refine ⟨_, _, X.areturnOut K.1 hw (K.2.2.2.2.2.1.trans hrt) ht (hb K.2.2.2.1 hd) hr, hrun, hended, _, L, rfl, ⟨?_, N⟩, ⟨_, rfl⟩, hW, hsame.mono hk hn⟩
  show Q _ T.heap
  rw [eT]; exact hq
theorem g_return (K : Kx Z own nm bytes ml rt p s m meth c) (pc : Nat)  (hd : decode bytes pc = .ok (.return_, 1)) (hrt : rt = none)  (hk : k ≤ R.cells) (hn : n ≤ R.slots) (hq : Q none h) : Go p l e R s m args below meth c n0 Q h k n (mkF m pc Ls []) := by
  intro T L X eT N
  obtain ⟨fs, hr, hrun, hended, hW, hsame⟩ := X.leave (v := none) (fun hh => by first | rfl | (rw [K.2.2.2.2.2.1, hrt] at hh; cases hh)) K.2.2.2.2.2.2.1
  refine ⟨_, _, X.returnOut K.1 (K.2.2.2.2.2.1.trans hrt) (hb K.2.2.2.1 hd) hr, hrun, hended, _, L, rfl, ⟨?_, N⟩, ⟨_, rfl⟩, hW, hsame.mono hk hn⟩
  show Q _ T.heap
  rw [eT]; exact hq
theorem g_getfield (K : Kx Z own nm bytes ml rt p s m meth c) (pc : Nat) {i : Nat} {C f d : String} {a : Addr} {v : Value} (hd : decode bytes pc = .ok (.getfield i, 3)) (w : (Jvm.Cond.fieldLink own i C f d).before a0 Z = true) (F : Fld Z h a C f d v) (hr : Go p l e R s m args below meth c n0 Q h k n (mkF m (pc + 3) Ls (v :: st))) : Go p l e R s m args below meth c n0 Q h k n (mkF m pc Ls (.ref a :: st)) := by
  intro T L X eT N
  obtain ⟨T', X', e', stp⟩ := getF X K.1 K.2.1 K.2.2.1 (host := "") (Or.inl w) Via.refl eT F (g := mkF m pc Ls (.ref a :: st)) rfl rfl (hb K.2.2.2.1 hd)
  obtain ⟨s₂, o, S, r⟩ := hr T' L X' e' N
  exact ⟨s₂, o, stp _ S, r⟩
theorem g_putfield (K : Kx Z own nm bytes ml rt p s m meth c) (pc : Nat) {i kk : Nat} {C f d : String} {a : Addr} {v old : Value} (ty : FieldType) (hd : decode bytes pc = .ok (.putfield i, 3)) (w : (Jvm.Cond.fieldLink own i C f d).before a0 Z = true) (F : Fld Z h a C f d old) (E : Exa Z h a C) (Lw : (Jvm.Cond.lays C C f d).before a0 Z = true ∨ ((Jvm.Cond.laysFinal C C f d).before a0 Z = true ∧ own = C ∧ nm = "<init>")) (wi : (Jvm.Cond.instantiable C kk).before a0 Z = true) (hty : parseFieldDescriptor d = some ty) (hnv : narrow ty v = v) (hfv : fits ty v = true) (ha : n0 ≤ a) (hr : ∀ h', Wr h h' a (Jvm.RoadKit.slotOf Z C f d) v → Keep h h' [a] → Go p l e R s m args below meth c n0 Q h' k n (mkF m (pc + 3) Ls st)) : Go p l e R s m args below meth c n0 Q h k n (mkF m pc Ls (v :: .ref a :: st)) := by
  intro T L X eT N
  obtain ⟨T', h', X', e', W, stp⟩ := putF X K.1 K.2.1 K.2.2.1 (host := "") (Or.inl w) Via.refl eT F E (Lw.imp id fun q => ⟨q.1, q.2.1, K.2.2.2.2.2.2.2.trans q.2.2⟩) wi hty hnv hfv (g := mkF m pc Ls (v :: .ref a :: st)) rfl rfl (hb K.2.2.2.1 hd)
  obtain ⟨s₂, o, S, r⟩ := hr h' W (Keep.of_wr W) T' _ X' e' (Fr.snoc X' N ha)
  exact ⟨s₂, o, stp _ S, r⟩
theorem g_new (K : Kx Z own nm bytes ml rt p s m meth c) (pc : Nat) {i kk : Nat} {C : String} (hd : decode bytes pc = .ok (.new i, 3)) (w : (Jvm.Cond.classLink own i C).before a0 Z = true) (wi : (Jvm.Cond.instantiable C kk).before a0 Z = true) (wz : (Jvm.Cond.initialized C).before a0 Z = true) (hk : k + 1 ≤ R.cells) (hn : n + kk ≤ R.slots) (hr : ∀ h' a, a = h.size → Keep h h' [] → Exa Z h' a C → (∀ {O f d : String} {ty : FieldType}, Laid Z a0 C O f d → parseFieldDescriptor d = some ty → Fld Z h' a O f d (defaultValue ty)) → Go p l e R s m args below meth c n0 Q h' (k + 1) (n + kk) (mkF m (pc + 3) Ls (.ref a :: st))) : Go p l e R s m args below meth c n0 Q h k n (mkF m pc Ls st) := by
  intro T L X eT N
  obtain ⟨T', h', X', e', E, A, D, -, stp⟩ := newO X K.1 K.2.1 K.2.2.1 w wi wz eT (g := mkF m pc Ls st) rfl (hb K.2.2.2.1 hd) hk hn
  obtain ⟨s₂, o, S, r⟩ := hr h' h.size rfl (keep_ext E) A D T' L X' e' N
  exact ⟨s₂, o, stp _ S, r⟩
theorem g_initO (K : Kx Z own nm bytes ml rt p s m meth c) (pc : Nat) {i : Nat} {a : Addr} (hd : decode bytes pc = .ok (.invokespecial i, 3)) (w1 : (Jvm.Cond.methodLink own i Lib.objectInit).before a0 Z = true) (w2 : (Jvm.Cond.instanceMethod Lib.objectInit).before a0 Z = true) (w3 : (Jvm.Cond.code Lib.objectInit ⟨#[0xb1]⟩ 1 none).before a0 Z = true) (hls : Ls.size = ml) (hf : 1 ≤ R.frames) (W : Nat) (hW : (st.map fun v => v.category).sum ≤ W) (hlo : W + 12 ≤ R.locals) (hr : Go p l e R s m args below meth c n0 Q h k n (mkF m (pc + 3) Ls st)) : Go p l e R s m args below meth c n0 Q h k n (mkF m pc Ls (.ref a :: st)) := by
  intro T L X eT N
  obtain ⟨T', X', e', stp⟩ := initO X K.1 K.2.1 K.2.2.1 w1 w2 w3 eT (g := mkF m pc Ls (.ref a :: st)) rfl (hls.trans K.2.2.2.2.1.symm) rfl (hb K.2.2.2.1 hd) hf (W := W) (by show 2 * 0 + _ ≤ _; omega) hlo
  obtain ⟨s₂, o, S, r⟩ := hr T' L X' e' N
  exact ⟨s₂, o, stp _ S, r⟩
theorem g_newI (K : Kx Z own nm bytes ml rt p s m meth c) (pc : Nat) {aty : ArrayType} {z : Int32} (ty : FieldType) (hd : decode bytes pc = .ok (.newarray aty, 2)) (hty : newarray.typeOf aty = ty) (hdef : defaultValue ty = .int 0) (w : (Jvm.Cond.arrayClass ty).before a0 Z = true) (hz : ¬ z < 0) (cap : Nat) (hcap : z.toNatClampNeg ≤ cap) (hb8 : cap * 8 ≤ 536870912) (hk : k + 1 ≤ R.cells) (hn : n + cap ≤ R.slots) (hr : ∀ h' a, a = h.size → Keep h h' [] → IA Z h' a ty (List.replicate z.toNatClampNeg 0) → Go p l e R s m args below meth c n0 Q h' (k + 1) (n + cap) (mkF m (pc + 2) Ls (.ref a :: st))) : Go p l e R s m args below meth c n0 Q h k n (mkF m pc Ls (.int z :: st)) := by
  subst hty
  intro T L X eT N
  obtain ⟨T', h', cA, X', e', E, A, stp⟩ := newP X K.1 K.2.1 w eT (g := mkF m pc Ls (.int z :: st)) rfl (hb K.2.2.2.1 hd) rfl hz hcap hb8 hk hn
  obtain ⟨s₂, o, S, r⟩ := hr h' h.size rfl (keep_ext E) ⟨_, A, by simp [newA, hdef]⟩ T' L X' e' N
  exact ⟨s₂, o, stp _ S, r⟩
theorem g_newJ (K : Kx Z own nm bytes ml rt p s m meth c) (pc : Nat) {z : Int32} (hd : decode bytes pc = .ok (.newarray .long, 2)) (w : (Jvm.Cond.arrayClass .long).before a0 Z = true) (hz : ¬ z < 0) (cap : Nat) (hcap : z.toNatClampNeg ≤ cap) (hb8 : cap * 8 ≤ 536870912) (hk : k + 1 ≤ R.cells) (hn : n + cap ≤ R.slots) (hr : ∀ h' a, a = h.size → Keep h h' [] → LA Z h' a (List.replicate z.toNatClampNeg 0) → Go p l e R s m args below meth c n0 Q h' (k + 1) (n + cap) (mkF m (pc + 2) Ls (.ref a :: st))) : Go p l e R s m args below meth c n0 Q h k n (mkF m pc Ls (.int z :: st)) := by
  intro T L X eT N
  obtain ⟨T', h', cA, X', e', E, A, stp⟩ := newP X K.1 K.2.1 (aty := .long) w eT (g := mkF m pc Ls (.int z :: st)) rfl (hb K.2.2.2.1 hd) rfl hz hcap hb8 hk hn
  obtain ⟨s₂, o, S, r⟩ := hr h' h.size rfl (keep_ext E) ⟨_, A, by simp [newA, defaultValue, newarray.typeOf]⟩ T' L X' e' N
  exact ⟨s₂, o, stp _ S, r⟩
theorem g_iaload (K : Kx Z own nm bytes ml rt p s m meth c) (pc : Nat) {a : Addr} {xs : List Int32} {j : Int32} (v : Int32) (hd : decode bytes pc = .ok (.iaload, 1)) (F : IA Z h a .int xs) (hj : ¬ j < 0) (hv : xs[j.toNatClampNeg]? = some v) (hr : Go p l e R s m args below meth c n0 Q h k n (mkF m (pc + 1) Ls (.int v :: st))) : Go p l e R s m args below meth c n0 Q h k n (mkF m pc Ls (.int j :: .ref a :: st)) := by
  intro T L X eT N
  obtain ⟨cl, A, es⟩ := F
  obtain ⟨s₂, o, S, r⟩ := hr T L X eT N
  have hlt : j.toNatClampNeg < xs.length := (List.getElem?_eq_some_iff.mp hv).1
  refine ⟨s₂, o, X.iaload K.1 (j := j) (v := (.int v)) (by rw [eT]; exact A.1) (State.isArrayOf_alike K.2.1.alike A.2.1) A.2.2 (own_clamp hj hlt (by simp [es])) (by rw [es]; simp [hv]) (g := mkF m pc Ls (.int j :: .ref a :: st)) rfl rfl (hb K.2.2.2.1 hd) _ S, r⟩
theorem g_baload (K : Kx Z own nm bytes ml rt p s m meth c) (pc : Nat) {a : Addr} {xs : List Int32} {j : Int32} (v : Int32) (hd : decode bytes pc = .ok (.baload, 1)) (F : IA Z h a .byte xs) (hj : ¬ j < 0) (hv : xs[j.toNatClampNeg]? = some v) (hr : Go p l e R s m args below meth c n0 Q h k n (mkF m (pc + 1) Ls (.int v :: st))) : Go p l e R s m args below meth c n0 Q h k n (mkF m pc Ls (.int j :: .ref a :: st)) := by
  intro T L X eT N
  obtain ⟨cl, A, es⟩ := F
  obtain ⟨s₂, o, S, r⟩ := hr T L X eT N
  have hlt : j.toNatClampNeg < xs.length := (List.getElem?_eq_some_iff.mp hv).1
  refine ⟨s₂, o, X.baloadBytes K.1 (j := j) (v := (.int v)) (by rw [eT]; exact A.1) (State.isArrayOf_alike K.2.1.alike A.2.1) A.2.2 (own_clamp hj hlt (by simp [es])) (by rw [es]; simp [hv]) (g := mkF m pc Ls (.int j :: .ref a :: st)) rfl rfl (hb K.2.2.2.1 hd) _ S, r⟩
theorem g_zaload (K : Kx Z own nm bytes ml rt p s m meth c) (pc : Nat) {a : Addr} {xs : List Int32} {j : Int32} (v : Int32) (hd : decode bytes pc = .ok (.baload, 1)) (F : IA Z h a .boolean xs) (hj : ¬ j < 0) (hv : xs[j.toNatClampNeg]? = some v) (hr : Go p l e R s m args below meth c n0 Q h k n (mkF m (pc + 1) Ls (.int v :: st))) : Go p l e R s m args below meth c n0 Q h k n (mkF m pc Ls (.int j :: .ref a :: st)) := by
  intro T L X eT N
  obtain ⟨cl, A, es⟩ := F
  obtain ⟨s₂, o, S, r⟩ := hr T L X eT N
  have hlt : j.toNatClampNeg < xs.length := (List.getElem?_eq_some_iff.mp hv).1
  refine ⟨s₂, o, X.baloadBooleans K.1 (j := j) (v := (.int v)) (by rw [eT]; exact A.1) (State.isArrayOf_alike K.2.1.alike A.2.1) A.2.2 (own_clamp hj hlt (by simp [es])) (by rw [es]; simp [hv]) (g := mkF m pc Ls (.int j :: .ref a :: st)) rfl rfl (hb K.2.2.2.1 hd) _ S, r⟩
theorem g_saload (K : Kx Z own nm bytes ml rt p s m meth c) (pc : Nat) {a : Addr} {xs : List Int32} {j : Int32} (v : Int32) (hd : decode bytes pc = .ok (.saload, 1)) (F : IA Z h a .short xs) (hj : ¬ j < 0) (hv : xs[j.toNatClampNeg]? = some v) (hr : Go p l e R s m args below meth c n0 Q h k n (mkF m (pc + 1) Ls (.int v :: st))) : Go p l e R s m args below meth c n0 Q h k n (mkF m pc Ls (.int j :: .ref a :: st)) := by
  intro T L X eT N
  obtain ⟨cl, A, es⟩ := F
  obtain ⟨s₂, o, S, r⟩ := hr T L X eT N
  have hlt : j.toNatClampNeg < xs.length := (List.getElem?_eq_some_iff.mp hv).1
  refine ⟨s₂, o, X.saload K.1 (j := j) (v := (.int v)) (by rw [eT]; exact A.1) (State.isArrayOf_alike K.2.1.alike A.2.1) A.2.2 (own_clamp hj hlt (by simp [es])) (by rw [es]; simp [hv]) (g := mkF m pc Ls (.int j :: .ref a :: st)) rfl rfl (hb K.2.2.2.1 hd) _ S, r⟩
theorem g_laload (K : Kx Z own nm bytes ml rt p s m meth c) (pc : Nat) {a : Addr} {xs : List Int64} {j : Int32} (v : Int64) (hd : decode bytes pc = .ok (.laload, 1)) (F : LA Z h a xs) (hj : ¬ j < 0) (hv : xs[j.toNatClampNeg]? = some v) (hr : Go p l e R s m args below meth c n0 Q h k n (mkF m (pc + 1) Ls (.long v :: st))) : Go p l e R s m args below meth c n0 Q h k n (mkF m pc Ls (.int j :: .ref a :: st)) := by
  intro T L X eT N
  obtain ⟨cl, A, es⟩ := F
  obtain ⟨s₂, o, S, r⟩ := hr T L X eT N
  have hlt : j.toNatClampNeg < xs.length := (List.getElem?_eq_some_iff.mp hv).1
  refine ⟨s₂, o, X.laload K.1 (j := j) (v := (.long v)) (by rw [eT]; exact A.1) (State.isArrayOf_alike K.2.1.alike A.2.1) A.2.2 (own_clamp hj hlt (by simp [es])) (by rw [es]; simp [hv]) (g := mkF m pc Ls (.int j :: .ref a :: st)) rfl rfl (hb K.2.2.2.1 hd) _ S, r⟩
theorem g_iastore (K : Kx Z own nm bytes ml rt p s m meth c) (pc : Nat) {a : Addr} {xs : List Int32} {j : Int32} {x : Int32} (hd : decode bytes pc = .ok (.iastore, 1)) (F : IA Z h a .int xs) (hj : ¬ j < 0) (hlt : j.toNatClampNeg < xs.length) (ha : n0 ≤ a) (hr : ∀ h', Keep h h' [a] → IA Z h' a .int (xs.set j.toNatClampNeg (x)) → Go p l e R s m args below meth c n0 Q h' k n (mkF m (pc + 1) Ls st)) : Go p l e R s m args below meth c n0 Q h k n (mkF m pc Ls (.int x :: .int j :: .ref a :: st)) := by
  intro T L X eT N
  have F' := F
  obtain ⟨cl, A, es⟩ := F
  obtain ⟨T', h', X', e', W, stp⟩ := stI X K.1 K.2.1 eT A (j := j) (x := x) (own_clamp hj hlt (by simp [es])) (g := mkF m pc Ls (.int x :: .int j :: .ref a :: st)) rfl rfl (hb K.2.2.2.1 hd)
  obtain ⟨s₂, o, S, r⟩ := hr h' (Keep.of_wr W) (F'.set W) T' _ X' e' (Fr.snoc X' N ha)
  exact ⟨s₂, o, stp _ S, r⟩
theorem g_bastore (K : Kx Z own nm bytes ml rt p s m meth c) (pc : Nat) {a : Addr} {xs : List Int32} {j : Int32} {x : Int32} (hd : decode bytes pc = .ok (.bastore, 1)) (F : IA Z h a .byte xs) (hj : ¬ j < 0) (hlt : j.toNatClampNeg < xs.length) (ha : n0 ≤ a) (hr : ∀ h', Keep h h' [a] → IA Z h' a .byte (xs.set j.toNatClampNeg (nar .byte x)) → Go p l e R s m args below meth c n0 Q h' k n (mkF m (pc + 1) Ls st)) : Go p l e R s m args below meth c n0 Q h k n (mkF m pc Ls (.int x :: .int j :: .ref a :: st)) := by
  intro T L X eT N
  have F' := F
  obtain ⟨cl, A, es⟩ := F
  obtain ⟨T', h', X', e', W, stp⟩ := stB X K.1 K.2.1 eT A (j := j) (x := x) (own_clamp hj hlt (by simp [es])) (g := mkF m pc Ls (.int x :: .int j :: .ref a :: st)) rfl rfl (hb K.2.2.2.1 hd)
  obtain ⟨s₂, o, S, r⟩ := hr h' (Keep.of_wr W) (F'.set W) T' _ X' e' (Fr.snoc X' N ha)
  exact ⟨s₂, o, stp _ S, r⟩
theorem g_zastore (K : Kx Z own nm bytes ml rt p s m meth c) (pc : Nat) {a : Addr} {xs : List Int32} {j : Int32} {x : Int32} (hd : decode bytes pc = .ok (.bastore, 1)) (F : IA Z h a .boolean xs) (hj : ¬ j < 0) (hlt : j.toNatClampNeg < xs.length) (ha : n0 ≤ a) (hr : ∀ h', Keep h h' [a] → IA Z h' a .boolean (xs.set j.toNatClampNeg (nar .boolean x)) → Go p l e R s m args below meth c n0 Q h' k n (mkF m (pc + 1) Ls st)) : Go p l e R s m args below meth c n0 Q h k n (mkF m pc Ls (.int x :: .int j :: .ref a :: st)) := by
  intro T L X eT N
  have F' := F
  obtain ⟨cl, A, es⟩ := F
  obtain ⟨T', h', X', e', W, stp⟩ := stZ X K.1 K.2.1 eT A (j := j) (x := x) (own_clamp hj hlt (by simp [es])) (g := mkF m pc Ls (.int x :: .int j :: .ref a :: st)) rfl rfl (hb K.2.2.2.1 hd)
  obtain ⟨s₂, o, S, r⟩ := hr h' (Keep.of_wr W) (F'.set W) T' _ X' e' (Fr.snoc X' N ha)
  exact ⟨s₂, o, stp _ S, r⟩
theorem g_sastore (K : Kx Z own nm bytes ml rt p s m meth c) (pc : Nat) {a : Addr} {xs : List Int32} {j : Int32} {x : Int32} (hd : decode bytes pc = .ok (.sastore, 1)) (F : IA Z h a .short xs) (hj : ¬ j < 0) (hlt : j.toNatClampNeg < xs.length) (ha : n0 ≤ a) (hr : ∀ h', Keep h h' [a] → IA Z h' a .short (xs.set j.toNatClampNeg (nar .short x)) → Go p l e R s m args below meth c n0 Q h' k n (mkF m (pc + 1) Ls st)) : Go p l e R s m args below meth c n0 Q h k n (mkF m pc Ls (.int x :: .int j :: .ref a :: st)) := by
  intro T L X eT N
  have F' := F
  obtain ⟨cl, A, es⟩ := F
  obtain ⟨T', h', X', e', W, stp⟩ := stS X K.1 K.2.1 eT A (j := j) (x := x) (own_clamp hj hlt (by simp [es])) (g := mkF m pc Ls (.int x :: .int j :: .ref a :: st)) rfl rfl (hb K.2.2.2.1 hd)
  obtain ⟨s₂, o, S, r⟩ := hr h' (Keep.of_wr W) (F'.set W) T' _ X' e' (Fr.snoc X' N ha)
  exact ⟨s₂, o, stp _ S, r⟩
theorem g_lastore (K : Kx Z own nm bytes ml rt p s m meth c) (pc : Nat) {a : Addr} {xs : List Int64} {j : Int32} {x : Int64} (hd : decode bytes pc = .ok (.lastore, 1)) (F : LA Z h a xs) (hj : ¬ j < 0) (hlt : j.toNatClampNeg < xs.length) (ha : n0 ≤ a) (hr : ∀ h', Keep h h' [a] → LA Z h' a (xs.set j.toNatClampNeg (x)) → Go p l e R s m args below meth c n0 Q h' k n (mkF m (pc + 1) Ls st)) : Go p l e R s m args below meth c n0 Q h k n (mkF m pc Ls (.long x :: .int j :: .ref a :: st)) := by
  intro T L X eT N
  have F' := F
  obtain ⟨cl, A, es⟩ := F
  obtain ⟨T', h', X', e', W, stp⟩ := stJ X K.1 K.2.1 eT A (j := j) (x := x) (own_clamp hj hlt (by simp [es])) (g := mkF m pc Ls (.long x :: .int j :: .ref a :: st)) rfl rfl (hb K.2.2.2.1 hd)
  obtain ⟨s₂, o, S, r⟩ := hr h' (Keep.of_wr W) (F'.set W) T' _ X' e' (Fr.snoc X' N ha)
  exact ⟨s₂, o, stp _ S, r⟩
theorem g_alen (K : Kx Z own nm bytes ml rt p s m meth c) (pc : Nat) {a : Addr} {ty : FieldType} {xs : List Int32} (v : Int32) (hd : decode bytes pc = .ok (.arraylength, 1)) (F : IA Z h a ty xs) (hv : xs.length.toInt32 = v) (hr : Go p l e R s m args below meth c n0 Q h k n (mkF m (pc + 1) Ls (.int v :: st))) : Go p l e R s m args below meth c n0 Q h k n (mkF m pc Ls (.ref a :: st)) := by
  intro T L X eT N
  obtain ⟨cl, A, es⟩ := F
  obtain ⟨s₂, o, S, r⟩ := hr T L X eT N
  have hq : cl.slots.size.toInt32 = v := by rw [es]; simpa using hv
  refine ⟨s₂, o, X.arraylength K.1 (cell := cl) (by rw [eT]; exact A.1) (State.isArrayOf_alike K.2.1.alike A.2.1) (g := mkF m pc Ls (.ref a :: st)) rfl (rest := st) rfl (hb K.2.2.2.1 hd) _ ?_, r⟩
  rw [hq]; exact S
theorem g_callS (K : Kx Z own nm bytes ml rt p s m meth c) (pc : Nat) {i : Nat} {y : MethodName} {b2 : ByteArray} {ml2 : Nat} {rt2 : Option FieldType} {rm : Room} {Q' : Option Value → Heap → Prop} {sig : MethodDescriptor} {S0 : List Value} (argsL : List Value) (W : Nat) (hd : decode bytes pc = .ok (.invokestatic i, 3))
    (M : Meets l y b2 ml2 rt2 rm Z argsL.toArray h n0 Q') (wl : (Jvm.Cond.methodLink own i y).before a0 Z = true) (ws : (Jvm.Cond.static y).before a0 Z = true) (wz : (Jvm.Cond.initialized y.cls).before a0 Z = true) (wc : (Jvm.Cond.code y b2 ml2 rt2).before a0 Z = true) (hy : y.cls ≠ "java/lang/invoke/MethodHandle" ∧ y.cls ≠ "java/lang/invoke/VarHandle")
    (hpd : parseMethodDescriptor y.desc = some sig) (hlen : argsL.length = sig.parameters.length) (hS : S0 = argsL.reverse ++ st) (hW : (st.map fun v => v.category).sum ≤ W) (hls : Ls.size = ml) (hf : rm.frames + 1 ≤ R.frames) (hlo : W + (ml2 + 11) + rm.locals ≤ R.locals) (hk : k + rm.cells ≤ R.cells) (hn : n + rm.slots ≤ R.slots)
    (hr : ∀ v h', Q' v h' → Go p l e R s m args below meth c n0 Q h' (k + rm.cells) (n + rm.slots) (mkF m (pc + 3) Ls (v.toList ++ st))) : Go p l e R s m args below meth c n0 Q h k n (mkF m pc Ls S0) := by
  subst hS
  intro T L X eT N
  obtain ⟨v, vm₁, ⟨T', L', k', n'⟩, -, X', ⟨L2, hQ, l1, y1, z1⟩, stp⟩ := Jvm.LawKit.callS X K.1 (y := y) K.2.2.1 (mvT K.2.1 wl) (mvT K.2.1 ws) (mvT K.2.1 wz) (mvT K.2.1 wc) hy (backOf (W := W) (Q := fun v h L => Q' v h ∧ Fr n0 L) (M []) K.2.1 wc wz hf hlo) (g := mkF m pc Ls (argsL.reverse ++ st)) rfl (hls.trans K.2.2.2.2.1.symm) (argsL := argsL) (rest := st) (fun sg h => by cases hpd.symm.trans h; exact hlen) rfl (by show 2 * 0 + _ ≤ _; omega) (hb K.2.2.2.1 hd) (fun _ _ => ⟨rfl, eT, hk, hn⟩)
  dsimp only [Pt.U, Pt.locs, Pt.cells, Pt.slots] at X' l1 y1 z1 stp hQ
  subst l1 y1 z1
  obtain ⟨s₂, o, S, r⟩ := hr v _ hQ.1 T' _ X' rfl (Fr.app N hQ.2)
  exact ⟨s₂, o, stp _ S, r⟩
theorem g_callN (K : Kx Z own nm bytes ml rt p s m meth c) (pc : Nat) {i : Nat} {y : MethodName} {b2 : ByteArray} {ml2 : Nat} {rm : Room} {Q' : Option Value → Heap → Prop} {sig : MethodDescriptor} {S0 : List Value} {a : Addr} (argsL : List Value) (W : Nat) (hd : decode bytes pc = .ok (.invokespecial i, 3))
    (M : Meets l y b2 ml2 none rm Z (.ref a :: argsL).toArray h n0 Q') (hy1 : y.name = "<init>") (wl : (Jvm.Cond.methodLink own i y).before a0 Z = true) (wi : (Jvm.Cond.instanceMethod y).before a0 Z = true) (wz : (Jvm.Cond.initialized y.cls).before a0 Z = true) (wc : (Jvm.Cond.code y b2 ml2 none).before a0 Z = true) (hy : y.cls ≠ "java/lang/invoke/MethodHandle" ∧ y.cls ≠ "java/lang/invoke/VarHandle")
    (hpd : parseMethodDescriptor y.desc = some sig) (hlen : argsL.length = sig.parameters.length) (hS : S0 = argsL.reverse ++ .ref a :: st) (hW : (st.map fun v => v.category).sum ≤ W) (hls : Ls.size = ml) (hf : rm.frames + 1 ≤ R.frames) (hlo : W + (ml2 + 11) + rm.locals ≤ R.locals) (hk : k + rm.cells ≤ R.cells) (hn : n + rm.slots ≤ R.slots)
    (hr : ∀ v h', Q' v h' → Go p l e R s m args below meth c n0 Q h' (k + rm.cells) (n + rm.slots) (mkF m (pc + 3) Ls (v.toList ++ st))) : Go p l e R s m args below meth c n0 Q h k n (mkF m pc Ls S0) := by
  subst hS
  intro T L X eT N
  obtain ⟨v, vm₁, ⟨T', L', k', n'⟩, -, X', ⟨L2, hQ, l1, y1, z1⟩, stp⟩ := X.specialBack K.1 (y := y) hy1 K.2.2.1 (mvT K.2.1 wl) (mvT K.2.1 wi) (mvT K.2.1 wc) hy (backOf (W := W) (Q := fun v h L => Q' v h ∧ Fr n0 L) (M []) K.2.1 wc wz hf hlo) (g := mkF m pc Ls (argsL.reverse ++ .ref a :: st)) rfl (hls.trans K.2.2.2.2.1.symm) (Steps.refl _) (a := a) (argsL := argsL) (rest := st) (fun sg h => by cases hpd.symm.trans h; exact hlen) rfl (by show 2 * 0 + _ ≤ _; omega) (hb K.2.2.2.1 hd) (fun _ _ => ⟨rfl, eT, hk, hn⟩)
  dsimp only [Pt.U, Pt.locs, Pt.cells, Pt.slots] at X' l1 y1 z1 stp hQ
  subst l1 y1 z1
  obtain ⟨s₂, o, S, r⟩ := hr v _ hQ.1 T' _ X' rfl (Fr.app N hQ.2)
  exact ⟨s₂, o, stp.trans S, r⟩
theorem g_callV (K : Kx Z own nm bytes ml rt p s m meth c) (pc : Nat) {i : Nat} {y z : MethodName} {C : String} {b2 : ByteArray} {ml2 : Nat} {rt2 : Option FieldType} {rm : Room} {Q' : Option Value → Heap → Prop} {sig : MethodDescriptor} {S0 : List Value} {a : Addr} (argsL : List Value) (W : Nat) (hd : decode bytes pc = .ok (.invokevirtual i, 3))
    (M : Meets l z b2 ml2 rt2 rm Z (.ref a :: argsL).toArray h n0 Q') (E : Exa Z h a C) (wl : (Jvm.Cond.methodLink own i y).before a0 Z = true) (wd : (Jvm.Cond.declares y).before a0 Z = true) (wsel : (Jvm.Cond.selects C y z).before a0 Z = true) (wself : (Jvm.Cond.selects y.cls y y).before a0 Z = true) (wi : (Jvm.Cond.instanceMethod z).before a0 Z = true) (wz : (Jvm.Cond.initialized z.cls).before a0 Z = true) (wc : (Jvm.Cond.code z b2 ml2 rt2).before a0 Z = true) (hy : y.cls ≠ "java/lang/invoke/MethodHandle" ∧ y.cls ≠ "java/lang/invoke/VarHandle")
    (hpd : parseMethodDescriptor y.desc = some sig) (hlen : argsL.length = sig.parameters.length) (hS : S0 = argsL.reverse ++ .ref a :: st) (hW : (st.map fun v => v.category).sum ≤ W) (hls : Ls.size = ml) (hf : rm.frames + 1 ≤ R.frames) (hlo : W + (ml2 + 11) + rm.locals ≤ R.locals) (hk : k + rm.cells ≤ R.cells) (hn : n + rm.slots ≤ R.slots)
    (hr : ∀ v h', Q' v h' → Go p l e R s m args below meth c n0 Q h' (k + rm.cells) (n + rm.slots) (mkF m (pc + 3) Ls (v.toList ++ st))) : Go p l e R s m args below meth c n0 Q h k n (mkF m pc Ls S0) := by
  subst hS
  intro T L X eT N
  obtain ⟨cB, kB, q1, q2, q3⟩ := isOf K.2.1 eT E
  obtain ⟨v, vm₁, ⟨T', L', k', n'⟩, -, X', ⟨L2, hQ, l1, y1, z1⟩, stp⟩ := X.virtualBack K.1 (y := y) (z := z) K.2.2.1 (mvT K.2.1 wl) (mvT K.2.1 wd) (notFace_of_selects (args := #[]) (mvT K.2.1 wself)) (mvT K.2.1 wsel) (mvT K.2.1 wi) hy (backOf (W := W) (Q := fun v h L => Q' v h ∧ Fr n0 L) (M []) K.2.1 wc wz hf hlo) q1 q3 (g := mkF m pc Ls (argsL.reverse ++ .ref a :: st)) rfl (hls.trans K.2.2.2.2.1.symm) (Steps.refl _) (argsL := argsL) (rest := st) (fun sg h => by cases hpd.symm.trans h; exact hlen) rfl (by show 2 * 0 + _ ≤ _; omega) (hb K.2.2.2.1 hd) (fun _ _ => ⟨rfl, eT, hk, hn⟩)
  dsimp only [Pt.U, Pt.locs, Pt.cells, Pt.slots] at X' l1 y1 z1 stp hQ
  subst l1 y1 z1
  obtain ⟨s₂, o, S, r⟩ := hr v _ hQ.1 T' _ X' rfl (Fr.app N hQ.2)
  exact ⟨s₂, o, stp.trans S, r⟩
end GoSteps
theorem meets_of {l : Launch} {y : MethodName} {bytes : ByteArray} {ml : Nat} {rt : Option FieldType} {rm : Room} {Z : State} {as : Array Value} {h0 : Heap} {n0 : Nat} {Q : Option Value → Heap → Prop} (hx : plainFor y = true) {Ls : Array Slot} (hef : ∀ m, entryFrame m as ml = mkF m 0 Ls [])
    (body : ∀ p e s m below meth c, Kx Z y.cls y.name bytes ml rt p s m meth c → Go p l e rm s m as below meth c n0 Q h0 0 0 (mkF m 0 Ls [])) : Meets l y bytes ml rt rm Z as h0 n0 Q := by
  intro ws
  refine MetFree.of_bodySF hx hisR ?_
  intro p e s m args below meth c s₁ Bd hml0 hP hK
  obtain ⟨rfl, hZ, hh⟩ := hP
  have X0 : Stand p l e rm s m args below meth c s₁ [] 0 0 := Stand.of_body Bd
  have e0 : s₁.heap = h0 := by rw [← hh, Bd.state]; rfl
  obtain ⟨s₂, o, S, r1, r2, r3⟩ := body p e s m below meth c ⟨Bd.exec, hZ, findClass_of_methodNamed Bd.named, Bd.bytes, hml0, Bd.returns, Bd.notSynchronized, (name_of_methodNamed Bd.named Bd.method).1⟩ s₁ [] X0 e0 (Fr.nil n0)
  exact ⟨s₂, o, castTop (hef m) S, r1, r2, r3⟩
theorem tw {a0 : Array Value} {Z : State} {ts : List Jvm.Cond} (hw : ∀ d ∈ ts, d.before a0 Z = true) (i : Nat) {d : Jvm.Cond} (q : ts[i]? = some d) : d.before a0 Z = true := hw _ (List.mem_of_getElem? q)
theorem pn0 : plainName "com/example/zedcube/zedcube/engine/BitArray" = true := by first | (simp [plainName, overriddenIn]; done) | decide +kernel
theorem pd0 : parseMethodDescriptor "([JJIJ)V" = some ⟨[(.array .long), .long, .int, .long], none⟩ := by decide +kernel
theorem pn1 : plainName "com/example/zedcube/zedcube/engine/BitArrayWritePinLaw" = true := by first | (simp [plainName, overriddenIn]; done) | decide +kernel
theorem pd1 : parseMethodDescriptor "(JIIIJ)J" = some ⟨[.long, .int, .int, .int, .long], some .long⟩ := by decide +kernel
theorem pd2 : parseMethodDescriptor "(II)I" = some ⟨[.int, .int], some .int⟩ := by decide +kernel
theorem pd3 : parseMethodDescriptor "(I)J" = some ⟨[.int], some .long⟩ := by decide +kernel
theorem pd4 : parseMethodDescriptor "(JJJIIJ)Z" = some ⟨[.long, .long, .long, .int, .int, .long], some .boolean⟩ := by decide +kernel
theorem d1_0 : decode prog_4_method_3_code 0 = .ok (.iload_n 3, 1) := by decide +kernel
theorem d1_1 : decode prog_4_method_3_code 1 = .ok (.ifCond .ne 4, 3) := by decide +kernel
theorem d1_4 : decode prog_4_method_3_code 4 = .ok (.return_, 1) := by decide +kernel
theorem d1_5 : decode prog_4_method_3_code 5 = .ok (.iload_n 3, 1) := by decide +kernel
theorem d1_6 : decode prog_4_method_3_code 6 = .ok (.bipush 64, 2) := by decide +kernel
theorem d1_8 : decode prog_4_method_3_code 8 = .ok (.if_icmp .ne 9, 3) := by decide +kernel
theorem d1_11 : decode prog_4_method_3_code 11 = .ok (.ldc2_w 9, 3) := by decide +kernel
theorem d1_14 : decode prog_4_method_3_code 14 = .ok (.goto 8, 3) := by decide +kernel
theorem d1_17 : decode prog_4_method_3_code 17 = .ok (.lconst 1, 1) := by decide +kernel
theorem d1_18 : decode prog_4_method_3_code 18 = .ok (.iload_n 3, 1) := by decide +kernel
theorem d1_19 : decode prog_4_method_3_code 19 = .ok (.lshl, 1) := by decide +kernel
theorem d1_20 : decode prog_4_method_3_code 20 = .ok (.lconst 1, 1) := by decide +kernel
theorem d1_21 : decode prog_4_method_3_code 21 = .ok (.lsub, 1) := by decide +kernel
theorem d1_22 : decode prog_4_method_3_code 22 = .ok (.lstore 6, 2) := by decide +kernel
theorem d1_24 : decode prog_4_method_3_code 24 = .ok (.lload 4, 2) := by decide +kernel
theorem d1_26 : decode prog_4_method_3_code 26 = .ok (.lload 6, 2) := by decide +kernel
theorem d1_28 : decode prog_4_method_3_code 28 = .ok (.land, 1) := by decide +kernel
theorem d1_29 : decode prog_4_method_3_code 29 = .ok (.lstore 8, 2) := by decide +kernel
theorem d1_31 : decode prog_4_method_3_code 31 = .ok (.lload_n 1, 1) := by decide +kernel
theorem d1_32 : decode prog_4_method_3_code 32 = .ok (.bipush 6, 2) := by decide +kernel
theorem d1_34 : decode prog_4_method_3_code 34 = .ok (.lushr, 1) := by decide +kernel
theorem d1_35 : decode prog_4_method_3_code 35 = .ok (.l2i, 1) := by decide +kernel
theorem d1_36 : decode prog_4_method_3_code 36 = .ok (.istore 10, 2) := by decide +kernel
theorem d1_38 : decode prog_4_method_3_code 38 = .ok (.lload_n 1, 1) := by decide +kernel
theorem d1_39 : decode prog_4_method_3_code 39 = .ok (.l2i, 1) := by decide +kernel
theorem d1_40 : decode prog_4_method_3_code 40 = .ok (.bipush 63, 2) := by decide +kernel
theorem d1_42 : decode prog_4_method_3_code 42 = .ok (.iand, 1) := by decide +kernel
theorem d1_43 : decode prog_4_method_3_code 43 = .ok (.istore 11, 2) := by decide +kernel
theorem d1_45 : decode prog_4_method_3_code 45 = .ok (.aload_n 0, 1) := by decide +kernel
theorem d1_46 : decode prog_4_method_3_code 46 = .ok (.iload 10, 2) := by decide +kernel
theorem d1_48 : decode prog_4_method_3_code 48 = .ok (.aload_n 0, 1) := by decide +kernel
theorem d1_49 : decode prog_4_method_3_code 49 = .ok (.iload 10, 2) := by decide +kernel
theorem d1_51 : decode prog_4_method_3_code 51 = .ok (.laload, 1) := by decide +kernel
theorem d1_52 : decode prog_4_method_3_code 52 = .ok (.lload 6, 2) := by decide +kernel
theorem d1_54 : decode prog_4_method_3_code 54 = .ok (.iload 11, 2) := by decide +kernel
theorem d1_56 : decode prog_4_method_3_code 56 = .ok (.lshl, 1) := by decide +kernel
theorem d1_57 : decode prog_4_method_3_code 57 = .ok (.ldc2_w 9, 3) := by decide +kernel
theorem d1_60 : decode prog_4_method_3_code 60 = .ok (.lxor, 1) := by decide +kernel
theorem d1_61 : decode prog_4_method_3_code 61 = .ok (.land, 1) := by decide +kernel
theorem d1_62 : decode prog_4_method_3_code 62 = .ok (.lload 8, 2) := by decide +kernel
theorem d1_64 : decode prog_4_method_3_code 64 = .ok (.iload 11, 2) := by decide +kernel
theorem d1_66 : decode prog_4_method_3_code 66 = .ok (.lshl, 1) := by decide +kernel
theorem d1_67 : decode prog_4_method_3_code 67 = .ok (.lor, 1) := by decide +kernel
theorem d1_68 : decode prog_4_method_3_code 68 = .ok (.lastore, 1) := by decide +kernel
theorem d1_69 : decode prog_4_method_3_code 69 = .ok (.iload 11, 2) := by decide +kernel
theorem d1_71 : decode prog_4_method_3_code 71 = .ok (.iload_n 3, 1) := by decide +kernel
theorem d1_72 : decode prog_4_method_3_code 72 = .ok (.iadd, 1) := by decide +kernel
theorem d1_73 : decode prog_4_method_3_code 73 = .ok (.bipush 64, 2) := by decide +kernel
theorem d1_75 : decode prog_4_method_3_code 75 = .ok (.if_icmp .le 41, 3) := by decide +kernel
theorem d1_78 : decode prog_4_method_3_code 78 = .ok (.lload 6, 2) := by decide +kernel
theorem d1_80 : decode prog_4_method_3_code 80 = .ok (.bipush 64, 2) := by decide +kernel
theorem d1_82 : decode prog_4_method_3_code 82 = .ok (.iload 11, 2) := by decide +kernel
theorem d1_84 : decode prog_4_method_3_code 84 = .ok (.isub, 1) := by decide +kernel
theorem d1_85 : decode prog_4_method_3_code 85 = .ok (.lushr, 1) := by decide +kernel
theorem d1_86 : decode prog_4_method_3_code 86 = .ok (.lstore 12, 2) := by decide +kernel
theorem d1_88 : decode prog_4_method_3_code 88 = .ok (.aload_n 0, 1) := by decide +kernel
theorem d1_89 : decode prog_4_method_3_code 89 = .ok (.iload 10, 2) := by decide +kernel
theorem d1_91 : decode prog_4_method_3_code 91 = .ok (.iconst 1, 1) := by decide +kernel
theorem d1_92 : decode prog_4_method_3_code 92 = .ok (.iadd, 1) := by decide +kernel
theorem d1_93 : decode prog_4_method_3_code 93 = .ok (.aload_n 0, 1) := by decide +kernel
theorem d1_94 : decode prog_4_method_3_code 94 = .ok (.iload 10, 2) := by decide +kernel
theorem d1_96 : decode prog_4_method_3_code 96 = .ok (.iconst 1, 1) := by decide +kernel
theorem d1_97 : decode prog_4_method_3_code 97 = .ok (.iadd, 1) := by decide +kernel
theorem d1_98 : decode prog_4_method_3_code 98 = .ok (.laload, 1) := by decide +kernel
theorem d1_99 : decode prog_4_method_3_code 99 = .ok (.lload 12, 2) := by decide +kernel
theorem d1_101 : decode prog_4_method_3_code 101 = .ok (.ldc2_w 9, 3) := by decide +kernel
theorem d1_104 : decode prog_4_method_3_code 104 = .ok (.lxor, 1) := by decide +kernel
theorem d1_105 : decode prog_4_method_3_code 105 = .ok (.land, 1) := by decide +kernel
theorem d1_106 : decode prog_4_method_3_code 106 = .ok (.lload 8, 2) := by decide +kernel
theorem d1_108 : decode prog_4_method_3_code 108 = .ok (.bipush 64, 2) := by decide +kernel
theorem d1_110 : decode prog_4_method_3_code 110 = .ok (.iload 11, 2) := by decide +kernel
theorem d1_112 : decode prog_4_method_3_code 112 = .ok (.isub, 1) := by decide +kernel
theorem d1_113 : decode prog_4_method_3_code 113 = .ok (.lushr, 1) := by decide +kernel
theorem d1_114 : decode prog_4_method_3_code 114 = .ok (.lor, 1) := by decide +kernel
theorem d1_115 : decode prog_4_method_3_code 115 = .ok (.lastore, 1) := by decide +kernel
theorem d1_116 : decode prog_4_method_3_code 116 = .ok (.return_, 1) := by decide +kernel
theorem d2_0 : decode method_3_code 0 = .ok (.bipush 64, 2) := by decide +kernel
theorem d2_2 : decode method_3_code 2 = .ok (.iload_n 2, 1) := by decide +kernel
theorem d2_3 : decode method_3_code 3 = .ok (.imul, 1) := by decide +kernel
theorem d2_4 : decode method_3_code 4 = .ok (.istore 7, 2) := by decide +kernel
theorem d2_6 : decode method_3_code 6 = .ok (.iload_n 3, 1) := by decide +kernel
theorem d2_7 : decode method_3_code 7 = .ok (.iload 7, 2) := by decide +kernel
theorem d2_9 : decode method_3_code 9 = .ok (.invokestatic 9, 3) := by decide +kernel
theorem d2_12 : decode method_3_code 12 = .ok (.iload 7, 2) := by decide +kernel
theorem d2_14 : decode method_3_code 14 = .ok (.isub, 1) := by decide +kernel
theorem d2_15 : decode method_3_code 15 = .ok (.istore 8, 2) := by decide +kernel
theorem d2_17 : decode method_3_code 17 = .ok (.iload_n 3, 1) := by decide +kernel
theorem d2_18 : decode method_3_code 18 = .ok (.iload 4, 2) := by decide +kernel
theorem d2_20 : decode method_3_code 20 = .ok (.iadd, 1) := by decide +kernel
theorem d2_21 : decode method_3_code 21 = .ok (.iload 7, 2) := by decide +kernel
theorem d2_23 : decode method_3_code 23 = .ok (.bipush 64, 2) := by decide +kernel
theorem d2_25 : decode method_3_code 25 = .ok (.iadd, 1) := by decide +kernel
theorem d2_26 : decode method_3_code 26 = .ok (.invokestatic 15, 3) := by decide +kernel
theorem d2_29 : decode method_3_code 29 = .ok (.iload 7, 2) := by decide +kernel
theorem d2_31 : decode method_3_code 31 = .ok (.isub, 1) := by decide +kernel
theorem d2_32 : decode method_3_code 32 = .ok (.istore 9, 2) := by decide +kernel
theorem d2_34 : decode method_3_code 34 = .ok (.iload 9, 2) := by decide +kernel
theorem d2_36 : decode method_3_code 36 = .ok (.iload 8, 2) := by decide +kernel
theorem d2_38 : decode method_3_code 38 = .ok (.if_icmp .gt 7, 3) := by decide +kernel
theorem d2_41 : decode method_3_code 41 = .ok (.lconst 0, 1) := by decide +kernel
theorem d2_42 : decode method_3_code 42 = .ok (.goto 18, 3) := by decide +kernel
theorem d2_45 : decode method_3_code 45 = .ok (.iload 9, 2) := by decide +kernel
theorem d2_47 : decode method_3_code 47 = .ok (.invokestatic 18, 3) := by decide +kernel
theorem d2_50 : decode method_3_code 50 = .ok (.iload 8, 2) := by decide +kernel
theorem d2_52 : decode method_3_code 52 = .ok (.invokestatic 18, 3) := by decide +kernel
theorem d2_55 : decode method_3_code 55 = .ok (.ldc2_w 7, 3) := by decide +kernel
theorem d2_58 : decode method_3_code 58 = .ok (.lxor, 1) := by decide +kernel
theorem d2_59 : decode method_3_code 59 = .ok (.land, 1) := by decide +kernel
theorem d2_60 : decode method_3_code 60 = .ok (.lstore 10, 2) := by decide +kernel
theorem d2_62 : decode method_3_code 62 = .ok (.iload 7, 2) := by decide +kernel
theorem d2_64 : decode method_3_code 64 = .ok (.iload_n 3, 1) := by decide +kernel
theorem d2_65 : decode method_3_code 65 = .ok (.isub, 1) := by decide +kernel
theorem d2_66 : decode method_3_code 66 = .ok (.istore 12, 2) := by decide +kernel
theorem d2_68 : decode method_3_code 68 = .ok (.iload 12, 2) := by decide +kernel
theorem d2_70 : decode method_3_code 70 = .ok (.bipush 64, 2) := by decide +kernel
theorem d2_72 : decode method_3_code 72 = .ok (.if_icmp .ge 10, 3) := by decide +kernel
theorem d2_75 : decode method_3_code 75 = .ok (.iload 12, 2) := by decide +kernel
theorem d2_77 : decode method_3_code 77 = .ok (.bipush (-64), 2) := by decide +kernel
theorem d2_79 : decode method_3_code 79 = .ok (.if_icmp .gt 9, 3) := by decide +kernel
theorem d2_82 : decode method_3_code 82 = .ok (.lconst 0, 1) := by decide +kernel
theorem d2_83 : decode method_3_code 83 = .ok (.lstore 13, 2) := by decide +kernel
theorem d2_85 : decode method_3_code 85 = .ok (.goto 26, 3) := by decide +kernel
theorem d2_88 : decode method_3_code 88 = .ok (.iload 12, 2) := by decide +kernel
theorem d2_90 : decode method_3_code 90 = .ok (.ifCond .lt 13, 3) := by decide +kernel
theorem d2_93 : decode method_3_code 93 = .ok (.lload 5, 2) := by decide +kernel
theorem d2_95 : decode method_3_code 95 = .ok (.iload 12, 2) := by decide +kernel
theorem d2_97 : decode method_3_code 97 = .ok (.lushr, 1) := by decide +kernel
theorem d2_98 : decode method_3_code 98 = .ok (.lstore 13, 2) := by decide +kernel
theorem d2_100 : decode method_3_code 100 = .ok (.goto 11, 3) := by decide +kernel
theorem d2_103 : decode method_3_code 103 = .ok (.lload 5, 2) := by decide +kernel
theorem d2_105 : decode method_3_code 105 = .ok (.iload 12, 2) := by decide +kernel
theorem d2_107 : decode method_3_code 107 = .ok (.ineg, 1) := by decide +kernel
theorem d2_108 : decode method_3_code 108 = .ok (.lshl, 1) := by decide +kernel
theorem d2_109 : decode method_3_code 109 = .ok (.lstore 13, 2) := by decide +kernel
theorem d2_111 : decode method_3_code 111 = .ok (.lload_n 0, 1) := by decide +kernel
theorem d2_112 : decode method_3_code 112 = .ok (.lload 10, 2) := by decide +kernel
theorem d2_114 : decode method_3_code 114 = .ok (.ldc2_w 7, 3) := by decide +kernel
theorem d2_117 : decode method_3_code 117 = .ok (.lxor, 1) := by decide +kernel
theorem d2_118 : decode method_3_code 118 = .ok (.land, 1) := by decide +kernel
theorem d2_119 : decode method_3_code 119 = .ok (.lload 13, 2) := by decide +kernel
theorem d2_121 : decode method_3_code 121 = .ok (.lload 10, 2) := by decide +kernel
theorem d2_123 : decode method_3_code 123 = .ok (.land, 1) := by decide +kernel
theorem d2_124 : decode method_3_code 124 = .ok (.lor, 1) := by decide +kernel
theorem d2_125 : decode method_3_code 125 = .ok (.lreturn, 1) := by decide +kernel
theorem d3_0 : decode jdk_29_method_65_code 0 = .ok (.iload_n 0, 1) := by decide +kernel
theorem d3_1 : decode jdk_29_method_65_code 1 = .ok (.iload_n 1, 1) := by decide +kernel
theorem d3_2 : decode jdk_29_method_65_code 2 = .ok (.if_icmp .lt 7, 3) := by decide +kernel
theorem d3_5 : decode jdk_29_method_65_code 5 = .ok (.iload_n 0, 1) := by decide +kernel
theorem d3_6 : decode jdk_29_method_65_code 6 = .ok (.goto 4, 3) := by decide +kernel
theorem d3_9 : decode jdk_29_method_65_code 9 = .ok (.iload_n 1, 1) := by decide +kernel
theorem d3_10 : decode jdk_29_method_65_code 10 = .ok (.ireturn, 1) := by decide +kernel
theorem d4_0 : decode jdk_29_method_69_code 0 = .ok (.iload_n 0, 1) := by decide +kernel
theorem d4_1 : decode jdk_29_method_69_code 1 = .ok (.iload_n 1, 1) := by decide +kernel
theorem d4_2 : decode jdk_29_method_69_code 2 = .ok (.if_icmp .gt 7, 3) := by decide +kernel
theorem d4_5 : decode jdk_29_method_69_code 5 = .ok (.iload_n 0, 1) := by decide +kernel
theorem d4_6 : decode jdk_29_method_69_code 6 = .ok (.goto 4, 3) := by decide +kernel
theorem d4_9 : decode jdk_29_method_69_code 9 = .ok (.iload_n 1, 1) := by decide +kernel
theorem d4_10 : decode jdk_29_method_69_code 10 = .ok (.ireturn, 1) := by decide +kernel
theorem d5_0 : decode method_2_code 0 = .ok (.iload_n 0, 1) := by decide +kernel
theorem d5_1 : decode method_2_code 1 = .ok (.bipush 64, 2) := by decide +kernel
theorem d5_3 : decode method_2_code 3 = .ok (.if_icmp .lt 7, 3) := by decide +kernel
theorem d5_6 : decode method_2_code 6 = .ok (.ldc2_w 7, 3) := by decide +kernel
theorem d5_9 : decode method_2_code 9 = .ok (.lreturn, 1) := by decide +kernel
theorem d5_10 : decode method_2_code 10 = .ok (.iload_n 0, 1) := by decide +kernel
theorem d5_11 : decode method_2_code 11 = .ok (.ifCond .gt 5, 3) := by decide +kernel
theorem d5_14 : decode method_2_code 14 = .ok (.lconst 0, 1) := by decide +kernel
theorem d5_15 : decode method_2_code 15 = .ok (.lreturn, 1) := by decide +kernel
theorem d5_16 : decode method_2_code 16 = .ok (.lconst 1, 1) := by decide +kernel
theorem d5_17 : decode method_2_code 17 = .ok (.iload_n 0, 1) := by decide +kernel
theorem d5_18 : decode method_2_code 18 = .ok (.lshl, 1) := by decide +kernel
theorem d5_19 : decode method_2_code 19 = .ok (.lconst 1, 1) := by decide +kernel
theorem d5_20 : decode method_2_code 20 = .ok (.lsub, 1) := by decide +kernel
theorem d5_21 : decode method_2_code 21 = .ok (.lreturn, 1) := by decide +kernel
theorem own_and63 (y : Int32) : (y.toInt64 &&& 63).toBitVec = BitVec.ofNat 64 (y.toBitVec.toNat % 64) := by
  apply BitVec.eq_of_getLsbD_eq
  intro i hi
  have h63 : (63 : Int64).toBitVec = BitVec.ofNat 64 (2 ^ 6 - 1) := by decide
  have hm : (y.toBitVec.toNat % 64) = y.toBitVec.toNat % 2 ^ 6 := rfl
  rw [Int64.toBitVec_and, Int32.toBitVec_toInt64, BitVec.getLsbD_and, BitVec.getLsbD_signExtend, h63, BitVec.getLsbD_ofNat, Nat.testBit_two_pow_sub_one, BitVec.getLsbD_ofNat, hm, Nat.testBit_mod_two_pow]
  by_cases h6 : i < 6
  · have h32 : i < 32 := by omega
    simp [hi, h6, h32, BitVec.getLsbD]
  · simp [h6]
theorem bv_lshl (x : Int64) (y : Int32) : (x <<< (y.toInt64 &&& 63)).toBitVec = x.toBitVec <<< (y.toBitVec.toNat % 64) := by
  show x.toBitVec <<< ((y.toInt64 &&& 63).toBitVec.smod 64) = _
  rw [BitVec.shiftLeft_eq', own_and63, smod64 _ (Nat.mod_lt _ (by decide))]
theorem bv_lshr (x : Int64) (y : Int32) : (x >>> (y.toInt64 &&& 63)).toBitVec = x.toBitVec.sshiftRight (y.toBitVec.toNat % 64) := by
  show x.toBitVec.sshiftRight' ((y.toInt64 &&& 63).toBitVec.smod 64) = _
  rw [BitVec.sshiftRight_eq', own_and63, smod64 _ (Nat.mod_lt _ (by decide))]
theorem bv_lushr (x : Int64) (y : Int32) : (XT.ushrL x y).toBitVec = x.toBitVec >>> (y.toBitVec.toNat % 64) := by
  show x.toBitVec >>> ((y.toInt64 &&& 63).toBitVec % 64) = _
  rw [BitVec.ushiftRight_eq', own_and63, BitVec.toNat_umod, BitVec.toNat_ofNat]
  congr 1
  show y.toBitVec.toNat % 64 % 2 ^ 64 % 64 = _
  omega
theorem bv_ishl (x y : Int32) : (x <<< (y &&& 31)).toBitVec = x.toBitVec <<< (y.toBitVec.toNat % 32) := by
  show x.toBitVec <<< ((y &&& 31).toBitVec.smod 32) = _
  rw [BitVec.shiftLeft_eq', sm32 y _ rfl]
theorem bv_ishr (x y : Int32) : (x >>> (y &&& 31)).toBitVec = x.toBitVec.sshiftRight (y.toBitVec.toNat % 32) := by
  show x.toBitVec.sshiftRight' ((y &&& 31).toBitVec.smod 32) = _
  rw [BitVec.sshiftRight_eq', sm32 y _ rfl]
theorem bv_iushr (x y : Int32) : (XT.ushr x y).toBitVec = x.toBitVec >>> (y.toBitVec.toNat % 32) := by
  show x.toBitVec >>> ((y &&& 31).toBitVec % 32) = _
  have h1 : (y &&& 31).toBitVec.toNat = y.toBitVec.toNat % 32 := by
    show (y.toBitVec &&& (31 : Int32).toBitVec).toNat = _
    rw [BitVec.toNat_and, show (31 : Int32).toBitVec.toNat = 2 ^ 5 - 1 from by decide, Nat.and_two_pow_sub_one_eq_mod]
  rw [BitVec.ushiftRight_eq', BitVec.toNat_umod, h1]
  congr 1
  show y.toBitVec.toNat % 32 % 32 = _
  omega
theorem u64 (x : Int64) : (x.toBitVec.toNat : Int) = x.toInt % 18446744073709551616 := by
  have h := x.toBitVec.isLt
  show _ = x.toBitVec.toInt % _
  rw [BitVec.toInt_eq_toNat_cond]; split <;> omega
theorem u32 (x : Int32) : (x.toBitVec.toNat : Int) = x.toInt % 4294967296 := by
  have h := x.toBitVec.isLt
  show _ = x.toBitVec.toInt % _
  rw [BitVec.toInt_eq_toNat_cond]; split <;> omega
theorem i64 (x : Int64) : x.toInt = if x.toBitVec.toNat < 9223372036854775808 then (x.toBitVec.toNat : Int) else (x.toBitVec.toNat : Int) - 18446744073709551616 := by
  have h := x.toBitVec.isLt
  show x.toBitVec.toInt = _
  rw [BitVec.toInt_eq_toNat_cond]; split <;> split <;> omega
/-- a logical shift by a known count, as a number -/
theorem n_lushr (x : Int64) (y : Int32) (k : Nat) (hk : y.toBitVec.toNat % 64 = k) : (XT.ushrL x y).toBitVec.toNat = x.toBitVec.toNat / 2 ^ k := by
  rw [bv_lushr, hk, BitVec.toNat_ushiftRight, Nat.shiftRight_eq_div_pow]
theorem n_iushr (x y : Int32) (k : Nat) (hk : y.toBitVec.toNat % 32 = k) : (XT.ushr x y).toBitVec.toNat = x.toBitVec.toNat / 2 ^ k := by
  rw [bv_iushr, hk, BitVec.toNat_ushiftRight, Nat.shiftRight_eq_div_pow]
theorem nn32 (y : Int32) (h : 0 ≤ y.toInt) : y.toBitVec.toNat = y.toInt.toNat := by
  have h1 := u32 y
  have := y.toInt_lt
  omega
theorem nn64 (y : Int64) (h : 0 ≤ y.toInt) : y.toBitVec.toNat = y.toInt.toNat := by
  have h1 := u64 y
  have := y.toInt_lt
  omega
theorem own_mask (y : Int32) (hy : 0 ≤ y.toInt ∧ y.toInt < 64) (K : Nat) (hK : K < 64) : (((1 : Int64) <<< (y.toInt64 &&& 63)) - 1).toBitVec.getLsbD K = decide (K < y.toInt.toNat) := by
  have hW : y.toBitVec.toNat % 64 = y.toInt.toNat := by rw [nn32 y hy.1]; omega
  rw [Int64.toBitVec_sub, bv_lshl, hW]
  have h2 : y.toInt.toNat < 64 := by omega
  generalize y.toInt.toNat = W at *
  have e : (1 : Int64).toBitVec <<< W - (1 : Int64).toBitVec = BitVec.ofNat 64 (2 ^ W - 1) := by
    apply BitVec.eq_of_toNat_eq
    have p1 : 2 ^ W < 2 ^ 64 := Nat.pow_lt_pow_right (by decide) h2
    have p2 : 0 < 2 ^ W := Nat.two_pow_pos W
    rw [BitVec.toNat_sub, BitVec.toNat_shiftLeft, Nat.shiftLeft_eq, BitVec.toNat_ofNat, show (1 : Int64).toBitVec.toNat = 1 from by decide, Nat.one_mul]
    generalize 2 ^ W = P at *
    omega
  rw [e, BitVec.getLsbD_ofNat, Nat.testBit_two_pow_sub_one]
  simp [hK]
theorem own_bit (x : Int64) (y : Int32) : (XT.ushrL x y &&& (1 : Int64)) = if x.toBitVec.getLsbD (y.toBitVec.toNat % 64) then 1 else 0 := by
  apply Int64.toBitVec_inj.mp
  apply BitVec.eq_of_getLsbD_eq
  intro i hi
  rw [Int64.toBitVec_and, bv_lushr, BitVec.getLsbD_and, BitVec.getLsbD_ushiftRight]
  generalize y.toBitVec.toNat % 64 = k
  have h1 : (1 : Int64).toBitVec.getLsbD i = decide (i = 0) := by
    show (1#64).getLsbD i = _
    rw [BitVec.getLsbD_one]; simp
  rw [h1]
  by_cases q : i = 0
  · subst q
    cases h : x.toBitVec.getLsbD k <;> simp [h]
  · cases h : x.toBitVec.getLsbD k
    · simp [q]
    · simp [q, h1]

def rd (xs : List Int64) (j : Int32) : Int64 := xs.getD j.toNatClampNeg 0
theorem rd_some {xs : List Int64} {j : Int32} (h : j.toNatClampNeg < xs.length) : xs[j.toNatClampNeg]? = some (rd xs j) := by
  simp [rd, List.getD, h]
def f_write_o0 (xs : List Int64) (q1 : Int64) (p2 : Int32) (q3 : Int64) : List Int64 := if p2 = 0 then xs else (if p2 = (64 : Int32) then (if (64 : Int32) < ((q1.toInt32 &&& (63 : Int32)) + p2) then ((xs.set ((XT.ushrL q1 (6 : Int32)).toInt32).toNatClampNeg (((rd xs ((XT.ushrL q1 (6 : Int32)).toInt32)) &&& (((-1 : Int64) <<< ((q1.toInt32 &&& (63 : Int32)).toInt64 &&& 63)) ^^^ (-1 : Int64))) ||| ((q3 &&& (-1 : Int64)) <<< ((q1.toInt32 &&& (63 : Int32)).toInt64 &&& 63)))).set (((XT.ushrL q1 (6 : Int32)).toInt32) + (1 : Int32)).toNatClampNeg (((rd (xs.set ((XT.ushrL q1 (6 : Int32)).toInt32).toNatClampNeg (((rd xs ((XT.ushrL q1 (6 : Int32)).toInt32)) &&& (((-1 : Int64) <<< ((q1.toInt32 &&& (63 : Int32)).toInt64 &&& 63)) ^^^ (-1 : Int64))) ||| ((q3 &&& (-1 : Int64)) <<< ((q1.toInt32 &&& (63 : Int32)).toInt64 &&& 63)))) (((XT.ushrL q1 (6 : Int32)).toInt32) + (1 : Int32))) &&& ((XT.ushrL (-1 : Int64) ((64 : Int32) - (q1.toInt32 &&& (63 : Int32)))) ^^^ (-1 : Int64))) ||| (XT.ushrL (q3 &&& (-1 : Int64)) ((64 : Int32) - (q1.toInt32 &&& (63 : Int32)))))) else (xs.set ((XT.ushrL q1 (6 : Int32)).toInt32).toNatClampNeg (((rd xs ((XT.ushrL q1 (6 : Int32)).toInt32)) &&& (((-1 : Int64) <<< ((q1.toInt32 &&& (63 : Int32)).toInt64 &&& 63)) ^^^ (-1 : Int64))) ||| ((q3 &&& (-1 : Int64)) <<< ((q1.toInt32 &&& (63 : Int32)).toInt64 &&& 63))))) else (if (64 : Int32) < ((q1.toInt32 &&& (63 : Int32)) + p2) then ((xs.set ((XT.ushrL q1 (6 : Int32)).toInt32).toNatClampNeg (((rd xs ((XT.ushrL q1 (6 : Int32)).toInt32)) &&& (((((1 : Int64) <<< (p2.toInt64 &&& 63)) - (1 : Int64)) <<< ((q1.toInt32 &&& (63 : Int32)).toInt64 &&& 63)) ^^^ (-1 : Int64))) ||| ((q3 &&& (((1 : Int64) <<< (p2.toInt64 &&& 63)) - (1 : Int64))) <<< ((q1.toInt32 &&& (63 : Int32)).toInt64 &&& 63)))).set (((XT.ushrL q1 (6 : Int32)).toInt32) + (1 : Int32)).toNatClampNeg (((rd (xs.set ((XT.ushrL q1 (6 : Int32)).toInt32).toNatClampNeg (((rd xs ((XT.ushrL q1 (6 : Int32)).toInt32)) &&& (((((1 : Int64) <<< (p2.toInt64 &&& 63)) - (1 : Int64)) <<< ((q1.toInt32 &&& (63 : Int32)).toInt64 &&& 63)) ^^^ (-1 : Int64))) ||| ((q3 &&& (((1 : Int64) <<< (p2.toInt64 &&& 63)) - (1 : Int64))) <<< ((q1.toInt32 &&& (63 : Int32)).toInt64 &&& 63)))) (((XT.ushrL q1 (6 : Int32)).toInt32) + (1 : Int32))) &&& ((XT.ushrL (((1 : Int64) <<< (p2.toInt64 &&& 63)) - (1 : Int64)) ((64 : Int32) - (q1.toInt32 &&& (63 : Int32)))) ^^^ (-1 : Int64))) ||| (XT.ushrL (q3 &&& (((1 : Int64) <<< (p2.toInt64 &&& 63)) - (1 : Int64))) ((64 : Int32) - (q1.toInt32 &&& (63 : Int32)))))) else (xs.set ((XT.ushrL q1 (6 : Int32)).toInt32).toNatClampNeg (((rd xs ((XT.ushrL q1 (6 : Int32)).toInt32)) &&& (((((1 : Int64) <<< (p2.toInt64 &&& 63)) - (1 : Int64)) <<< ((q1.toInt32 &&& (63 : Int32)).toInt64 &&& 63)) ^^^ (-1 : Int64))) ||| ((q3 &&& (((1 : Int64) <<< (p2.toInt64 &&& 63)) - (1 : Int64))) <<< ((q1.toInt32 &&& (63 : Int32)).toInt64 &&& 63))))))
set_option maxRecDepth 65536 in
set_option maxHeartbeats 40000000 in
theorem rm_write (l : Launch) (Z : State) (a0 : Array Value) (hw : ∀ d ∈ tables_1, d.before a0 Z = true) (o0 : Addr) (q1 : Int64) (p2 : Int32) (q3 : Int64) (h0 : Heap) (n0 : Nat) (Z0 : n0 ≤ h0.size) (xs : List Int64) (A_o0 : LA Z h0 o0 xs) (g_o0 : n0 ≤ o0) (hi0 : ¬ (XT.ushrL q1 (6 : Int32)).toInt32 < 0 ∧ (XT.ushrL q1 (6 : Int32)).toInt32.toNatClampNeg < xs.length) (hi1 : ¬ ((XT.ushrL q1 (6 : Int32)).toInt32 + (1 : Int32)) < 0 ∧ ((XT.ushrL q1 (6 : Int32)).toInt32 + (1 : Int32)).toNatClampNeg < xs.length) :
    Meets l (⟨"com/example/zedcube/zedcube/engine/BitArray", "write", "([JJIJ)V"⟩ : MethodName) prog_4_method_3_code 14 none ({ frames := 0, cells := 0, slots := 0, locals := 0 } : Room) Z #[(.ref o0), (.long q1), (.int p2), (.long q3)] h0 n0 (fun v h => v = none ∧ Keep h0 h [o0] ∧ LA Z h o0 (f_write_o0 xs q1 p2 q3)) := by
  refine meets_of (plainFor_of_name pn0) (Ls := #[.val (.ref o0), .val (.long q1), .second, .val (.int p2), .val (.long q3), .second, .unset, .unset, .unset, .unset, .unset, .unset, .unset, .unset]) (fun m => by first | (simp [entryFrame, mkF, argsToLocals, Value.category]; done) | rfl) ?_
  intro p e s m below meth c K
  replace K : Kx Z "com/example/zedcube/zedcube/engine/BitArray" "write" prog_4_method_3_code 14 none p s m meth c := K
  obtain ⟨Q, hQ⟩ : ∃ Q : Option Value → Heap → Prop, Q = (fun v h => v = none ∧ Keep h0 h [o0] ∧ LA Z h o0 (f_write_o0 xs q1 p2 q3)) := ⟨_, rfl⟩
  rw [← hQ]
  have KC0 := Keep.refl h0 [o0]
  refine g_iloadN K 0 d1_0 rfl ?_
  refine g_if_ne K 1 5 d1_1 (by decide) (by decide) ?_ ?_
  · intro c1
    refine g_iloadN K 5 d1_5 rfl ?_
    refine g_bipush K 6 (64 : Int32) d1_6 (by decide) ?_
    refine g_ii_ne K 8 17 d1_8 (by decide) (by decide) ?_ ?_
    · intro c2
      refine g_lconst K 17 (1 : Int64) d1_17 (by decide) ?_
      refine g_iloadN K 18 d1_18 rfl ?_
      refine g_lshl K 19 d1_19 ?_
      refine g_lconst K 20 (1 : Int64) d1_20 (by decide) ?_
      refine g_lsub K 21 d1_21 ?_
      refine g_lstore K 22 #[.val (.ref o0), .val (.long q1), .second, .val (.int p2), .val (.long q3), .second, .val (.long (((1 : Int64) <<< (p2.toInt64 &&& 63)) - (1 : Int64))), .second, .unset, .unset, .unset, .unset, .unset, .unset] d1_22 rfl ?_
      refine g_lload K 24 d1_24 rfl ?_
      refine g_lload K 26 d1_26 rfl ?_
      refine g_land K 28 d1_28 ?_
      refine g_lstore K 29 #[.val (.ref o0), .val (.long q1), .second, .val (.int p2), .val (.long q3), .second, .val (.long (((1 : Int64) <<< (p2.toInt64 &&& 63)) - (1 : Int64))), .second, .val (.long (q3 &&& (((1 : Int64) <<< (p2.toInt64 &&& 63)) - (1 : Int64)))), .second, .unset, .unset, .unset, .unset] d1_29 rfl ?_
      refine g_lloadN K 31 d1_31 rfl ?_
      refine g_bipush K 32 (6 : Int32) d1_32 (by decide) ?_
      refine g_lushr K 34 d1_34 ?_
      refine g_l2i K 35 d1_35 ?_
      refine g_istore K 36 #[.val (.ref o0), .val (.long q1), .second, .val (.int p2), .val (.long q3), .second, .val (.long (((1 : Int64) <<< (p2.toInt64 &&& 63)) - (1 : Int64))), .second, .val (.long (q3 &&& (((1 : Int64) <<< (p2.toInt64 &&& 63)) - (1 : Int64)))), .second, .val (.int (XT.ushrL q1 (6 : Int32)).toInt32), .unset, .unset, .unset] d1_36 rfl ?_
      refine g_lloadN K 38 d1_38 rfl ?_
      refine g_l2i K 39 d1_39 ?_
      refine g_bipush K 40 (63 : Int32) d1_40 (by decide) ?_
      refine g_iand K 42 d1_42 ?_
      refine g_istore K 43 #[.val (.ref o0), .val (.long q1), .second, .val (.int p2), .val (.long q3), .second, .val (.long (((1 : Int64) <<< (p2.toInt64 &&& 63)) - (1 : Int64))), .second, .val (.long (q3 &&& (((1 : Int64) <<< (p2.toInt64 &&& 63)) - (1 : Int64)))), .second, .val (.int (XT.ushrL q1 (6 : Int32)).toInt32), .val (.int (q1.toInt32 &&& (63 : Int32))), .unset, .unset] d1_43 rfl ?_
      refine g_aloadN K 45 d1_45 rfl rfl ?_
      refine g_iload K 46 d1_46 rfl ?_
      refine g_aloadN K 48 d1_48 rfl rfl ?_
      refine g_iload K 49 d1_49 rfl ?_
      refine g_laload K 51 (rd xs ((XT.ushrL q1 (6 : Int32)).toInt32)) d1_51 A_o0 (hi0.1) (rd_some hi0.2) ?_
      refine g_lload K 52 d1_52 rfl ?_
      refine g_iload K 54 d1_54 rfl ?_
      refine g_lshl K 56 d1_56 ?_
      refine g_ldc2_w K 57 (v := (-1 : Int64)) d1_57 (tw hw 6 rfl) ?_
      refine g_lxor K 60 d1_60 ?_
      refine g_land K 61 d1_61 ?_
      refine g_lload K 62 d1_62 rfl ?_
      refine g_iload K 64 d1_64 rfl ?_
      refine g_lshl K 66 d1_66 ?_
      refine g_lor K 67 d1_67 ?_
      refine g_lastore K 68 d1_68 A_o0 (hi0.1) (hi0.2) g_o0 ?_
      intro h3 Kp4 A5
      have KC6 := KC0.trans Kp4 (allS (Or.inl (by simp)) all0)
      have Z7 := Nat.le_trans Z0 Kp4.1
      refine g_iload K 69 d1_69 rfl ?_
      refine g_iloadN K 71 d1_71 rfl ?_
      refine g_iadd K 72 d1_72 ?_
      refine g_bipush K 73 (64 : Int32) d1_73 (by decide) ?_
      refine g_ii_le K 75 116 d1_75 (by decide) (by decide) ?_ ?_
      · intro c8
        refine g_return K 116 d1_116 rfl (by decide) (by decide) ?_
        rw [hQ]
        exact ⟨rfl, KC6, (show LA Z h3 o0 (f_write_o0 xs q1 p2 q3) from by unfold f_write_o0; rw [if_neg c1, if_neg c2, if_neg c8]; exact A5)⟩
      · intro c8
        refine g_lload K 78 d1_78 rfl ?_
        refine g_bipush K 80 (64 : Int32) d1_80 (by decide) ?_
        refine g_iload K 82 d1_82 rfl ?_
        refine g_isub K 84 d1_84 ?_
        refine g_lushr K 85 d1_85 ?_
        refine g_lstore K 86 #[.val (.ref o0), .val (.long q1), .second, .val (.int p2), .val (.long q3), .second, .val (.long (((1 : Int64) <<< (p2.toInt64 &&& 63)) - (1 : Int64))), .second, .val (.long (q3 &&& (((1 : Int64) <<< (p2.toInt64 &&& 63)) - (1 : Int64)))), .second, .val (.int (XT.ushrL q1 (6 : Int32)).toInt32), .val (.int (q1.toInt32 &&& (63 : Int32))), .val (.long (XT.ushrL (((1 : Int64) <<< (p2.toInt64 &&& 63)) - (1 : Int64)) ((64 : Int32) - (q1.toInt32 &&& (63 : Int32))))), .second] d1_86 rfl ?_
        refine g_aloadN K 88 d1_88 rfl rfl ?_
        refine g_iload K 89 d1_89 rfl ?_
        refine g_iconst K 91 (1 : Int32) d1_91 (by decide) ?_
        refine g_iadd K 92 d1_92 ?_
        refine g_aloadN K 93 d1_93 rfl rfl ?_
        refine g_iload K 94 d1_94 rfl ?_
        refine g_iconst K 96 (1 : Int32) d1_96 (by decide) ?_
        refine g_iadd K 97 d1_97 ?_
        refine g_laload K 98 (rd (xs.set ((XT.ushrL q1 (6 : Int32)).toInt32).toNatClampNeg (((rd xs ((XT.ushrL q1 (6 : Int32)).toInt32)) &&& (((((1 : Int64) <<< (p2.toInt64 &&& 63)) - (1 : Int64)) <<< ((q1.toInt32 &&& (63 : Int32)).toInt64 &&& 63)) ^^^ (-1 : Int64))) ||| ((q3 &&& (((1 : Int64) <<< (p2.toInt64 &&& 63)) - (1 : Int64))) <<< ((q1.toInt32 &&& (63 : Int32)).toInt64 &&& 63)))) (((XT.ushrL q1 (6 : Int32)).toInt32) + (1 : Int32))) d1_98 A5 (hi1.1) (rd_some (by simpa using hi1.2)) ?_
        refine g_lload K 99 d1_99 rfl ?_
        refine g_ldc2_w K 101 (v := (-1 : Int64)) d1_101 (tw hw 6 rfl) ?_
        refine g_lxor K 104 d1_104 ?_
        refine g_land K 105 d1_105 ?_
        refine g_lload K 106 d1_106 rfl ?_
        refine g_bipush K 108 (64 : Int32) d1_108 (by decide) ?_
        refine g_iload K 110 d1_110 rfl ?_
        refine g_isub K 112 d1_112 ?_
        refine g_lushr K 113 d1_113 ?_
        refine g_lor K 114 d1_114 ?_
        refine g_lastore K 115 d1_115 A5 (hi1.1) ((by simpa using hi1.2)) g_o0 ?_
        intro h9 Kp10 A11
        have KC12 := KC6.trans Kp10 (allS (Or.inl (by simp)) all0)
        have Z13 := Nat.le_trans Z7 Kp10.1
        refine g_return K 116 d1_116 rfl (by decide) (by decide) ?_
        rw [hQ]
        exact ⟨rfl, KC12, (show LA Z h9 o0 (f_write_o0 xs q1 p2 q3) from by unfold f_write_o0; rw [if_neg c1, if_neg c2, if_pos c8]; exact A11)⟩
    · intro c2
      refine g_ldc2_w K 11 (v := (-1 : Int64)) d1_11 (tw hw 6 rfl) ?_
      refine g_goto K 14 22 d1_14 (by decide) (by decide) ?_
      refine g_lstore K 22 #[.val (.ref o0), .val (.long q1), .second, .val (.int p2), .val (.long q3), .second, .val (.long (-1 : Int64)), .second, .unset, .unset, .unset, .unset, .unset, .unset] d1_22 rfl ?_
      refine g_lload K 24 d1_24 rfl ?_
      refine g_lload K 26 d1_26 rfl ?_
      refine g_land K 28 d1_28 ?_
      refine g_lstore K 29 #[.val (.ref o0), .val (.long q1), .second, .val (.int p2), .val (.long q3), .second, .val (.long (-1 : Int64)), .second, .val (.long (q3 &&& (-1 : Int64))), .second, .unset, .unset, .unset, .unset] d1_29 rfl ?_
      refine g_lloadN K 31 d1_31 rfl ?_
      refine g_bipush K 32 (6 : Int32) d1_32 (by decide) ?_
      refine g_lushr K 34 d1_34 ?_
      refine g_l2i K 35 d1_35 ?_
      refine g_istore K 36 #[.val (.ref o0), .val (.long q1), .second, .val (.int p2), .val (.long q3), .second, .val (.long (-1 : Int64)), .second, .val (.long (q3 &&& (-1 : Int64))), .second, .val (.int (XT.ushrL q1 (6 : Int32)).toInt32), .unset, .unset, .unset] d1_36 rfl ?_
      refine g_lloadN K 38 d1_38 rfl ?_
      refine g_l2i K 39 d1_39 ?_
      refine g_bipush K 40 (63 : Int32) d1_40 (by decide) ?_
      refine g_iand K 42 d1_42 ?_
      refine g_istore K 43 #[.val (.ref o0), .val (.long q1), .second, .val (.int p2), .val (.long q3), .second, .val (.long (-1 : Int64)), .second, .val (.long (q3 &&& (-1 : Int64))), .second, .val (.int (XT.ushrL q1 (6 : Int32)).toInt32), .val (.int (q1.toInt32 &&& (63 : Int32))), .unset, .unset] d1_43 rfl ?_
      refine g_aloadN K 45 d1_45 rfl rfl ?_
      refine g_iload K 46 d1_46 rfl ?_
      refine g_aloadN K 48 d1_48 rfl rfl ?_
      refine g_iload K 49 d1_49 rfl ?_
      refine g_laload K 51 (rd xs ((XT.ushrL q1 (6 : Int32)).toInt32)) d1_51 A_o0 (hi0.1) (rd_some hi0.2) ?_
      refine g_lload K 52 d1_52 rfl ?_
      refine g_iload K 54 d1_54 rfl ?_
      refine g_lshl K 56 d1_56 ?_
      refine g_ldc2_w K 57 (v := (-1 : Int64)) d1_57 (tw hw 6 rfl) ?_
      refine g_lxor K 60 d1_60 ?_
      refine g_land K 61 d1_61 ?_
      refine g_lload K 62 d1_62 rfl ?_
      refine g_iload K 64 d1_64 rfl ?_
      refine g_lshl K 66 d1_66 ?_
      refine g_lor K 67 d1_67 ?_
      refine g_lastore K 68 d1_68 A_o0 (hi0.1) (hi0.2) g_o0 ?_
      intro h14 Kp15 A16
      have KC17 := KC0.trans Kp15 (allS (Or.inl (by simp)) all0)
      have Z18 := Nat.le_trans Z0 Kp15.1
      refine g_iload K 69 d1_69 rfl ?_
      refine g_iloadN K 71 d1_71 rfl ?_
      refine g_iadd K 72 d1_72 ?_
      refine g_bipush K 73 (64 : Int32) d1_73 (by decide) ?_
      refine g_ii_le K 75 116 d1_75 (by decide) (by decide) ?_ ?_
      · intro c19
        refine g_return K 116 d1_116 rfl (by decide) (by decide) ?_
        rw [hQ]
        exact ⟨rfl, KC17, (show LA Z h14 o0 (f_write_o0 xs q1 p2 q3) from by unfold f_write_o0; rw [if_neg c1, if_pos c2, if_neg c19]; exact A16)⟩
      · intro c19
        refine g_lload K 78 d1_78 rfl ?_
        refine g_bipush K 80 (64 : Int32) d1_80 (by decide) ?_
        refine g_iload K 82 d1_82 rfl ?_
        refine g_isub K 84 d1_84 ?_
        refine g_lushr K 85 d1_85 ?_
        refine g_lstore K 86 #[.val (.ref o0), .val (.long q1), .second, .val (.int p2), .val (.long q3), .second, .val (.long (-1 : Int64)), .second, .val (.long (q3 &&& (-1 : Int64))), .second, .val (.int (XT.ushrL q1 (6 : Int32)).toInt32), .val (.int (q1.toInt32 &&& (63 : Int32))), .val (.long (XT.ushrL (-1 : Int64) ((64 : Int32) - (q1.toInt32 &&& (63 : Int32))))), .second] d1_86 rfl ?_
        refine g_aloadN K 88 d1_88 rfl rfl ?_
        refine g_iload K 89 d1_89 rfl ?_
        refine g_iconst K 91 (1 : Int32) d1_91 (by decide) ?_
        refine g_iadd K 92 d1_92 ?_
        refine g_aloadN K 93 d1_93 rfl rfl ?_
        refine g_iload K 94 d1_94 rfl ?_
        refine g_iconst K 96 (1 : Int32) d1_96 (by decide) ?_
        refine g_iadd K 97 d1_97 ?_
        refine g_laload K 98 (rd (xs.set ((XT.ushrL q1 (6 : Int32)).toInt32).toNatClampNeg (((rd xs ((XT.ushrL q1 (6 : Int32)).toInt32)) &&& (((-1 : Int64) <<< ((q1.toInt32 &&& (63 : Int32)).toInt64 &&& 63)) ^^^ (-1 : Int64))) ||| ((q3 &&& (-1 : Int64)) <<< ((q1.toInt32 &&& (63 : Int32)).toInt64 &&& 63)))) (((XT.ushrL q1 (6 : Int32)).toInt32) + (1 : Int32))) d1_98 A16 (hi1.1) (rd_some (by simpa using hi1.2)) ?_
        refine g_lload K 99 d1_99 rfl ?_
        refine g_ldc2_w K 101 (v := (-1 : Int64)) d1_101 (tw hw 6 rfl) ?_
        refine g_lxor K 104 d1_104 ?_
        refine g_land K 105 d1_105 ?_
        refine g_lload K 106 d1_106 rfl ?_
        refine g_bipush K 108 (64 : Int32) d1_108 (by decide) ?_
        refine g_iload K 110 d1_110 rfl ?_
        refine g_isub K 112 d1_112 ?_
        refine g_lushr K 113 d1_113 ?_
        refine g_lor K 114 d1_114 ?_
        refine g_lastore K 115 d1_115 A16 (hi1.1) ((by simpa using hi1.2)) g_o0 ?_
        intro h20 Kp21 A22
        have KC23 := KC17.trans Kp21 (allS (Or.inl (by simp)) all0)
        have Z24 := Nat.le_trans Z18 Kp21.1
        refine g_return K 116 d1_116 rfl (by decide) (by decide) ?_
        rw [hQ]
        exact ⟨rfl, KC23, (show LA Z h20 o0 (f_write_o0 xs q1 p2 q3) from by unfold f_write_o0; rw [if_neg c1, if_pos c2, if_pos c19]; exact A22)⟩
  · intro c1
    refine g_return K 4 d1_4 rfl (by decide) (by decide) ?_
    rw [hQ]
    exact ⟨rfl, KC0, (show LA Z h0 o0 (f_write_o0 xs q1 p2 q3) from by unfold f_write_o0; rw [if_pos c1]; exact A_o0)⟩
def f_max (x : Int32) (y : Int32) : Int32 := if x < y then y else x
set_option maxRecDepth 65536 in
set_option maxHeartbeats 40000000 in
theorem rm_max (l : Launch) (Z : State) (a0 : Array Value) (hw : ∀ d ∈ tables_1, d.before a0 Z = true) (x : Int32) (y : Int32) (h0 : Heap) (n0 : Nat) (Z0 : n0 ≤ h0.size)   :
    Meets l (⟨"java/lang/Math", "max", "(II)I"⟩ : MethodName) jdk_29_method_65_code 2 (some .int) ({ frames := 0, cells := 0, slots := 0, locals := 0 } : Room) Z #[(.int x), (.int y)] h0 n0 (fun v h => v = some (Value.int (f_max x y)) ∧ h = h0) := by
  refine meets_of (by decide +kernel) (Ls := #[.val (.int x), .val (.int y)]) (fun m => by first | (simp [entryFrame, mkF, argsToLocals, Value.category]; done) | rfl) ?_
  intro p e s m below meth c K
  replace K : Kx Z "java/lang/Math" "max" jdk_29_method_65_code 2 (some .int) p s m meth c := K
  obtain ⟨Q, hQ⟩ : ∃ Q : Option Value → Heap → Prop, Q = (fun v h => v = some (Value.int (f_max x y)) ∧ h = h0) := ⟨_, rfl⟩
  rw [← hQ]
  refine g_iloadN K 0 d3_0 rfl ?_
  refine g_iloadN K 1 d3_1 rfl ?_
  refine g_ii_lt K 2 9 d3_2 (by decide) (by decide) ?_ ?_
  · intro c1
    refine g_iloadN K 9 d3_9 rfl ?_
    refine g_ireturn K 10 d3_10 rfl (by decide) (by decide) ?_
    rw [hQ]
    refine ⟨?_, rfl⟩
    show some (Value.int _) = some (Value.int (f_max x y))
    unfold f_max
    first | (rw [if_pos c1]; done) | (rw [if_pos c1]; rfl)
  · intro c1
    refine g_iloadN K 5 d3_5 rfl ?_
    refine g_goto K 6 10 d3_6 (by decide) (by decide) ?_
    refine g_ireturn K 10 d3_10 rfl (by decide) (by decide) ?_
    rw [hQ]
    refine ⟨?_, rfl⟩
    show some (Value.int _) = some (Value.int (f_max x y))
    unfold f_max
    first | (rw [if_neg c1]; done) | (rw [if_neg c1]; rfl)
def f_min (x : Int32) (y : Int32) : Int32 := if y < x then y else x
set_option maxRecDepth 65536 in
set_option maxHeartbeats 40000000 in
theorem rm_min (l : Launch) (Z : State) (a0 : Array Value) (hw : ∀ d ∈ tables_1, d.before a0 Z = true) (x : Int32) (y : Int32) (h0 : Heap) (n0 : Nat) (Z0 : n0 ≤ h0.size)   :
    Meets l (⟨"java/lang/Math", "min", "(II)I"⟩ : MethodName) jdk_29_method_69_code 2 (some .int) ({ frames := 0, cells := 0, slots := 0, locals := 0 } : Room) Z #[(.int x), (.int y)] h0 n0 (fun v h => v = some (Value.int (f_min x y)) ∧ h = h0) := by
  refine meets_of (by decide +kernel) (Ls := #[.val (.int x), .val (.int y)]) (fun m => by first | (simp [entryFrame, mkF, argsToLocals, Value.category]; done) | rfl) ?_
  intro p e s m below meth c K
  replace K : Kx Z "java/lang/Math" "min" jdk_29_method_69_code 2 (some .int) p s m meth c := K
  obtain ⟨Q, hQ⟩ : ∃ Q : Option Value → Heap → Prop, Q = (fun v h => v = some (Value.int (f_min x y)) ∧ h = h0) := ⟨_, rfl⟩
  rw [← hQ]
  refine g_iloadN K 0 d4_0 rfl ?_
  refine g_iloadN K 1 d4_1 rfl ?_
  refine g_ii_gt K 2 9 d4_2 (by decide) (by decide) ?_ ?_
  · intro c1
    refine g_iloadN K 9 d4_9 rfl ?_
    refine g_ireturn K 10 d4_10 rfl (by decide) (by decide) ?_
    rw [hQ]
    refine ⟨?_, rfl⟩
    show some (Value.int _) = some (Value.int (f_min x y))
    unfold f_min
    first | (rw [if_pos c1]; done) | (rw [if_pos c1]; rfl)
  · intro c1
    refine g_iloadN K 5 d4_5 rfl ?_
    refine g_goto K 6 10 d4_6 (by decide) (by decide) ?_
    refine g_ireturn K 10 d4_10 rfl (by decide) (by decide) ?_
    rw [hQ]
    refine ⟨?_, rfl⟩
    show some (Value.int _) = some (Value.int (f_min x y))
    unfold f_min
    first | (rw [if_neg c1]; done) | (rw [if_neg c1]; rfl)
def f_below (x : Int32) : Int64 := if x < (64 : Int32) then (if 0 < x then (((1 : Int64) <<< (x.toInt64 &&& 63)) - (1 : Int64)) else (0 : Int64)) else (-1 : Int64)
set_option maxRecDepth 65536 in
set_option maxHeartbeats 40000000 in
theorem rm_below (l : Launch) (Z : State) (a0 : Array Value) (hw : ∀ d ∈ tables_1, d.before a0 Z = true) (x : Int32) (h0 : Heap) (n0 : Nat) (Z0 : n0 ≤ h0.size)   :
    Meets l (⟨"com/example/zedcube/zedcube/engine/BitArrayWritePinLaw", "below", "(I)J"⟩ : MethodName) method_2_code 1 (some .long) ({ frames := 0, cells := 0, slots := 0, locals := 0 } : Room) Z #[(.int x)] h0 n0 (fun v h => v = some (Value.long (f_below x)) ∧ h = h0) := by
  refine meets_of (plainFor_of_name pn1) (Ls := #[.val (.int x)]) (fun m => by first | (simp [entryFrame, mkF, argsToLocals, Value.category]; done) | rfl) ?_
  intro p e s m below meth c K
  replace K : Kx Z "com/example/zedcube/zedcube/engine/BitArrayWritePinLaw" "below" method_2_code 1 (some .long) p s m meth c := K
  obtain ⟨Q, hQ⟩ : ∃ Q : Option Value → Heap → Prop, Q = (fun v h => v = some (Value.long (f_below x)) ∧ h = h0) := ⟨_, rfl⟩
  rw [← hQ]
  refine g_iloadN K 0 d5_0 rfl ?_
  refine g_bipush K 1 (64 : Int32) d5_1 (by decide) ?_
  refine g_ii_lt K 3 10 d5_3 (by decide) (by decide) ?_ ?_
  · intro c1
    refine g_iloadN K 10 d5_10 rfl ?_
    refine g_if_gt K 11 16 d5_11 (by decide) (by decide) ?_ ?_
    · intro c2
      refine g_lconst K 16 (1 : Int64) d5_16 (by decide) ?_
      refine g_iloadN K 17 d5_17 rfl ?_
      refine g_lshl K 18 d5_18 ?_
      refine g_lconst K 19 (1 : Int64) d5_19 (by decide) ?_
      refine g_lsub K 20 d5_20 ?_
      refine g_lreturn K 21 d5_21 rfl (by decide) (by decide) ?_
      rw [hQ]
      refine ⟨?_, rfl⟩
      show some (Value.long _) = some (Value.long (f_below x))
      unfold f_below
      first | (rw [if_pos c1, if_pos c2]; done) | (rw [if_pos c1, if_pos c2]; rfl)
    · intro c2
      refine g_lconst K 14 (0 : Int64) d5_14 (by decide) ?_
      refine g_lreturn K 15 d5_15 rfl (by decide) (by decide) ?_
      rw [hQ]
      refine ⟨?_, rfl⟩
      show some (Value.long _) = some (Value.long (f_below x))
      unfold f_below
      first | (rw [if_pos c1, if_neg c2]; done) | (rw [if_pos c1, if_neg c2]; rfl)
  · intro c1
    refine g_ldc2_w K 6 (v := (-1 : Int64)) d5_6 (tw hw 21 rfl) ?_
    refine g_lreturn K 9 d5_9 rfl (by decide) (by decide) ?_
    rw [hQ]
    refine ⟨?_, rfl⟩
    show some (Value.long _) = some (Value.long (f_below x))
    unfold f_below
    first | (rw [if_neg c1]; done) | (rw [if_neg c1]; rfl)
def f_expect (old : Int64) (ix : Int32) (pp : Int32) (ww : Int32) (vv : Int64) : Int64 := ((old &&& ((if ((f_max pp ((64 : Int32) * ix)) - ((64 : Int32) * ix)) < ((f_min (pp + ww) (((64 : Int32) * ix) + (64 : Int32))) - ((64 : Int32) * ix)) then ((f_below ((f_min (pp + ww) (((64 : Int32) * ix) + (64 : Int32))) - ((64 : Int32) * ix))) &&& ((f_below ((f_max pp ((64 : Int32) * ix)) - ((64 : Int32) * ix))) ^^^ (-1 : Int64))) else (0 : Int64)) ^^^ (-1 : Int64))) ||| ((if (((64 : Int32) * ix) - pp) < (64 : Int32) then (if (-64 : Int32) < (((64 : Int32) * ix) - pp) then (if (((64 : Int32) * ix) - pp) < 0 then (vv <<< ((-(((64 : Int32) * ix) - pp)).toInt64 &&& 63)) else (XT.ushrL vv (((64 : Int32) * ix) - pp))) else (0 : Int64)) else (0 : Int64)) &&& (if ((f_max pp ((64 : Int32) * ix)) - ((64 : Int32) * ix)) < ((f_min (pp + ww) (((64 : Int32) * ix) + (64 : Int32))) - ((64 : Int32) * ix)) then ((f_below ((f_min (pp + ww) (((64 : Int32) * ix) + (64 : Int32))) - ((64 : Int32) * ix))) &&& ((f_below ((f_max pp ((64 : Int32) * ix)) - ((64 : Int32) * ix))) ^^^ (-1 : Int64))) else (0 : Int64))))
set_option maxRecDepth 65536 in
set_option maxHeartbeats 40000000 in
theorem rm_expect (l : Launch) (Z : State) (a0 : Array Value) (hw : ∀ d ∈ tables_1, d.before a0 Z = true) (old : Int64) (ix : Int32) (pp : Int32) (ww : Int32) (vv : Int64) (h0 : Heap) (n0 : Nat) (Z0 : n0 ≤ h0.size)   :
    Meets l (⟨"com/example/zedcube/zedcube/engine/BitArrayWritePinLaw", "expect", "(JIIIJ)J"⟩ : MethodName) method_3_code 15 (some .long) ({ frames := 1, cells := 0, slots := 0, locals := 15 } : Room) Z #[(.long old), (.int ix), (.int pp), (.int ww), (.long vv)] h0 n0 (fun v h => v = some (Value.long (f_expect old ix pp ww vv)) ∧ h = h0) := by
  refine meets_of (plainFor_of_name pn1) (Ls := #[.val (.long old), .second, .val (.int ix), .val (.int pp), .val (.int ww), .val (.long vv), .second, .unset, .unset, .unset, .unset, .unset, .unset, .unset, .unset]) (fun m => by first | (simp [entryFrame, mkF, argsToLocals, Value.category]; done) | rfl) ?_
  intro p e s m below meth c K
  replace K : Kx Z "com/example/zedcube/zedcube/engine/BitArrayWritePinLaw" "expect" method_3_code 15 (some .long) p s m meth c := K
  obtain ⟨Q, hQ⟩ : ∃ Q : Option Value → Heap → Prop, Q = (fun v h => v = some (Value.long (f_expect old ix pp ww vv)) ∧ h = h0) := ⟨_, rfl⟩
  rw [← hQ]
  refine g_bipush K 0 (64 : Int32) d2_0 (by decide) ?_
  refine g_iloadN K 2 d2_2 rfl ?_
  refine g_imul K 3 d2_3 ?_
  refine g_istore K 4 #[.val (.long old), .second, .val (.int ix), .val (.int pp), .val (.int ww), .val (.long vv), .second, .val (.int ((64 : Int32) * ix)), .unset, .unset, .unset, .unset, .unset, .unset, .unset] d2_4 rfl ?_
  refine g_iloadN K 6 d2_6 rfl ?_
  refine g_iload K 7 d2_7 rfl ?_
  refine g_callS K 9 [(.int pp), (.int ((64 : Int32) * ix))] 0 d2_9 (rm_max l Z a0 hw pp ((64 : Int32) * ix) h0 n0 Z0  ) (tw hw 11 rfl) (tw hw 12 rfl) (tw hw 13 rfl) (tw hw 14 rfl) (by decide) pd2 rfl (st := []) rfl (Nat.le_of_eq rfl) rfl (by decide) (by decide) (by decide) (by decide) ?_
  rintro _ _ ⟨hv, hh⟩
  rw [hv, hh]
  clear hv hh
  refine go_cast (k' := 0) (n' := 0) (st' := [(.int (f_max pp ((64 : Int32) * ix)))]) rfl rfl rfl ?_
  refine g_iload K 12 d2_12 rfl ?_
  refine g_isub K 14 d2_14 ?_
  refine g_istore K 15 #[.val (.long old), .second, .val (.int ix), .val (.int pp), .val (.int ww), .val (.long vv), .second, .val (.int ((64 : Int32) * ix)), .val (.int ((f_max pp ((64 : Int32) * ix)) - ((64 : Int32) * ix))), .unset, .unset, .unset, .unset, .unset, .unset] d2_15 rfl ?_
  refine g_iloadN K 17 d2_17 rfl ?_
  refine g_iload K 18 d2_18 rfl ?_
  refine g_iadd K 20 d2_20 ?_
  refine g_iload K 21 d2_21 rfl ?_
  refine g_bipush K 23 (64 : Int32) d2_23 (by decide) ?_
  refine g_iadd K 25 d2_25 ?_
  refine g_callS K 26 [(.int (pp + ww)), (.int (((64 : Int32) * ix) + (64 : Int32)))] 0 d2_26 (rm_min l Z a0 hw (pp + ww) (((64 : Int32) * ix) + (64 : Int32)) h0 n0 Z0  ) (tw hw 15 rfl) (tw hw 16 rfl) (tw hw 13 rfl) (tw hw 17 rfl) (by decide) pd2 rfl (st := []) rfl (Nat.le_of_eq rfl) rfl (by decide) (by decide) (by decide) (by decide) ?_
  rintro _ _ ⟨hv, hh⟩
  rw [hv, hh]
  clear hv hh
  refine go_cast (k' := 0) (n' := 0) (st' := [(.int (f_min (pp + ww) (((64 : Int32) * ix) + (64 : Int32))))]) rfl rfl rfl ?_
  refine g_iload K 29 d2_29 rfl ?_
  refine g_isub K 31 d2_31 ?_
  refine g_istore K 32 #[.val (.long old), .second, .val (.int ix), .val (.int pp), .val (.int ww), .val (.long vv), .second, .val (.int ((64 : Int32) * ix)), .val (.int ((f_max pp ((64 : Int32) * ix)) - ((64 : Int32) * ix))), .val (.int ((f_min (pp + ww) (((64 : Int32) * ix) + (64 : Int32))) - ((64 : Int32) * ix))), .unset, .unset, .unset, .unset, .unset] d2_32 rfl ?_
  refine g_iload K 34 d2_34 rfl ?_
  refine g_iload K 36 d2_36 rfl ?_
  have J2 : ∀ (z1 : Int64), z1 = (if ((f_max pp ((64 : Int32) * ix)) - ((64 : Int32) * ix)) < ((f_min (pp + ww) (((64 : Int32) * ix) + (64 : Int32))) - ((64 : Int32) * ix)) then ((f_below ((f_min (pp + ww) (((64 : Int32) * ix) + (64 : Int32))) - ((64 : Int32) * ix))) &&& ((f_below ((f_max pp ((64 : Int32) * ix)) - ((64 : Int32) * ix))) ^^^ (-1 : Int64))) else (0 : Int64)) → Go p l e ({ frames := 1, cells := 0, slots := 0, locals := 15 } : Room) s m #[(.long old), (.int ix), (.int pp), (.int ww), (.long vv)] below meth c n0 Q h0 0 0 (mkF m 60 #[.val (.long old), .second, .val (.int ix), .val (.int pp), .val (.int ww), .val (.long vv), .second, .val (.int ((64 : Int32) * ix)), .val (.int ((f_max pp ((64 : Int32) * ix)) - ((64 : Int32) * ix))), .val (.int ((f_min (pp + ww) (((64 : Int32) * ix) + (64 : Int32))) - ((64 : Int32) * ix))), .unset, .unset, .unset, .unset, .unset] [(.long z1)]) := by
    intro z1 hz1
    subst hz1
    refine g_lstore K 60 #[.val (.long old), .second, .val (.int ix), .val (.int pp), .val (.int ww), .val (.long vv), .second, .val (.int ((64 : Int32) * ix)), .val (.int ((f_max pp ((64 : Int32) * ix)) - ((64 : Int32) * ix))), .val (.int ((f_min (pp + ww) (((64 : Int32) * ix) + (64 : Int32))) - ((64 : Int32) * ix))), .val (.long (if ((f_max pp ((64 : Int32) * ix)) - ((64 : Int32) * ix)) < ((f_min (pp + ww) (((64 : Int32) * ix) + (64 : Int32))) - ((64 : Int32) * ix)) then ((f_below ((f_min (pp + ww) (((64 : Int32) * ix) + (64 : Int32))) - ((64 : Int32) * ix))) &&& ((f_below ((f_max pp ((64 : Int32) * ix)) - ((64 : Int32) * ix))) ^^^ (-1 : Int64))) else (0 : Int64))), .second, .unset, .unset, .unset] d2_60 rfl ?_
    refine g_iload K 62 d2_62 rfl ?_
    refine g_iloadN K 64 d2_64 rfl ?_
    refine g_isub K 65 d2_65 ?_
    refine g_istore K 66 #[.val (.long old), .second, .val (.int ix), .val (.int pp), .val (.int ww), .val (.long vv), .second, .val (.int ((64 : Int32) * ix)), .val (.int ((f_max pp ((64 : Int32) * ix)) - ((64 : Int32) * ix))), .val (.int ((f_min (pp + ww) (((64 : Int32) * ix) + (64 : Int32))) - ((64 : Int32) * ix))), .val (.long (if ((f_max pp ((64 : Int32) * ix)) - ((64 : Int32) * ix)) < ((f_min (pp + ww) (((64 : Int32) * ix) + (64 : Int32))) - ((64 : Int32) * ix)) then ((f_below ((f_min (pp + ww) (((64 : Int32) * ix) + (64 : Int32))) - ((64 : Int32) * ix))) &&& ((f_below ((f_max pp ((64 : Int32) * ix)) - ((64 : Int32) * ix))) ^^^ (-1 : Int64))) else (0 : Int64))), .second, .val (.int (((64 : Int32) * ix) - pp)), .unset, .unset] d2_66 rfl ?_
    refine g_iload K 68 d2_68 rfl ?_
    refine g_bipush K 70 (64 : Int32) d2_70 (by decide) ?_
    have J4 : ∀ (z3 : Int64), z3 = (if (((64 : Int32) * ix) - pp) < (64 : Int32) then (if (-64 : Int32) < (((64 : Int32) * ix) - pp) then (if (((64 : Int32) * ix) - pp) < 0 then (vv <<< ((-(((64 : Int32) * ix) - pp)).toInt64 &&& 63)) else (XT.ushrL vv (((64 : Int32) * ix) - pp))) else (0 : Int64)) else (0 : Int64)) → Go p l e ({ frames := 1, cells := 0, slots := 0, locals := 15 } : Room) s m #[(.long old), (.int ix), (.int pp), (.int ww), (.long vv)] below meth c n0 Q h0 0 0 (mkF m 111 #[.val (.long old), .second, .val (.int ix), .val (.int pp), .val (.int ww), .val (.long vv), .second, .val (.int ((64 : Int32) * ix)), .val (.int ((f_max pp ((64 : Int32) * ix)) - ((64 : Int32) * ix))), .val (.int ((f_min (pp + ww) (((64 : Int32) * ix) + (64 : Int32))) - ((64 : Int32) * ix))), .val (.long (if ((f_max pp ((64 : Int32) * ix)) - ((64 : Int32) * ix)) < ((f_min (pp + ww) (((64 : Int32) * ix) + (64 : Int32))) - ((64 : Int32) * ix)) then ((f_below ((f_min (pp + ww) (((64 : Int32) * ix) + (64 : Int32))) - ((64 : Int32) * ix))) &&& ((f_below ((f_max pp ((64 : Int32) * ix)) - ((64 : Int32) * ix))) ^^^ (-1 : Int64))) else (0 : Int64))), .second, .val (.int (((64 : Int32) * ix) - pp)), .val (.long z3), .second] []) := by
      intro z3 hz3
      subst hz3
      refine g_lloadN K 111 d2_111 rfl ?_
      refine g_lload K 112 d2_112 rfl ?_
      refine g_ldc2_w K 114 (v := (-1 : Int64)) d2_114 (tw hw 21 rfl) ?_
      refine g_lxor K 117 d2_117 ?_
      refine g_land K 118 d2_118 ?_
      refine g_lload K 119 d2_119 rfl ?_
      refine g_lload K 121 d2_121 rfl ?_
      refine g_land K 123 d2_123 ?_
      refine g_lor K 124 d2_124 ?_
      refine g_lreturn K 125 d2_125 rfl (by decide) (by decide) ?_
      rw [hQ]
      refine ⟨?_, rfl⟩
      show some (Value.long _) = some (Value.long (f_expect old ix pp ww vv))
      unfold f_expect
      rfl
    refine g_ii_ge K 72 82 d2_72 (by decide) (by decide) ?_ ?_
    · intro c5
      refine g_lconst K 82 (0 : Int64) d2_82 (by decide) ?_
      refine g_lstore K 83 #[.val (.long old), .second, .val (.int ix), .val (.int pp), .val (.int ww), .val (.long vv), .second, .val (.int ((64 : Int32) * ix)), .val (.int ((f_max pp ((64 : Int32) * ix)) - ((64 : Int32) * ix))), .val (.int ((f_min (pp + ww) (((64 : Int32) * ix) + (64 : Int32))) - ((64 : Int32) * ix))), .val (.long (if ((f_max pp ((64 : Int32) * ix)) - ((64 : Int32) * ix)) < ((f_min (pp + ww) (((64 : Int32) * ix) + (64 : Int32))) - ((64 : Int32) * ix)) then ((f_below ((f_min (pp + ww) (((64 : Int32) * ix) + (64 : Int32))) - ((64 : Int32) * ix))) &&& ((f_below ((f_max pp ((64 : Int32) * ix)) - ((64 : Int32) * ix))) ^^^ (-1 : Int64))) else (0 : Int64))), .second, .val (.int (((64 : Int32) * ix) - pp)), .val (.long (0 : Int64)), .second] d2_83 rfl ?_
      refine g_goto K 85 111 d2_85 (by decide) (by decide) ?_
      exact J4 _ (by rw [if_neg c5])
    · intro c5
      refine g_iload K 75 d2_75 rfl ?_
      refine g_bipush K 77 (-64 : Int32) d2_77 (by decide) ?_
      refine g_ii_gt K 79 88 d2_79 (by decide) (by decide) ?_ ?_
      · intro c6
        refine g_iload K 88 d2_88 rfl ?_
        refine g_if_lt K 90 103 d2_90 (by decide) (by decide) ?_ ?_
        · intro c7
          refine g_lload K 103 d2_103 rfl ?_
          refine g_iload K 105 d2_105 rfl ?_
          refine g_ineg K 107 d2_107 ?_
          refine g_lshl K 108 d2_108 ?_
          refine g_lstore K 109 #[.val (.long old), .second, .val (.int ix), .val (.int pp), .val (.int ww), .val (.long vv), .second, .val (.int ((64 : Int32) * ix)), .val (.int ((f_max pp ((64 : Int32) * ix)) - ((64 : Int32) * ix))), .val (.int ((f_min (pp + ww) (((64 : Int32) * ix) + (64 : Int32))) - ((64 : Int32) * ix))), .val (.long (if ((f_max pp ((64 : Int32) * ix)) - ((64 : Int32) * ix)) < ((f_min (pp + ww) (((64 : Int32) * ix) + (64 : Int32))) - ((64 : Int32) * ix)) then ((f_below ((f_min (pp + ww) (((64 : Int32) * ix) + (64 : Int32))) - ((64 : Int32) * ix))) &&& ((f_below ((f_max pp ((64 : Int32) * ix)) - ((64 : Int32) * ix))) ^^^ (-1 : Int64))) else (0 : Int64))), .second, .val (.int (((64 : Int32) * ix) - pp)), .val (.long (vv <<< ((-(((64 : Int32) * ix) - pp)).toInt64 &&& 63))), .second] d2_109 rfl ?_
          exact J4 _ (by rw [if_pos c5, if_pos c6, if_pos c7])
        · intro c7
          refine g_lload K 93 d2_93 rfl ?_
          refine g_iload K 95 d2_95 rfl ?_
          refine g_lushr K 97 d2_97 ?_
          refine g_lstore K 98 #[.val (.long old), .second, .val (.int ix), .val (.int pp), .val (.int ww), .val (.long vv), .second, .val (.int ((64 : Int32) * ix)), .val (.int ((f_max pp ((64 : Int32) * ix)) - ((64 : Int32) * ix))), .val (.int ((f_min (pp + ww) (((64 : Int32) * ix) + (64 : Int32))) - ((64 : Int32) * ix))), .val (.long (if ((f_max pp ((64 : Int32) * ix)) - ((64 : Int32) * ix)) < ((f_min (pp + ww) (((64 : Int32) * ix) + (64 : Int32))) - ((64 : Int32) * ix)) then ((f_below ((f_min (pp + ww) (((64 : Int32) * ix) + (64 : Int32))) - ((64 : Int32) * ix))) &&& ((f_below ((f_max pp ((64 : Int32) * ix)) - ((64 : Int32) * ix))) ^^^ (-1 : Int64))) else (0 : Int64))), .second, .val (.int (((64 : Int32) * ix) - pp)), .val (.long (XT.ushrL vv (((64 : Int32) * ix) - pp))), .second] d2_98 rfl ?_
          refine g_goto K 100 111 d2_100 (by decide) (by decide) ?_
          exact J4 _ (by rw [if_pos c5, if_pos c6, if_neg c7])
      · intro c6
        refine g_lconst K 82 (0 : Int64) d2_82 (by decide) ?_
        refine g_lstore K 83 #[.val (.long old), .second, .val (.int ix), .val (.int pp), .val (.int ww), .val (.long vv), .second, .val (.int ((64 : Int32) * ix)), .val (.int ((f_max pp ((64 : Int32) * ix)) - ((64 : Int32) * ix))), .val (.int ((f_min (pp + ww) (((64 : Int32) * ix) + (64 : Int32))) - ((64 : Int32) * ix))), .val (.long (if ((f_max pp ((64 : Int32) * ix)) - ((64 : Int32) * ix)) < ((f_min (pp + ww) (((64 : Int32) * ix) + (64 : Int32))) - ((64 : Int32) * ix)) then ((f_below ((f_min (pp + ww) (((64 : Int32) * ix) + (64 : Int32))) - ((64 : Int32) * ix))) &&& ((f_below ((f_max pp ((64 : Int32) * ix)) - ((64 : Int32) * ix))) ^^^ (-1 : Int64))) else (0 : Int64))), .second, .val (.int (((64 : Int32) * ix) - pp)), .val (.long (0 : Int64)), .second] d2_83 rfl ?_
        refine g_goto K 85 111 d2_85 (by decide) (by decide) ?_
        exact J4 _ (by rw [if_pos c5, if_neg c6])
  refine g_ii_gt K 38 45 d2_38 (by decide) (by decide) ?_ ?_
  · intro c8
    refine g_iload K 45 d2_45 rfl ?_
    refine g_callS K 47 [(.int ((f_min (pp + ww) (((64 : Int32) * ix) + (64 : Int32))) - ((64 : Int32) * ix)))] 0 d2_47 (rm_below l Z a0 hw ((f_min (pp + ww) (((64 : Int32) * ix) + (64 : Int32))) - ((64 : Int32) * ix)) h0 n0 Z0  ) (tw hw 18 rfl) (tw hw 19 rfl) (tw hw 9 rfl) (tw hw 20 rfl) (by decide) pd3 rfl (st := []) rfl (Nat.le_of_eq rfl) rfl (by decide) (by decide) (by decide) (by decide) ?_
    rintro _ _ ⟨hv, hh⟩
    rw [hv, hh]
    clear hv hh
    refine go_cast (k' := 0) (n' := 0) (st' := [(.long (f_below ((f_min (pp + ww) (((64 : Int32) * ix) + (64 : Int32))) - ((64 : Int32) * ix))))]) rfl rfl rfl ?_
    refine g_iload K 50 d2_50 rfl ?_
    refine g_callS K 52 [(.int ((f_max pp ((64 : Int32) * ix)) - ((64 : Int32) * ix)))] 2 d2_52 (rm_below l Z a0 hw ((f_max pp ((64 : Int32) * ix)) - ((64 : Int32) * ix)) h0 n0 Z0  ) (tw hw 18 rfl) (tw hw 19 rfl) (tw hw 9 rfl) (tw hw 20 rfl) (by decide) pd3 rfl (st := [(.long (f_below ((f_min (pp + ww) (((64 : Int32) * ix) + (64 : Int32))) - ((64 : Int32) * ix))))]) rfl (Nat.le_of_eq rfl) rfl (by decide) (by decide) (by decide) (by decide) ?_
    rintro _ _ ⟨hv, hh⟩
    rw [hv, hh]
    clear hv hh
    refine go_cast (k' := 0) (n' := 0) (st' := [(.long (f_below ((f_max pp ((64 : Int32) * ix)) - ((64 : Int32) * ix)))), (.long (f_below ((f_min (pp + ww) (((64 : Int32) * ix) + (64 : Int32))) - ((64 : Int32) * ix))))]) rfl rfl rfl ?_
    refine g_ldc2_w K 55 (v := (-1 : Int64)) d2_55 (tw hw 21 rfl) ?_
    refine g_lxor K 58 d2_58 ?_
    refine g_land K 59 d2_59 ?_
    exact J2 _ (by rw [if_pos c8])
  · intro c8
    refine g_lconst K 41 (0 : Int64) d2_41 (by decide) ?_
    refine g_goto K 42 60 d2_42 (by decide) (by decide) ?_
    exact J2 _ (by rw [if_neg c8])
theorem own_ix (pos : Int64) (hp : 0 ≤ pos.toInt ∧ pos.toInt < 128) : (XT.ushrL pos (6 : Int32)).toInt32.toInt = pos.toInt / 64 ∧ ((XT.ushrL pos (6 : Int32)).toInt32 + (1 : Int32)).toInt = pos.toInt / 64 + 1 ∧ (pos.toInt32 &&& (63 : Int32)).toInt = pos.toInt % 64 := by
  have h1 := n_lushr pos 6 6 (by decide)
  have h2 := nn64 pos hp.1
  have h3 := i64 (XT.ushrL pos 6)
  rw [h1, h2, if_pos (by omega)] at h3
  have h4 := c_l2i (XT.ushrL pos 6)
  have r4 := rng32 (XT.ushrL pos 6).toInt32
  generalize (XT.ushrL pos 6).toInt32 = I at *
  generalize XT.ushrL pos 6 = I6 at *
  have h5 := c_iadd I 1
  have r5 := rng32 (I + 1)
  rw [show (1 : Int32).toInt = 1 from by decide] at h5
  have h6 := c_l2i pos
  have r6 := rng32 pos.toInt32
  have h7 := c_mask pos.toInt32 63 6 (by decide) (by decide)
  generalize I + 1 = I1 at *
  refine ⟨by omega, by omega, ?_⟩
  rw [h7]
  omega
theorem own_i0 (a b c : Int64) (p : Int32) : ¬ (XT.ushrL (p &&& 127).toInt64 (6 : Int32)).toInt32 < 0 ∧ (XT.ushrL (p &&& 127).toInt64 (6 : Int32)).toInt32.toNatClampNeg < [a, b, c].length := by
  have hp : 0 ≤ (p &&& 127).toInt64.toInt ∧ (p &&& 127).toInt64.toInt < 128 := by rw [c_i2l, c_mask p 127 7 (by decide) (by decide)]; omega
  obtain ⟨h1, h2, -⟩ := own_ix _ hp
  generalize (p &&& 127).toInt64 = pos at *
  refine ⟨by rw [Int32.lt_iff_toInt_lt, show (0 : Int32).toInt = 0 from by decide]; omega, ?_⟩
  show (XT.ushrL pos (6 : Int32)).toInt32.toInt.toNat < 3
  omega
theorem own_i1 (a b c : Int64) (p : Int32) : ¬ ((XT.ushrL (p &&& 127).toInt64 (6 : Int32)).toInt32 + (1 : Int32)) < 0 ∧ ((XT.ushrL (p &&& 127).toInt64 (6 : Int32)).toInt32 + (1 : Int32)).toNatClampNeg < [a, b, c].length := by
  have hp : 0 ≤ (p &&& 127).toInt64.toInt ∧ (p &&& 127).toInt64.toInt < 128 := by rw [c_i2l, c_mask p 127 7 (by decide) (by decide)]; omega
  obtain ⟨h1, h2, -⟩ := own_ix _ hp
  generalize (p &&& 127).toInt64 = pos at *
  refine ⟨by rw [Int32.lt_iff_toInt_lt, show (0 : Int32).toInt = 0 from by decide]; omega, ?_⟩
  show ((XT.ushrL pos (6 : Int32)).toInt32 + (1 : Int32)).toInt.toNat < 3
  omega
theorem own_all (K : Nat) (hK : K < 64) : (-1 : Int64).toBitVec.getLsbD K = true := by
  show (BitVec.allOnes 64).getLsbD K = true
  rw [BitVec.getLsbD_allOnes]; simp [hK]
theorem own_not (X : Int64) (K : Nat) (hK : K < 64) : (X ^^^ (-1 : Int64)).toBitVec.getLsbD K = !X.toBitVec.getLsbD K := by
  rw [Int64.toBitVec_xor, BitVec.getLsbD_xor, own_all K hK]; simp
theorem own_shl (X : Int64) (o : Int32) (ho : 0 ≤ o.toInt ∧ o.toInt < 64) (K : Nat) (hK : K < 64) : (X <<< (o.toInt64 &&& 63)).toBitVec.getLsbD K = (!decide (K < o.toInt.toNat) && X.toBitVec.getLsbD (K - o.toInt.toNat)) := by
  have h2 : o.toBitVec.toNat % 64 = o.toInt.toNat := by rw [nn32 _ (by omega)]; omega
  rw [bv_lshl, h2, BitVec.getLsbD_shiftLeft, decide_eq_true hK, Bool.true_and]
theorem own_shr (X : Int64) (o : Int32) (ho : 0 ≤ o.toInt ∧ o.toInt < 64) (K : Nat) : (XT.ushrL X o).toBitVec.getLsbD K = X.toBitVec.getLsbD (o.toInt.toNat + K) := by
  have h2 : o.toBitVec.toNat % 64 = o.toInt.toNat := by rw [nn32 _ (by omega)]; omega
  rw [bv_lushr, h2, BitVec.getLsbD_ushiftRight]
theorem own_X (A v mk : Int64) (o : Int32) (W : Nat) (hW : W ≤ 64) (ho : 0 ≤ o.toInt ∧ o.toInt < 64) (hmk : ∀ K, K < 64 → mk.toBitVec.getLsbD K = decide (K < W)) (K : Nat) (hK : K < 64) :
    ((A &&& ((mk <<< (o.toInt64 &&& 63)) ^^^ (-1 : Int64))) ||| ((v &&& mk) <<< (o.toInt64 &&& 63))).toBitVec.getLsbD K = if o.toInt.toNat ≤ K ∧ K - o.toInt.toNat < W then v.toBitVec.getLsbD (K - o.toInt.toNat) else A.toBitVec.getLsbD K := by
  rw [Int64.toBitVec_or, BitVec.getLsbD_or, Int64.toBitVec_and, BitVec.getLsbD_and, own_not _ _ hK, own_shl _ _ ho _ hK, own_shl _ _ ho _ hK, Int64.toBitVec_and, BitVec.getLsbD_and, hmk _ (by omega)]
  by_cases h1 : K < o.toInt.toNat
  · rw [decide_eq_true h1, if_neg (by omega)]; simp
  · rw [decide_eq_false h1]
    by_cases h2 : K - o.toInt.toNat < W
    · rw [decide_eq_true h2, if_pos ⟨by omega, h2⟩]; simp
    · rw [decide_eq_false h2, if_neg (by omega)]; simp
theorem own_Y (B v mk : Int64) (o : Int32) (W : Nat) (hW : W ≤ 64) (ho : 0 < o.toInt ∧ o.toInt < 64) (hmk : ∀ K, K < 64 → mk.toBitVec.getLsbD K = decide (K < W)) (K : Nat) (hK : K < 64) :
    ((B &&& ((XT.ushrL mk ((64 : Int32) - o)) ^^^ (-1 : Int64))) ||| (XT.ushrL (v &&& mk) ((64 : Int32) - o))).toBitVec.getLsbD K = if K + (64 - o.toInt.toNat) < W then v.toBitVec.getLsbD (K + (64 - o.toInt.toNat)) else B.toBitVec.getLsbD K := by
  have h1 := c_isub 64 o
  have r1 := rng32 (64 - o)
  rw [show (64 : Int32).toInt = 64 from by decide] at h1
  have hs : ((64 : Int32) - o).toInt.toNat = 64 - o.toInt.toNat := by omega
  rw [Int64.toBitVec_or, BitVec.getLsbD_or, Int64.toBitVec_and, BitVec.getLsbD_and, own_not _ _ hK, own_shr _ _ (by omega), own_shr _ _ (by omega), Int64.toBitVec_and, BitVec.getLsbD_and, hs, Nat.add_comm]
  by_cases h2 : K + (64 - o.toInt.toNat) < 64
  · rw [hmk _ h2]
    by_cases h3 : K + (64 - o.toInt.toNat) < W
    · rw [decide_eq_true h3, if_pos h3]; simp
    · rw [decide_eq_false h3, if_neg h3]; simp
  · have hg : ∀ X : Int64, X.toBitVec.getLsbD (K + (64 - o.toInt.toNat)) = false := fun X => BitVec.getLsbD_of_ge _ _ (by omega)
    rw [hg, hg, if_neg (by omega)]; simp
/-- what both sides' bit is -/
def own_spec (P W : Int) (v old : Int64) (G : Int) (K : Nat) : Bool := if P ≤ G ∧ G < P + W then v.toBitVec.getLsbD (G - P).toNat else old.toBitVec.getLsbD K
theorem own_rd3 (xs : List Int64) (i : Int32) (n : Nat) (h : i.toInt = n) : rd xs i = xs.getD n 0 := by
  unfold rd
  have : i.toNatClampNeg = n := by show i.toInt.toNat = n; omega
  rw [this]
/-- the two shapes of the array behind 'write' -/
theorem own_shape (a b c v mk pos : Int64) (w : Int32) (hp : 0 ≤ pos.toInt ∧ pos.toInt < 128) (hw : 0 < w.toInt ∧ w.toInt ≤ 64) (hmk : ∀ K, K < 64 → mk.toBitVec.getLsbD K = decide (K < w.toInt.toNat)) (i : Nat) (hi : i < 3) (K : Nat) (hK : K < 64) (I o : Int32)
    (hI : I.toInt = pos.toInt / 64) (hI1 : (I + (1 : Int32)).toInt = pos.toInt / 64 + 1) (hO : o.toInt = pos.toInt % 64) :
    (64 < pos.toInt % 64 + w.toInt → ((([a, b, c].set I.toNatClampNeg (((rd [a, b, c] I) &&& ((mk <<< (o.toInt64 &&& 63)) ^^^ (-1 : Int64))) ||| ((v &&& mk) <<< (o.toInt64 &&& 63)))).set (I + (1 : Int32)).toNatClampNeg (((rd ([a, b, c].set I.toNatClampNeg (((rd [a, b, c] I) &&& ((mk <<< (o.toInt64 &&& 63)) ^^^ (-1 : Int64))) ||| ((v &&& mk) <<< (o.toInt64 &&& 63)))) (I + (1 : Int32))) &&& ((XT.ushrL mk ((64 : Int32) - o)) ^^^ (-1 : Int64))) ||| (XT.ushrL (v &&& mk) ((64 : Int32) - o)))).getD i 0).toBitVec.getLsbD K = own_spec pos.toInt w.toInt v ([a, b, c].getD i 0) (64 * i + K) K) ∧
    (¬ 64 < pos.toInt % 64 + w.toInt → (([a, b, c].set I.toNatClampNeg (((rd [a, b, c] I) &&& ((mk <<< (o.toInt64 &&& 63)) ^^^ (-1 : Int64))) ||| ((v &&& mk) <<< (o.toInt64 &&& 63)))).getD i 0).toBitVec.getLsbD K = own_spec pos.toInt w.toInt v ([a, b, c].getD i 0) (64 * i + K) K) := by
  have hX := fun A => own_X A v mk o w.toInt.toNat (by omega) (by omega) hmk K hK
  have hY := fun B (h : 0 < o.toInt) => own_Y B v mk o w.toInt.toNat (by omega) (by omega) hmk K hK
  have cases : pos.toInt / 64 = 0 ∨ pos.toInt / 64 = 1 := by omega
  rcases cases with hc | hc
  · have n0 : I.toNatClampNeg = 0 := by show I.toInt.toNat = 0; omega
    have n1 : (I + (1 : Int32)).toNatClampNeg = 1 := by show (I + (1 : Int32)).toInt.toNat = 1; omega
    simp only [rd, n0, n1]
    refine ⟨fun hs => ?_, fun hs => ?_⟩
    · rcases (by omega : i = 0 ∨ i = 1 ∨ i = 2) with rfl | rfl | rfl
      · refine (hX a).trans ?_
        unfold own_spec
        by_cases q : o.toInt.toNat ≤ K ∧ K - o.toInt.toNat < w.toInt.toNat
        · rw [if_pos q, if_pos (by omega)]; congr 1; omega
        · rw [if_neg q, if_neg (by omega)]; rfl
      · refine (hY b (by omega)).trans ?_
        unfold own_spec
        by_cases q : K + (64 - o.toInt.toNat) < w.toInt.toNat
        · rw [if_pos q, if_pos (by omega)]; congr 1; omega
        · rw [if_neg q, if_neg (by omega)]; rfl
      · show c.toBitVec.getLsbD K = _
        unfold own_spec
        rw [if_neg (by omega)]; rfl
    · rcases (by omega : i = 0 ∨ i = 1 ∨ i = 2) with rfl | rfl | rfl
      · refine (hX a).trans ?_
        unfold own_spec
        by_cases q : o.toInt.toNat ≤ K ∧ K - o.toInt.toNat < w.toInt.toNat
        · rw [if_pos q, if_pos (by omega)]; congr 1; omega
        · rw [if_neg q, if_neg (by omega)]; rfl
      · show b.toBitVec.getLsbD K = _
        unfold own_spec
        rw [if_neg (by omega)]; rfl
      · show c.toBitVec.getLsbD K = _
        unfold own_spec
        rw [if_neg (by omega)]; rfl
  · have n0 : I.toNatClampNeg = 1 := by show I.toInt.toNat = 1; omega
    have n1 : (I + (1 : Int32)).toNatClampNeg = 2 := by show (I + (1 : Int32)).toInt.toNat = 2; omega
    simp only [rd, n0, n1]
    refine ⟨fun hs => ?_, fun hs => ?_⟩
    · rcases (by omega : i = 0 ∨ i = 1 ∨ i = 2) with rfl | rfl | rfl
      · show a.toBitVec.getLsbD K = _
        unfold own_spec
        rw [if_neg (by omega)]; rfl
      · refine (hX b).trans ?_
        unfold own_spec
        by_cases q : o.toInt.toNat ≤ K ∧ K - o.toInt.toNat < w.toInt.toNat
        · rw [if_pos q, if_pos (by omega)]; congr 1; omega
        · rw [if_neg q, if_neg (by omega)]; rfl
      · refine (hY c (by omega)).trans ?_
        unfold own_spec
        by_cases q : K + (64 - o.toInt.toNat) < w.toInt.toNat
        · rw [if_pos q, if_pos (by omega)]; congr 1; omega
        · rw [if_neg q, if_neg (by omega)]; rfl
    · rcases (by omega : i = 0 ∨ i = 1 ∨ i = 2) with rfl | rfl | rfl
      · show a.toBitVec.getLsbD K = _
        unfold own_spec
        rw [if_neg (by omega)]; rfl
      · refine (hX b).trans ?_
        unfold own_spec
        by_cases q : o.toInt.toNat ≤ K ∧ K - o.toInt.toNat < w.toInt.toNat
        · rw [if_pos q, if_pos (by omega)]; congr 1; omega
        · rw [if_neg q, if_neg (by omega)]; rfl
      · show c.toBitVec.getLsbD K = _
        unfold own_spec
        rw [if_neg (by omega)]; rfl
theorem own_write (a b c v pos : Int64) (w : Int32) (hp : 0 ≤ pos.toInt ∧ pos.toInt < 128) (hw : 0 ≤ w.toInt ∧ w.toInt ≤ 64) (i : Nat) (hi : i < 3) (K : Nat) (hK : K < 64) :
    ((f_write_o0 [a, b, c] pos w v).getD i 0).toBitVec.getLsbD K = own_spec pos.toInt w.toInt v ([a, b, c].getD i 0) (64 * i + K) K := by
  obtain ⟨h1, h2, h3⟩ := own_ix pos hp
  have e0 : (0 : Int32).toInt = 0 := by decide
  have e64 : (64 : Int32).toInt = 64 := by decide
  have kw0 : w = 0 ↔ w.toInt = 0 := by rw [← Int32.toInt_inj, e0]
  have kw64 : w = 64 ↔ w.toInt = 64 := by rw [← Int32.toInt_inj, e64]
  unfold f_write_o0
  have h4 := c_iadd (pos.toInt32 &&& (63 : Int32)) w
  have r4 := rng32 ((pos.toInt32 &&& (63 : Int32)) + w)
  have hsum : (64 : Int32) < (pos.toInt32 &&& (63 : Int32)) + w ↔ 64 < pos.toInt % 64 + w.toInt := by
    rw [Int32.lt_iff_toInt_lt, e64]; omega
  by_cases q0 : w.toInt = 0
  · rw [if_pos (kw0.mpr q0)]
    unfold own_spec
    rw [if_neg (by omega)]
  · rw [if_neg (fun u => q0 (kw0.mp u))]
    by_cases q64 : w.toInt = 64
    · rw [if_pos (kw64.mpr q64)]
      have sh := own_shape a b c v (-1) pos w hp (by omega) (fun K hK => by rw [own_all K hK, decide_eq_true (by omega)]) i hi K hK _ _ h1 h2 h3
      by_cases qs : 64 < pos.toInt % 64 + w.toInt
      · rw [if_pos (hsum.mpr qs)]; exact sh.1 qs
      · rw [if_neg (fun u => qs (hsum.mp u))]; exact sh.2 qs
    · rw [if_neg (fun u => q64 (kw64.mp u))]
      have sh := own_shape a b c v (((1 : Int64) <<< (w.toInt64 &&& 63)) - 1) pos w hp (by omega) (fun K hK => own_mask w (by omega) K hK) i hi K hK _ _ h1 h2 h3
      by_cases qs : 64 < pos.toInt % 64 + w.toInt
      · rw [if_pos (hsum.mpr qs)]; exact sh.1 qs
      · rw [if_neg (fun u => qs (hsum.mp u))]; exact sh.2 qs
theorem own_below (x : Int32) (K : Nat) (hK : K < 64) : (f_below x).toBitVec.getLsbD K = decide ((K : Int) < x.toInt) := by
  unfold f_below
  have e0 : (0 : Int32).toInt = 0 := by decide
  have e64 : (64 : Int32).toInt = 64 := by decide
  simp only [Int32.lt_iff_toInt_lt, e0, e64]
  by_cases h1 : x.toInt < 64
  · rw [if_pos h1]
    by_cases h2 : 0 < x.toInt
    · rw [if_pos h2, own_mask x (by omega) K hK]
      by_cases q : (K : Int) < x.toInt
      · rw [decide_eq_true q, decide_eq_true (by omega)]
      · rw [decide_eq_false q, decide_eq_false (by omega)]
    · rw [if_neg h2, decide_eq_false (by omega)]
      show (0#64).getLsbD K = false
      simp
  · rw [if_neg h1, own_all K hK, decide_eq_true (by omega)]
theorem own_expect (old v : Int64) (ix p w : Int32) (i : Nat) (hi : i < 3) (hix : ix.toInt = i) (hp : 0 ≤ p.toInt ∧ p.toInt < 128) (hw : 0 ≤ w.toInt ∧ w.toInt ≤ 64) (K : Nat) (hK : K < 64) :
    (f_expect old ix p w v).toBitVec.getLsbD K = own_spec p.toInt w.toInt v old (64 * i + K) K := by
  have e64 : (64 : Int32).toInt = 64 := by decide
  have em64 : (-64 : Int32).toInt = -64 := by decide
  have e0 : (0 : Int32).toInt = 0 := by decide
  unfold f_expect
  have b1 := c_imul 64 ix
  have rb1 := rng32 (64 * ix)
  rw [e64, hix] at b1
  generalize hB : (64 : Int32) * ix = B at *
  have hBi : B.toInt = 64 * i := by omega
  have hmax : (f_max p B).toInt = if p.toInt < B.toInt then B.toInt else p.toInt := by
    unfold f_max; simp only [Int32.lt_iff_toInt_lt]; split <;> rfl
  generalize f_max p B = mx at *
  have b2 := c_isub mx B
  have rb2 := rng32 (mx - B)
  generalize mx - B = lo at *
  have b3 := c_iadd p w
  have rb3 := rng32 (p + w)
  generalize p + w = pw at *
  have b4 := c_iadd B 64
  have rb4 := rng32 (B + 64)
  rw [e64] at b4
  generalize B + (64 : Int32) = B64 at *
  have hmin : (f_min pw B64).toInt = if B64.toInt < pw.toInt then B64.toInt else pw.toInt := by
    unfold f_min; simp only [Int32.lt_iff_toInt_lt]; split <;> rfl
  generalize f_min pw B64 = mn at *
  have b5 := c_isub mn B
  have rb5 := rng32 (mn - B)
  generalize mn - B = hi' at *
  have b6 := c_isub B p
  have rb6 := rng32 (B - p)
  generalize B - p = d at *
  have b7 := c_ineg d
  have rb7 := rng32 (-d)
  -- the mask
  have hm : (if lo < hi' then f_below hi' &&& (f_below lo ^^^ (-1 : Int64)) else 0).toBitVec.getLsbD K = decide (p.toInt ≤ 64 * i + K ∧ 64 * i + K < p.toInt + w.toInt) := by
    by_cases q : lo < hi'
    · have q' := Int32.lt_iff_toInt_lt.mp q
      rw [if_pos q, Int64.toBitVec_and, BitVec.getLsbD_and, own_not _ _ hK, own_below _ _ hK, own_below _ _ hK]
      by_cases u : p.toInt ≤ 64 * i + K ∧ 64 * i + K < p.toInt + w.toInt
      · rw [decide_eq_true u, decide_eq_true (by split at hmin <;> omega), decide_eq_false (by split at hmax <;> omega)]; rfl
      · rw [decide_eq_false u]
        by_cases u1 : (K : Int) < hi'.toInt
        · rw [decide_eq_true u1, decide_eq_true (by split at hmin <;> split at hmax <;> omega)]; rfl
        · rw [decide_eq_false u1]; rfl
    · have q' := fun h => q (Int32.lt_iff_toInt_lt.mpr h)
      rw [if_neg q, decide_eq_false (by intro u; apply q'; split at hmin <;> split at hmax <;> omega)]
      show (0#64).getLsbD K = false
      simp
  generalize (if lo < hi' then f_below hi' &&& (f_below lo ^^^ (-1 : Int64)) else 0) = mk at *
  rw [Int64.toBitVec_or, BitVec.getLsbD_or, Int64.toBitVec_and, BitVec.getLsbD_and, Int64.toBitVec_and, BitVec.getLsbD_and, own_not _ _ hK, hm]
  unfold own_spec
  by_cases u : p.toInt ≤ 64 * i + K ∧ 64 * i + K < p.toInt + w.toInt
  · rw [if_pos u, decide_eq_true u]
    simp only [Int32.lt_iff_toInt_lt, e64, em64, e0]
    rw [if_pos (by omega), if_pos (by omega)]
    by_cases hd : d.toInt < 0
    · rw [if_pos hd, own_shl _ _ (by omega) _ hK, decide_eq_false (by omega)]
      simp only [Bool.not_true, Bool.and_false, Bool.false_or, Bool.not_false, Bool.true_and, Bool.and_true]
      congr 1; omega
    · rw [if_neg hd, own_shr _ _ (by omega)]
      simp only [Bool.not_true, Bool.and_false, Bool.false_or, Bool.and_true]
      congr 1; omega
  · rw [if_neg u, decide_eq_false u]
    simp
theorem own_main (a b c v : Int64) (p4 p3 : Int32) (ix : Int32) (i : Nat) (hi : i < 3) (hix : ix.toInt = i) :
    (rd (f_write_o0 ([a, b, c]) ((p3 &&& (127 : Int32)).toInt64) ((p4 &&& (2147483647 : Int32)) % (65 : Int32)) v) ix) = (f_expect ([a, b, c].getD i 0) ix (p3 &&& (127 : Int32)) ((p4 &&& (2147483647 : Int32)) % (65 : Int32)) v) := by
  have hp : 0 ≤ (p3 &&& 127).toInt ∧ (p3 &&& 127).toInt < 128 := by rw [c_mask p3 127 7 (by decide) (by decide)]; omega
  have hm := c_mask p4 2147483647 31 (by decide) (by decide)
  have hw := (c_irem (p4 &&& 2147483647) 65 65 (by decide)).1 (by omega)
  generalize (p4 &&& 2147483647) % 65 = w at *
  generalize p3 &&& 127 = p at *
  have hl := c_i2l p
  rw [own_rd3 _ ix i hix]
  apply Int64.toBitVec_inj.mp
  apply BitVec.eq_of_getLsbD_eq
  intro K hK
  rw [own_write a b c v p.toInt64 w (by omega) (by omega) i hi K hK, own_expect _ v ix p w i hi hix hp (by omega) K hK, hl]
theorem own_wlen (xs : List Int64) (q1 : Int64) (p2 : Int32) (q3 : Int64) : (f_write_o0 xs q1 p2 q3).length = xs.length := by
  unfold f_write_o0
  repeat' split
  all_goals simp
set_option maxRecDepth 65536 in
set_option maxHeartbeats 40000000 in
theorem rm_law (l : Launch) (Z : State) (a0 : Array Value) (hw : ∀ d ∈ tables_1, d.before a0 Z = true) (q0 : Int64) (q1 : Int64) (q2 : Int64) (p3 : Int32) (p4 : Int32) (q5 : Int64) (h0 : Heap) (n0 : Nat) (Z0 : n0 ≤ h0.size)  :
    Meets l x code maxLocals ret room_1 Z #[(.long q0), (.long q1), (.long q2), (.int p3), (.int p4), (.long q5)] h0 n0 (fun v h => v = some (Value.int 1)) := by
  refine meets_of (plainFor_of_name pn1) (Ls := #[.val (.long q0), .second, .val (.long q1), .second, .val (.long q2), .second, .val (.int p3), .val (.int p4), .val (.long q5), .second, .unset, .unset, .unset]) (fun m => by first | (simp [entryFrame, mkF, argsToLocals, Value.category, maxLocals]; done) | rfl) ?_
  intro p e s m below meth c K
  replace K : Kx Z "com/example/zedcube/zedcube/engine/BitArrayWritePinLaw" "law" code maxLocals ret p s m meth c := K
  obtain ⟨Q, hQ⟩ : ∃ Q : Option Value → Heap → Prop, Q = (fun v h => v = some (Value.int 1)) := ⟨_, rfl⟩
  rw [← hQ]
  refine g_iload K 0 at_0 rfl ?_
  refine g_bipush K 2 (127 : Int32) at_2 (by decide) ?_
  refine g_iand K 4 at_4 ?_
  refine g_istore K 5 #[.val (.long q0), .second, .val (.long q1), .second, .val (.long q2), .second, .val (.int p3), .val (.int p4), .val (.long q5), .second, .val (.int (p3 &&& (127 : Int32))), .unset, .unset] at_5 rfl ?_
  refine g_iload K 7 at_7 rfl ?_
  refine g_ldc K 9 (v := (2147483647 : Int32)) at_9 (tw hw 0 rfl) ?_
  refine g_iand K 11 at_11 ?_
  refine g_bipush K 12 (65 : Int32) at_12 (by decide) ?_
  refine g_irem K 14 at_14 (by decide) ?_
  refine g_istore K 15 #[.val (.long q0), .second, .val (.long q1), .second, .val (.long q2), .second, .val (.int p3), .val (.int p4), .val (.long q5), .second, .val (.int (p3 &&& (127 : Int32))), .val (.int ((p4 &&& (2147483647 : Int32)) % (65 : Int32))), .unset] at_15 rfl ?_
  refine g_iconst K 17 (3 : Int32) at_17 (by decide) ?_
  refine g_newJ K 18 at_18 (tw hw 1 rfl) (by decide) 3 (by decide) (by decide) (by decide) (by decide) ?_
  intro h2 a1 eq5 Kp3 A4
  have g6 : n0 ≤ a1 := eq5 ▸ Z0
  have Z7 := Nat.le_trans Z0 Kp3.1
  have A8 : LA Z h2 a1 [0, 0, 0] := (by have q := A4; rw [show (3 : Int32).toNatClampNeg = 3 from by decide] at q; exact q)
  refine g_dup K 20 at_20 rfl ?_
  refine g_iconst K 21 (0 : Int32) at_21 (by decide) ?_
  refine g_lloadN K 22 at_22 rfl ?_
  refine g_lastore K 23 at_23 A8 (by decide) (show (0 : Int32).toNatClampNeg < 3 from by decide) g6 ?_
  intro h9 Kp10 A11
  have Z12 := Nat.le_trans Z7 Kp10.1
  have A13 : LA Z h9 a1 [q0, 0, 0] := (by have q := A11; rw [show (0 : Int32).toNatClampNeg = 0 from by decide] at q; exact q)
  refine g_dup K 24 at_24 rfl ?_
  refine g_iconst K 25 (1 : Int32) at_25 (by decide) ?_
  refine g_lloadN K 26 at_26 rfl ?_
  refine g_lastore K 27 at_27 A13 (by decide) (show (1 : Int32).toNatClampNeg < 3 from by decide) g6 ?_
  intro h14 Kp15 A16
  have Z17 := Nat.le_trans Z12 Kp15.1
  have A18 : LA Z h14 a1 [q0, q1, 0] := (by have q := A16; rw [show (1 : Int32).toNatClampNeg = 1 from by decide] at q; exact q)
  refine g_dup K 28 at_28 rfl ?_
  refine g_iconst K 29 (2 : Int32) at_29 (by decide) ?_
  refine g_lload K 30 at_30 rfl ?_
  refine g_lastore K 32 at_32 A18 (by decide) (show (2 : Int32).toNatClampNeg < 3 from by decide) g6 ?_
  intro h19 Kp20 A21
  have Z22 := Nat.le_trans Z17 Kp20.1
  have A23 : LA Z h19 a1 [q0, q1, q2] := (by have q := A21; rw [show (2 : Int32).toNatClampNeg = 2 from by decide] at q; exact q)
  refine g_astore K 33 #[.val (.long q0), .second, .val (.long q1), .second, .val (.long q2), .second, .val (.int p3), .val (.int p4), .val (.long q5), .second, .val (.int (p3 &&& (127 : Int32))), .val (.int ((p4 &&& (2147483647 : Int32)) % (65 : Int32))), .val (.ref a1)] at_33 rfl rfl ?_
  refine g_aload K 35 at_35 rfl rfl ?_
  refine g_iload K 37 at_37 rfl ?_
  refine g_i2l K 39 at_39 ?_
  refine g_iload K 40 at_40 rfl ?_
  refine g_lload K 42 at_42 rfl ?_
  refine g_callS K 44 [(.ref a1), (.long (p3 &&& (127 : Int32)).toInt64), (.int ((p4 &&& (2147483647 : Int32)) % (65 : Int32))), (.long q5)] 0 at_44 (rm_write l Z a0 hw a1 ((p3 &&& (127 : Int32)).toInt64) ((p4 &&& (2147483647 : Int32)) % (65 : Int32)) q5 h19 n0 Z22 ([q0, q1, q2]) A23 g6 (own_i0 _ _ _ _) (own_i1 _ _ _ _)) (tw hw 2 rfl) (tw hw 3 rfl) (tw hw 4 rfl) (tw hw 5 rfl) (by decide) pd0 rfl (st := []) rfl (Nat.le_of_eq rfl) rfl (by decide) (by decide) (by decide) (by decide) ?_
  rintro _ h24 ⟨hv, Kp25, A26⟩
  rw [hv]
  clear hv
  have Z27 := Nat.le_trans Z22 Kp25.1
  refine go_cast (k' := (0 + 1)) (n' := (0 + 3)) (st' := []) rfl rfl rfl ?_
  refine g_aload K 47 at_47 rfl rfl ?_
  refine g_iconst K 49 (0 : Int32) at_49 (by decide) ?_
  refine g_laload K 50 (rd (f_write_o0 ([q0, q1, q2]) ((p3 &&& (127 : Int32)).toInt64) ((p4 &&& (2147483647 : Int32)) % (65 : Int32)) q5) (0 : Int32)) at_50 A26 (by decide) (rd_some (by rw [own_wlen]; exact (show (0 : Int32).toNatClampNeg < 3 from by decide))) ?_
  refine g_lloadN K 51 at_51 rfl ?_
  refine g_iconst K 52 (0 : Int32) at_52 (by decide) ?_
  refine g_iload K 53 at_53 rfl ?_
  refine g_iload K 55 at_55 rfl ?_
  refine g_lload K 57 at_57 rfl ?_
  refine g_callS K 59 [(.long q0), (.int (0 : Int32)), (.int (p3 &&& (127 : Int32))), (.int ((p4 &&& (2147483647 : Int32)) % (65 : Int32))), (.long q5)] 2 at_59 (rm_expect l Z a0 hw q0 (0 : Int32) (p3 &&& (127 : Int32)) ((p4 &&& (2147483647 : Int32)) % (65 : Int32)) q5 h24 n0 Z27  ) (tw hw 7 rfl) (tw hw 8 rfl) (tw hw 9 rfl) (tw hw 10 rfl) (by decide) pd1 rfl (st := [(.long (rd (f_write_o0 ([q0, q1, q2]) ((p3 &&& (127 : Int32)).toInt64) ((p4 &&& (2147483647 : Int32)) % (65 : Int32)) q5) (0 : Int32)))]) rfl (Nat.le_of_eq rfl) rfl (by decide) (by decide) (by decide) (by decide) ?_
  rintro _ _ ⟨hv, hh⟩
  rw [hv, hh]
  clear hv hh
  refine go_cast (k' := (0 + 1)) (n' := (0 + 3)) (st' := [(.long (f_expect q0 (0 : Int32) (p3 &&& (127 : Int32)) ((p4 &&& (2147483647 : Int32)) % (65 : Int32)) q5)), (.long (rd (f_write_o0 ([q0, q1, q2]) ((p3 &&& (127 : Int32)).toInt64) ((p4 &&& (2147483647 : Int32)) % (65 : Int32)) q5) (0 : Int32)))]) rfl rfl rfl ?_
  refine g_lcmp K 62 at_62 ?_
  refine g_ll_ne K 63 109 at_63 (by decide) (by decide) ?_ ?_
  · intro c28
    exfalso
    exact c28 (own_main q0 q1 q2 q5 p4 p3 (0 : Int32) 0 (by decide) (by decide))
  · intro c28
    refine g_aload K 66 at_66 rfl rfl ?_
    refine g_iconst K 68 (1 : Int32) at_68 (by decide) ?_
    refine g_laload K 69 (rd (f_write_o0 ([q0, q1, q2]) ((p3 &&& (127 : Int32)).toInt64) ((p4 &&& (2147483647 : Int32)) % (65 : Int32)) q5) (1 : Int32)) at_69 A26 (by decide) (rd_some (by rw [own_wlen]; exact (show (1 : Int32).toNatClampNeg < 3 from by decide))) ?_
    refine g_lloadN K 70 at_70 rfl ?_
    refine g_iconst K 71 (1 : Int32) at_71 (by decide) ?_
    refine g_iload K 72 at_72 rfl ?_
    refine g_iload K 74 at_74 rfl ?_
    refine g_lload K 76 at_76 rfl ?_
    refine g_callS K 78 [(.long q1), (.int (1 : Int32)), (.int (p3 &&& (127 : Int32))), (.int ((p4 &&& (2147483647 : Int32)) % (65 : Int32))), (.long q5)] 2 at_78 (rm_expect l Z a0 hw q1 (1 : Int32) (p3 &&& (127 : Int32)) ((p4 &&& (2147483647 : Int32)) % (65 : Int32)) q5 h24 n0 Z27  ) (tw hw 7 rfl) (tw hw 8 rfl) (tw hw 9 rfl) (tw hw 10 rfl) (by decide) pd1 rfl (st := [(.long (rd (f_write_o0 ([q0, q1, q2]) ((p3 &&& (127 : Int32)).toInt64) ((p4 &&& (2147483647 : Int32)) % (65 : Int32)) q5) (1 : Int32)))]) rfl (Nat.le_of_eq rfl) rfl (by decide) (by decide) (by decide) (by decide) ?_
    rintro _ _ ⟨hv, hh⟩
    rw [hv, hh]
    clear hv hh
    refine go_cast (k' := (0 + 1)) (n' := (0 + 3)) (st' := [(.long (f_expect q1 (1 : Int32) (p3 &&& (127 : Int32)) ((p4 &&& (2147483647 : Int32)) % (65 : Int32)) q5)), (.long (rd (f_write_o0 ([q0, q1, q2]) ((p3 &&& (127 : Int32)).toInt64) ((p4 &&& (2147483647 : Int32)) % (65 : Int32)) q5) (1 : Int32)))]) rfl rfl rfl ?_
    refine g_lcmp K 81 at_81 ?_
    refine g_ll_ne K 82 109 at_82 (by decide) (by decide) ?_ ?_
    · intro c29
      exfalso
      exact c29 (own_main q0 q1 q2 q5 p4 p3 (1 : Int32) 1 (by decide) (by decide))
    · intro c29
      refine g_aload K 85 at_85 rfl rfl ?_
      refine g_iconst K 87 (2 : Int32) at_87 (by decide) ?_
      refine g_laload K 88 (rd (f_write_o0 ([q0, q1, q2]) ((p3 &&& (127 : Int32)).toInt64) ((p4 &&& (2147483647 : Int32)) % (65 : Int32)) q5) (2 : Int32)) at_88 A26 (by decide) (rd_some (by rw [own_wlen]; exact (show (2 : Int32).toNatClampNeg < 3 from by decide))) ?_
      refine g_lload K 89 at_89 rfl ?_
      refine g_iconst K 91 (2 : Int32) at_91 (by decide) ?_
      refine g_iload K 92 at_92 rfl ?_
      refine g_iload K 94 at_94 rfl ?_
      refine g_lload K 96 at_96 rfl ?_
      refine g_callS K 98 [(.long q2), (.int (2 : Int32)), (.int (p3 &&& (127 : Int32))), (.int ((p4 &&& (2147483647 : Int32)) % (65 : Int32))), (.long q5)] 2 at_98 (rm_expect l Z a0 hw q2 (2 : Int32) (p3 &&& (127 : Int32)) ((p4 &&& (2147483647 : Int32)) % (65 : Int32)) q5 h24 n0 Z27  ) (tw hw 7 rfl) (tw hw 8 rfl) (tw hw 9 rfl) (tw hw 10 rfl) (by decide) pd1 rfl (st := [(.long (rd (f_write_o0 ([q0, q1, q2]) ((p3 &&& (127 : Int32)).toInt64) ((p4 &&& (2147483647 : Int32)) % (65 : Int32)) q5) (2 : Int32)))]) rfl (Nat.le_of_eq rfl) rfl (by decide) (by decide) (by decide) (by decide) ?_
      rintro _ _ ⟨hv, hh⟩
      rw [hv, hh]
      clear hv hh
      refine go_cast (k' := (0 + 1)) (n' := (0 + 3)) (st' := [(.long (f_expect q2 (2 : Int32) (p3 &&& (127 : Int32)) ((p4 &&& (2147483647 : Int32)) % (65 : Int32)) q5)), (.long (rd (f_write_o0 ([q0, q1, q2]) ((p3 &&& (127 : Int32)).toInt64) ((p4 &&& (2147483647 : Int32)) % (65 : Int32)) q5) (2 : Int32)))]) rfl rfl rfl ?_
      refine g_lcmp K 101 at_101 ?_
      refine g_ll_ne K 102 109 at_102 (by decide) (by decide) ?_ ?_
      · intro c30
        exfalso
        exact c30 (own_main q0 q1 q2 q5 p4 p3 (2 : Int32) 2 (by decide) (by decide))
      · intro c30
        refine g_iconst K 105 (1 : Int32) at_105 (by decide) ?_
        refine g_goto K 106 110 at_106 (by decide) (by decide) ?_
        refine g_retN K 110 .boolean at_110 rfl (by simp) (by decide) (by decide) ?_
        rw [hQ]
        rfl
set_option maxRecDepth 65536 in
theorem comes_1 {Post : Tables → Env → Array Value → State → Outcome → State → Prop} (hpost : ∀ tb e args s v u, (limb_1_1.after args s (.returned v) u = true ∧ limb_1_2.after args s (.returned v) u = true ∧ True) → FrameEnd s (.returned v) u (Jvm.fieldLocs frame_1_writes args s ++ Jvm.arrayLocs frame_1_arrays args s ++ Jvm.staticLocs frame_1_statics s) 16 128 → Post tb e args s (.returned v) u) :
    ArmFor flags0 classFile x code maxLocals ret World_1 tables_1 room_1 Calls_1 rest_1 Pre_1 Post := by
  intro l hfl _ _ p e ha hc hk s m args below hf hA hF happ hP
  obtain ⟨hcalls, hrest, hpre⟩ := hP
  obtain ⟨-, -, -, hnamed, -, -, -, hat⟩ := (Spec.applies_iff hf).mp happ
  obtain ⟨hg, hn⟩ := and_e (Cond.before_iff.mp (show (Jvm.Cond.and given_1 narrow_1).before args s = true from hpre))
  obtain ⟨hcnt, hg0⟩ := and_e hg
  obtain ⟨w0, w1, w2, w3, w4, w5, rfl⟩ : ∃ w0 w1 w2 w3 w4 w5 : Value, args = #[w0, w1, w2, w3, w4, w5] := by
    have hs : args.size = 6 := by simpa [Cond.value, given_1] using hcnt
    obtain ⟨L⟩ := args
    match L, hs with
    | [w0, w1, w2, w3, w4, w5], _ => exact ⟨w0, w1, w2, w3, w4, w5, rfl⟩
  have hw := fun d (hd : d ∈ tables_1) => atoms_spec (ws := Jvm.Cond.code x code maxLocals ret :: tables_1) hat d (List.mem_cons_of_mem _ hd)
  obtain ⟨hq0, hg1⟩ := and_e hg0
  obtain ⟨i0, e0⟩ := isL_v hq0
  obtain rfl : w0 = (.long i0) := Option.some.inj e0
  obtain ⟨hq1, hg2⟩ := and_e hg1
  obtain ⟨i1, e1⟩ := isL_v hq1
  obtain rfl : w1 = (.long i1) := Option.some.inj e1
  obtain ⟨hq2, hg3⟩ := and_e hg2
  obtain ⟨i2, e2⟩ := isL_v hq2
  obtain rfl : w2 = (.long i2) := Option.some.inj e2
  obtain ⟨hq3, hg4⟩ := and_e hg3
  obtain ⟨i3, e3⟩ := is_v hq3
  obtain rfl : w3 = (.int i3) := Option.some.inj e3
  obtain ⟨hq4, hg5⟩ := and_e hg4
  obtain ⟨i4, e4⟩ := is_v hq4
  obtain rfl : w4 = (.int i4) := Option.some.inj e4
  obtain ⟨i5, e5⟩ := isL_v hg5
  obtain rfl : w5 = (.long i5) := Option.some.inj e5
  obtain ⟨n, o, h1, h2, h3, _, L, rfl, ⟨rfl, N⟩, hq⟩ := rm_law l s _ hw i0 i1 i2 i3 i4 i5 s.heap s.heap.size (Nat.le_refl _) tables_1 p e ha hc hk s m _ below hf ((Spec.applies_iff_loose hf).mp happ).1 ⟨rfl, State.Warmed39.refl s, rfl⟩ trivial
  refine ⟨n, _, h1, h2, h3, hpost _ _ _ _ _ _ ⟨Cond.after_iff.mpr rfl, Cond.after_iff.mpr (eq_i res_at (Term.int_eval (1)) rfl), trivial⟩ ⟨hq.1, hq.2.1, (hq.2.2.sift fun y hy => Or.inr (N y hy)).mono (by decide) (by decide)⟩⟩
theorem main_1_1 : Claimed_1_1 := comes_1 fun _ _ _ _ _ _ h hF => ⟨h.1, hF⟩
theorem main_1_2 : Claimed_1_2 := comes_1 fun _ _ _ _ _ _ h hF => ⟨h.2.1, hF⟩
end Jvm.Pilot.@@N@@
namespace Jvm.Pilot.@@N@@
open Jvm Jvm.ClassFile Sem Op Lib Jvm.Free Jvm.Stand Jvm.Pilot.@@N@@.Jvm.D
/-! MADE BY PROGRAM (witnessworld.py) out of the Statement's table words and the real class files: 12 classes; the members and pool entries that the words name. The judged class is class 1, her method 3. -/
namespace start1
open Jvm.ClassFile
def u (s : String) : CpInfo := .utf8 (stringToUtf16 s)
/-- a pool by its gaps: so many unusable entries, then the entry; so many at the end -/
def gap : Nat → List CpInfo → List CpInfo
  | 0, r => r
  | n + 1, r => .unusable :: gap n r
def poolList (es : List (Nat × CpInfo)) (last : Nat) : List CpInfo := es.foldr (fun e r => gap e.1 (e.2 :: r)) (gap last [])
def pool (es : List (Nat × CpInfo)) (last : Nat) : Array CpInfo := ⟨poolList es last⟩
def fileOf (pool : Array CpInfo) (this : Nat) (attrs : Array Attribute := #[]) (ms : Array MethodInfo := #[]) (fl : Nat := 33) (sup : Nat := 0) (ifs : Array Nat := #[]) (fds : Array FieldInfo := #[]) : ClassFile where
  minorVersion := 0
  majorVersion := 65
  constantPool := pool
  accessFlags := fl
  thisClass := this
  superClass := sup
  interfaces := ifs
  fields := fds
  methods := ms
  attributes := attrs
def plain (name : String) (sup : Option ClassId) : Class where
  name := name
  kind := .ordinary
  loader := none
  accessFlags := 33
  super := sup
  interfaces := #[]
  cf := none
  fields := #[]
  methods := #[]
  instanceTypes := #[]
  staticTypes := #[]
  resolved := #[]
  callSites := []
  init := .initialized
  statics := none
  mirror := none

def pool0 : Array CpInfo := pool [(5, u "<init>"), (0, u "()V"), (1, .class_ 10), (1, u "java/lang/Object")] 113

def k0m0 : Method := { name := "<init>", desc := "()V", sig := { parameters := [], returnType := none }, accessFlags := 1, code := none }
/-- java/lang/Object -/
def k0 : Class := { plain "java/lang/Object" none with
  accessFlags := 33
  interfaces := #[]
  cf := some (fileOf pool0 8 #[] #[{ accessFlags := 1, nameIndex := 5, descriptorIndex := 6, attributes := #[] }] 33 0 #[] #[])
  fields := #[]
  methods := #[k0m0]
  instanceTypes := #[]
  staticTypes := #[]
  resolved := Array.replicate 124 none
  statics := none }

def pool1 : Array CpInfo := pool [(2, .class_ 4), (1, u "java/lang/Object"), (0, u "<init>"), (0, u "()V"), (0, .long 18446744073709551615), (1, .methodref 10 11), (0, .class_ 12), (0, .nameAndType 13 14), (0, u "java/lang/Math"), (0, u "max"), (0, u "(II)I"), (0, .methodref 10 16), (0, .nameAndType 17 14), (0, u "min"), (0, .methodref 19 20), (0, .class_ 21), (0, .nameAndType 22 23), (0, u "com/example/zedcube/zedcube/engine/BitArrayWritePinLaw"), (0, u "below"), (0, u "(I)J"), (0, .integer 2147483647), (0, .methodref 26 27), (0, .class_ 28), (0, .nameAndType 29 30), (0, u "com/example/zedcube/zedcube/engine/BitArray"), (0, u "write"), (0, u "([JJIJ)V"), (0, .methodref 19 32), (0, .nameAndType 33 34), (0, u "expect"), (0, u "(JIIIJ)J"), (3, u "law"), (0, u "(JJJIIJ)Z")] 4

def k1m0 : Method := { name := "<init>", desc := "()V", sig := { parameters := [], returnType := none }, accessFlags := 2, code := none }
def k1c1 : Code := { maxStack := 4, maxLocals := 1, code := method_2_code, exceptionTable := #[], attributes := #[] }
def k1m1 : Method := { name := "below", desc := "(I)J", sig := { parameters := [.int], returnType := some .long }, accessFlags := 10, code := some k1c1 }
def k1c2 : Code := { maxStack := 6, maxLocals := 15, code := method_3_code, exceptionTable := #[], attributes := #[] }
def k1m2 : Method := { name := "expect", desc := "(JIIIJ)J", sig := { parameters := [.long, .int, .int, .int, .long], returnType := some .long }, accessFlags := 10, code := some k1c2 }
def k1c3 : Code := { maxStack := 9, maxLocals := 13, code := code, exceptionTable := #[], attributes := #[] }
def k1m3 : Method := { name := "law", desc := "(JJJIIJ)Z", sig := { parameters := [.long, .long, .long, .int, .int, .long], returnType := some .boolean }, accessFlags := 9, code := some k1c3 }
/-- com/example/zedcube/zedcube/engine/BitArrayWritePinLaw -/
def k1 : Class := { plain "com/example/zedcube/zedcube/engine/BitArrayWritePinLaw" (some 0) with
  accessFlags := 49
  interfaces := #[]
  cf := some (fileOf pool1 19 #[] #[{ accessFlags := 2, nameIndex := 5, descriptorIndex := 6, attributes := #[] }, { accessFlags := 10, nameIndex := 22, descriptorIndex := 23, attributes := #[] }, { accessFlags := 10, nameIndex := 33, descriptorIndex := 34, attributes := #[] }, { accessFlags := 9, nameIndex := 38, descriptorIndex := 39, attributes := #[] }] 49 2 #[] #[])
  fields := #[]
  methods := #[k1m0, k1m1, k1m2, k1m3]
  instanceTypes := #[]
  staticTypes := #[]
  resolved := Array.replicate 44 none
  statics := none }

def pool2 : Array CpInfo := pool [(2, .class_ 4), (1, u "java/lang/Object"), (0, u "<init>"), (0, u "()V"), (2, .long 18446744073709551615), (4, .class_ 16), (1, u "com/example/zedcube/zedcube/engine/BitArray"), (36, u "write"), (0, u "([JJIJ)V")] 37

def k2m0 : Method := { name := "<init>", desc := "()V", sig := { parameters := [], returnType := none }, accessFlags := 2, code := none }
def k2c1 : Code := { maxStack := 8, maxLocals := 14, code := prog_4_method_3_code, exceptionTable := #[], attributes := #[] }
def k2m1 : Method := { name := "write", desc := "([JJIJ)V", sig := { parameters := [(.array .long), .long, .int, .long], returnType := none }, accessFlags := 8, code := some k2c1 }
/-- com/example/zedcube/zedcube/engine/BitArray -/
def k2 : Class := { plain "com/example/zedcube/zedcube/engine/BitArray" (some 0) with
  accessFlags := 48
  interfaces := #[]
  cf := some (fileOf pool2 14 #[] #[{ accessFlags := 2, nameIndex := 5, descriptorIndex := 6, attributes := #[] }, { accessFlags := 8, nameIndex := 53, descriptorIndex := 54, attributes := #[] }] 48 2 #[] #[])
  fields := #[]
  methods := #[k2m0, k2m1]
  instanceTypes := #[]
  staticTypes := #[]
  resolved := Array.replicate 92 none
  statics := none }

def pool3 : Array CpInfo := pool [(1, .class_ 2), (0, u "java/lang/Math"), (1, .class_ 6), (1, u "java/lang/Object"), (0, u "<init>"), (0, u "()V"), (89, .class_ 100), (1, u "java/lang/Math$RandomNumberGeneratorHolder"), (71, u "negativeZeroFloatBits"), (0, u "J"), (2, u "negativeZeroDoubleBits"), (21, u "max"), (2, u "min"), (43, u "$assertionsDisabled"), (0, u "Z"), (88, u "(II)I"), (2, u "twoToTheDoubleScaleDown"), (0, u "D"), (4, u "twoToTheDoubleScaleUp"), (9, u "E"), (3, u "PI"), (2, u "TAU"), (2, u "DEGREES_TO_RADIANS"), (0, u "RADIANS_TO_DEGREES")] 94

def k3m0 : Method := { name := "<init>", desc := "()V", sig := { parameters := [], returnType := none }, accessFlags := 2, code := none }
def k3c1 : Code := { maxStack := 2, maxLocals := 2, code := jdk_29_method_65_code, exceptionTable := #[], attributes := #[] }
def k3m1 : Method := { name := "max", desc := "(II)I", sig := { parameters := [.int, .int], returnType := some .int }, accessFlags := 9, code := some k3c1 }
def k3c2 : Code := { maxStack := 2, maxLocals := 2, code := jdk_29_method_69_code, exceptionTable := #[], attributes := #[] }
def k3m2 : Method := { name := "min", desc := "(II)I", sig := { parameters := [.int, .int], returnType := some .int }, accessFlags := 9, code := some k3c2 }
/-- java/lang/Math -/
def k3 : Class := { plain "java/lang/Math" (some 0) with
  accessFlags := 49
  interfaces := #[]
  cf := some (fileOf pool3 1 #[.nestMembers #[98]] #[{ accessFlags := 2, nameIndex := 7, descriptorIndex := 8, attributes := #[] }, { accessFlags := 9, nameIndex := 198, descriptorIndex := 335, attributes := #[] }, { accessFlags := 9, nameIndex := 201, descriptorIndex := 335, attributes := #[] }] 49 4 #[] #[{ accessFlags := 25, nameIndex := 354, descriptorIndex := 339, attributes := #[] }, { accessFlags := 25, nameIndex := 358, descriptorIndex := 339, attributes := #[] }, { accessFlags := 25, nameIndex := 361, descriptorIndex := 339, attributes := #[] }, { accessFlags := 26, nameIndex := 364, descriptorIndex := 339, attributes := #[] }, { accessFlags := 26, nameIndex := 365, descriptorIndex := 339, attributes := #[] }, { accessFlags := 26, nameIndex := 172, descriptorIndex := 173, attributes := #[] }, { accessFlags := 26, nameIndex := 176, descriptorIndex := 173, attributes := #[] }, { accessFlags := 8, nameIndex := 344, descriptorIndex := 339, attributes := #[] }, { accessFlags := 8, nameIndex := 338, descriptorIndex := 339, attributes := #[] }, { accessFlags := 4120, nameIndex := 245, descriptorIndex := 246, attributes := #[] }])
  fields := #[{ name := "E", type := .double, accessFlags := 25, slot := 0, constantValue := 0 }, { name := "PI", type := .double, accessFlags := 25, slot := 1, constantValue := 0 }, { name := "TAU", type := .double, accessFlags := 25, slot := 2, constantValue := 0 }, { name := "DEGREES_TO_RADIANS", type := .double, accessFlags := 26, slot := 3, constantValue := 0 }, { name := "RADIANS_TO_DEGREES", type := .double, accessFlags := 26, slot := 4, constantValue := 0 }, { name := "negativeZeroFloatBits", type := .long, accessFlags := 26, slot := 5, constantValue := 0 }, { name := "negativeZeroDoubleBits", type := .long, accessFlags := 26, slot := 6, constantValue := 0 }, { name := "twoToTheDoubleScaleUp", type := .double, accessFlags := 8, slot := 7, constantValue := 0 }, { name := "twoToTheDoubleScaleDown", type := .double, accessFlags := 8, slot := 8, constantValue := 0 }, { name := "$assertionsDisabled", type := .boolean, accessFlags := 4120, slot := 9, constantValue := 0 }]
  methods := #[k3m0, k3m1, k3m2]
  instanceTypes := #[]
  staticTypes := #[.double, .double, .double, .double, .double, .long, .long, .double, .double, .boolean]
  resolved := Array.replicate 460 none
  statics := none }

def pool4 : Array CpInfo := pool [(1, u "java/lang/Cloneable"), (0, .class_ 1), (0, u "java/lang/Object"), (0, .class_ 3)] 3

/-- java/lang/Cloneable -/
def k4 : Class := { plain "java/lang/Cloneable" (some 0) with
  accessFlags := 1537
  interfaces := #[]
  cf := some (fileOf pool4 2 #[] #[] 1537 4 #[] #[])
  fields := #[]
  methods := #[]
  instanceTypes := #[]
  staticTypes := #[]
  resolved := Array.replicate 8 none
  statics := none }

def pool5 : Array CpInfo := pool [(1, u "java/io/Serializable"), (0, .class_ 1), (0, u "java/lang/Object"), (0, .class_ 3)] 3

/-- java/io/Serializable -/
def k5 : Class := { plain "java/io/Serializable" (some 0) with
  accessFlags := 1537
  interfaces := #[]
  cf := some (fileOf pool5 2 #[] #[] 1537 4 #[] #[])
  fields := #[]
  methods := #[]
  instanceTypes := #[]
  staticTypes := #[]
  resolved := Array.replicate 8 none
  statics := none }

/-- the primitive byte -/
def k6 : Class := { plain "byte" none with kind := .primitive 'B', accessFlags := 0x411 }
/-- [B -/
def k7 : Class := { plain "[B" (some 0) with kind := .array 6 .byte, interfaces := #[4, 5], accessFlags := 1041 }

/-- the primitive int -/
def k8 : Class := { plain "int" none with kind := .primitive 'I', accessFlags := 0x411 }
/-- [I -/
def k9 : Class := { plain "[I" (some 0) with kind := .array 8 .int, interfaces := #[4, 5], accessFlags := 1041 }

/-- the primitive long -/
def k10 : Class := { plain "long" none with kind := .primitive 'J', accessFlags := 0x411 }
/-- [J -/
def k11 : Class := { plain "[J" (some 0) with kind := .array 10 .long, interfaces := #[4, 5], accessFlags := 1041 }

def heap : Heap := #[]
def classes : Array Class := #[k0, k1, k2, k3, k4, k5, k6, k7, k8, k9, k10, k11]
def interned : List (Array UInt16 × Addr) := []
def slotsUsed : Nat := 0
def theMethod : MethodId := ⟨1, 3⟩
def args0 : Array Value := #[.long 300, .long 7, .long 9, .int 3, .int 4, .long 5]
def aboutOver (below : List Frame) : State where
  vm := { classes := classes, interned := interned.toArray }
  heap := heap
  slotsUsed := slotsUsed
  threads := #[{ frames := .invoking theMethod args0 :: below }]
def below0 : List Frame := [.native { method := ⟨0, 0⟩, args := #[] }]
def about1 : State := aboutOver below0
def p0 : Program := .bare "" "" ""
def e0 : Env := launch0.env 0 0 0
theorem w_frames : about1.frames = Frame.invoking theMethod args0 :: below0 := rfl
set_option maxRecDepth 65536 in
theorem w_args : argsFit about1.vm theMethod args0 = true := by decide +kernel
set_option maxRecDepth 65536 in
theorem w_heap : heapFits about1 = true := by decide +kernel
set_option maxRecDepth 65536 in
theorem w_runnable : about1.curStatus? = some .runnable := by decide +kernel
set_option maxRecDepth 65536 in
theorem w_alone : about1.alone = true := by decide +kernel
set_option maxRecDepth 65536 in
theorem w_named : about1.methodNamed? x = some theMethod := by decide +kernel
set_option maxRecDepth 65536 in
theorem w_hears : about1.hears theMethod below0 = true := by decide +kernel
set_option maxRecDepth 65536 in
theorem w_ripe : about1.ripe theMethod args0 below0 = true := by decide +kernel
theorem w_running : about1.status = .running := rfl
set_option maxRecDepth 65536 in
theorem w_room : about1.hasRoom e0.platform room_1 = true :=
  launch0.hasRoom_least _ room_1 (by decide +kernel) (by decide +kernel) (by decide +kernel) (by decide +kernel) (by decide +kernel) (by decide +kernel)
theorem allAtoms_all (ts : List Jvm.Cond) (a : Array Jvm.Value) (st : Jvm.State) : (allAtoms ts).before a st = ts.all (fun c => c.before a st) := by
  induction ts with
  | nil => rfl
  | cons c t ih =>
    show (Jvm.Cond.and c (allAtoms t)).before a st = _
    rw [Jvm.Cond.before_and, ih, List.all_cons]
def words1 : List Jvm.Cond := Jvm.Cond.code x code maxLocals ret :: tables_1
/-- a 'code' word, met by the world's own term for the bytes: nothing is compared byte by byte -/
theorem code_word {y : MethodName} {bytes : ByteArray} {mx : Nat} {rt : Option FieldType} {a : Array Value} {s : State} {m : MethodId} {meth : Method} {c : Code} (h1 : s.methodNamed? y = some m) (h2 : s.vm.method? m = some meth) (h3 : meth.code = some c) (h4 : c.code = bytes)
    (h5 : (c.maxLocals == mx && c.exceptionTable.isEmpty && decide (c.maxStack ≤ mostOperands) && decide (meth.sig.returnType = rt) && !meth.locks && decide (parseMethodDescriptor y.desc = some meth.sig)) = true) : (Jvm.Cond.code y bytes mx rt).before a s = true := by
  simp only [Bool.and_eq_true, beq_iff_eq, Bool.not_eq_true', decide_eq_true_eq] at h5
  obtain ⟨⟨⟨⟨⟨g1, g2⟩, g3⟩, g4⟩, g5⟩, g6⟩ := h5
  simp [Cond.before, Cond.holds, Cond.value, h1, h2, h3, h4, g1, g2, g3, g4, g5, g6]
def isCode : Jvm.Cond → Bool
  | .code _ _ _ _ => true
  | _ => false
theorem all_split {L : List Jvm.Cond} {P : Jvm.Cond → Bool} (h1 : L.all (fun c => isCode c || P c) = true) (h2 : ∀ c ∈ L.filter isCode, P c = true) : L.all P = true := by
  refine List.all_eq_true.mpr fun c hc => ?_
  have h := List.all_eq_true.mp h1 c hc
  rcases Bool.eq_false_or_eq_true (isCode c) with hi | hi
  · exact h2 c (List.mem_filter.mpr ⟨hc, hi⟩)
  · simpa [hi] using h
set_option maxRecDepth 65536 in
theorem w_c0 : (Jvm.Cond.code x code maxLocals ret).before args0 about1 = true := code_word (m := ⟨1, 3⟩) (meth := k1m3) (c := k1c3) (by decide +kernel) rfl rfl rfl (by decide +kernel)
set_option maxRecDepth 65536 in
theorem w_c1 : (Jvm.Cond.code ({ cls := "com/example/zedcube/zedcube/engine/BitArray", name := "write", desc := "([JJIJ)V" } : Jvm.MethodName) prog_4_method_3_code (14 : Nat) (Option.none : Option Jvm.ClassFile.FieldType)).before args0 about1 = true := code_word (m := ⟨2, 1⟩) (meth := k2m1) (c := k2c1) (by decide +kernel) rfl rfl rfl (by decide +kernel)
set_option maxRecDepth 65536 in
theorem w_c2 : (Jvm.Cond.code ({ cls := "com/example/zedcube/zedcube/engine/BitArrayWritePinLaw", name := "expect", desc := "(JIIIJ)J" } : Jvm.MethodName) method_3_code (15 : Nat) (Option.some Jvm.ClassFile.FieldType.long)).before args0 about1 = true := code_word (m := ⟨1, 2⟩) (meth := k1m2) (c := k1c2) (by decide +kernel) rfl rfl rfl (by decide +kernel)
set_option maxRecDepth 65536 in
theorem w_c3 : (Jvm.Cond.code ({ cls := "java/lang/Math", name := "max", desc := "(II)I" } : Jvm.MethodName) jdk_29_method_65_code (2 : Nat) (Option.some Jvm.ClassFile.FieldType.int)).before args0 about1 = true := code_word (m := ⟨3, 1⟩) (meth := k3m1) (c := k3c1) (by decide +kernel) rfl rfl rfl (by decide +kernel)
set_option maxRecDepth 65536 in
theorem w_c4 : (Jvm.Cond.code ({ cls := "java/lang/Math", name := "min", desc := "(II)I" } : Jvm.MethodName) jdk_29_method_69_code (2 : Nat) (Option.some Jvm.ClassFile.FieldType.int)).before args0 about1 = true := code_word (m := ⟨3, 2⟩) (meth := k3m2) (c := k3c2) (by decide +kernel) rfl rfl rfl (by decide +kernel)
set_option maxRecDepth 65536 in
theorem w_c5 : (Jvm.Cond.code ({ cls := "com/example/zedcube/zedcube/engine/BitArrayWritePinLaw", name := "below", desc := "(I)J" } : Jvm.MethodName) method_2_code (1 : Nat) (Option.some Jvm.ClassFile.FieldType.long)).before args0 about1 = true := code_word (m := ⟨1, 1⟩) (meth := k1m1) (c := k1c1) (by decide +kernel) rfl rfl rfl (by decide +kernel)
def codes1 : List Jvm.Cond := [Jvm.Cond.code x code maxLocals ret, Jvm.Cond.code ({ cls := "com/example/zedcube/zedcube/engine/BitArray", name := "write", desc := "([JJIJ)V" } : Jvm.MethodName) prog_4_method_3_code (14 : Nat) (Option.none : Option Jvm.ClassFile.FieldType), Jvm.Cond.code ({ cls := "com/example/zedcube/zedcube/engine/BitArrayWritePinLaw", name := "expect", desc := "(JIIIJ)J" } : Jvm.MethodName) method_3_code (15 : Nat) (Option.some Jvm.ClassFile.FieldType.long), Jvm.Cond.code ({ cls := "java/lang/Math", name := "max", desc := "(II)I" } : Jvm.MethodName) jdk_29_method_65_code (2 : Nat) (Option.some Jvm.ClassFile.FieldType.int), Jvm.Cond.code ({ cls := "java/lang/Math", name := "min", desc := "(II)I" } : Jvm.MethodName) jdk_29_method_69_code (2 : Nat) (Option.some Jvm.ClassFile.FieldType.int), Jvm.Cond.code ({ cls := "com/example/zedcube/zedcube/engine/BitArrayWritePinLaw", name := "below", desc := "(I)J" } : Jvm.MethodName) method_2_code (1 : Nat) (Option.some Jvm.ClassFile.FieldType.long)]
set_option maxRecDepth 65536 in
theorem codes_eq : words1.filter isCode = codes1 := rfl
theorem w_codes : ∀ c ∈ words1.filter isCode, c.before args0 about1 = true := by
  rw [codes_eq]
  intro c hc
  simp only [codes1, List.mem_cons, List.not_mem_nil, or_false] at hc
  rcases hc with rfl | rfl | rfl | rfl | rfl | rfl
  · exact w_c0
  · exact w_c1
  · exact w_c2
  · exact w_c3
  · exact w_c4
  · exact w_c5
set_option maxRecDepth 65536 in
theorem w_t1 : words1.all (fun c => isCode c || c.before args0 about1) = true := by decide +kernel
theorem w_tables : (allAtoms (Jvm.Cond.code x code maxLocals ret :: tables_1)).before args0 about1 = true := by
  rw [allAtoms_all]
  show words1.all (fun c => c.before args0 about1) = true
  refine all_split ?_ w_codes
  rw [w_t1]
set_option maxRecDepth 65536 in
theorem w_case : (Jvm.Cond.and given_1 narrow_1).before args0 about1 = true := by decide +kernel
theorem w_applies : (headSpec (Jvm.Cond.code x code maxLocals ret :: tables_1) room_1).applies x e0.platform about1 = true :=
  (Spec.applies_iff w_frames).mpr ⟨w_running, w_runnable, w_alone, w_named, w_hears, w_ripe, w_room, w_tables⟩
theorem atStart : AtStart classFile x code maxLocals ret World_1 tables_1 room_1 Calls_1 rest_1 Pre_1 launch0 p0 e0 about1 theMethod args0 below0 :=
  ⟨lists_1, trivial, launch0.admits_env _ _ _, launch0.least_env, fairChoices_fair.cas, fairChoices_fair.clock, w_frames, w_args, w_heap, w_applies, trivial, trivial, w_case⟩
end start1
theorem witness_1 : WitnessClaimed_1 := ⟨start1.p0, start1.e0, start1.about1, start1.theMethod, start1.args0, start1.below0, start1.atStart⟩
end Jvm.Pilot.@@N@@
