import JvmDerived
import JvmDerived.Pilot.@@N@@Statement
import JvmDerived.Pilot.@@N@@Code
set_option linter.unusedVariables false
set_option linter.unusedSimpArgs false
namespace Jvm.Pilot.@@N@@
open Jvm Jvm.ClassFile Sem Op Lib Jvm.Free Jvm.Stand Jvm.LawKit Jvm.RoadKit Bundle Jvm.Pilot.@@N@@.Jvm.D
/-- from any state that stands here with this heap the walk comes to a return with Q -/
def Go (p : Program) (l : Launch) (e : Env) (R : Room) (s : State) (m : MethodId) (args : Array Value) (below : List Frame) (meth : Method) (c : Code) (n0 : Nat) (Q : Option Value → Heap → Prop) (h : Heap) (k n : Nat) (f : JFrame) : Prop :=
  ∀ T L, Stand p l e R s m args below meth c T L k n → T.heap = h → Fr n0 L →
    ∃ s₂ o, Steps p.tables e below (T.setTop f) s₂ ∧ s₂.status = .running ∧ Ended s₂ below o ∧
      ∃ v L', o = .returned v ∧ (Q v s₂.heap ∧ Fr n0 L') ∧ FrameEnd s o s₂ L' R.cells R.slots
/-- what is known of the body that is walked -/
def Kx (Z : State) (own nm : String) (bytes : ByteArray) (ml : Nat) (rt : Option FieldType) (p : Program) (s : State) (m : MethodId) (meth : Method) (c : Code) : Prop :=
  p.tables.exec = Jvm.exec ∧ Z.Warmed39 s.vm ∧ s.vm.findClass own = some m.cls ∧ c.code = bytes ∧ c.maxLocals = ml ∧ meth.sig.returnType = rt ∧ meth.locks = false ∧ meth.name = nm
/-- a method's contract, at given arguments and heap -/
def Meets (l : Launch) (y : MethodName) (bytes : ByteArray) (ml : Nat) (rt : Option FieldType) (rm : Room) (Z : State) (as : Array Value) (h0 : Heap) (n0 : Nat) (Q : Option Value → Heap → Prop) : Prop :=
  ∀ ws : List Jvm.Cond, MetFree l y (head1 (Jvm.Cond.code y bytes ml rt :: ws) rm) (fun a U => a = as ∧ Z.Warmed39 U.vm ∧ U.heap = h0) (fun _ _ _ _ _ => True)
    (fun _ U o U' => ∃ v L, o = .returned v ∧ (Q v U'.heap ∧ Fr n0 L) ∧ FrameEnd U o U' L rm.cells rm.slots)
/-- an array of ints, bytes, booleans ..: its values as a list -/
def IA (Z : State) (h : Heap) (a : Addr) (ty : FieldType) (xs : List Int32) : Prop := ∃ cl : Cell, Arr Z h a cl ty ∧ cl.slots = (xs.map Value.int).toArray
/-- an array of longs -/
def LA (Z : State) (h : Heap) (a : Addr) (xs : List Int64) : Prop := ∃ cl : Cell, Arr Z h a cl .long ∧ cl.slots = (xs.map Value.long).toArray
section ArrFacts
variable {Z : State} {h h' : Heap} {a : Addr} {ty : FieldType} {xs : List Int32} {ys : List Int64} {ws : List Addr}
theorem IA.keep (F : IA Z h a ty xs) (K : Keep h h' ws) (q : a ∉ ws) : IA Z h' a ty xs := by obtain ⟨c, A, r⟩ := F; exact ⟨c, ⟨K.2.1 a c A.1 q, A.2⟩, r⟩
theorem LA.keep (F : LA Z h a ys) (K : Keep h h' ws) (q : a ∉ ws) : LA Z h' a ys := by obtain ⟨c, A, r⟩ := F; exact ⟨c, ⟨K.2.1 a c A.1 q, A.2⟩, r⟩
theorem IA.lt (F : IA Z h a ty xs) : a < h.size := by obtain ⟨c, A, -⟩ := F; exact A.lt
theorem LA.lt (F : LA Z h a ys) : a < h.size := by obtain ⟨c, A, -⟩ := F; exact A.lt
theorem IA.set {j : Nat} {x : Int32} (F : IA Z h a ty xs) (W : Wr h h' a j (.int x)) : IA Z h' a ty (xs.set j x) := by
  obtain ⟨c, A, r⟩ := F
  refine ⟨_, A.same W, ?_⟩
  simp [Cell.setSlot, r, List.map_set]
theorem LA.set {j : Nat} {x : Int64} (F : LA Z h a ys) (W : Wr h h' a j (.long x)) : LA Z h' a (ys.set j x) := by
  obtain ⟨c, A, r⟩ := F
  refine ⟨_, A.same W, ?_⟩
  simp [Cell.setSlot, r, List.map_set]
theorem keep_ext (E : Ext h h') : Keep h h' [] := (Keep.refl h []).ext E
theorem own_clamp {j : Int32} {n : Nat} (h0 : ¬ j < 0) (hn : j.toNatClampNeg < n) {cl : Cell} (hs : cl.slots.size = n) : ¬ (j < 0 ∨ cl.slots.size ≤ j.toNatClampNeg) := by
  rw [hs]; rintro (q | q)
  · exact h0 q
  · omega
theorem own_ne_of_lt {a b : Nat} {h : Heap} (q : a < h.size) (r : b = h.size) : a ≠ b := by omega
end ArrFacts
section GoSteps
variable {p : Program} {l : Launch} {e : Env} {R : Room} {s : State} {m : MethodId} {args : Array Value} {below : List Frame} {meth : Method} {c : Code} {n0 : Nat} {Q : Option Value → Heap → Prop} {h : Heap} {k n : Nat} {Z : State} {own nm : String} {bytes : ByteArray} {ml : Nat} {rt : Option FieldType} {Ls : Array Slot} {st : List Value} {a0 : Array Value}
theorem go_step {f f' : JFrame} (st : ∀ T L, Stand p l e R s m args below meth c T L k n → ∀ t, Steps p.tables e below (T.setTop f') t → Steps p.tables e below (T.setTop f) t) (hr : Go p l e R s m args below meth c n0 Q h k n f') : Go p l e R s m args below meth c n0 Q h k n f := by
  intro T L X eT N
  obtain ⟨s₂, o, S, r⟩ := hr T L X eT N
  exact ⟨s₂, o, st T L X _ S, r⟩
theorem go_mono {f : JFrame} {k' n' : Nat} (hk : k ≤ k') (hn : n ≤ n') (hr : Go p l e R s m args below meth c n0 Q h k' n' f) : Go p l e R s m args below meth c n0 Q h k n f := by
  intro T L X eT N
  exact hr T L (X.more hk hn) eT N
theorem go_post {f : JFrame} {Q' : Option Value → Heap → Prop} (hq : ∀ v h, Q' v h → Q v h) (hr : Go p l e R s m args below meth c n0 Q' h k n f) : Go p l e R s m args below meth c n0 Q h k n f := by
  intro T L X eT N
  obtain ⟨s₂, o, S, r1, r2, v, L', q1, q2, q3⟩ := hr T L X eT N
  exact ⟨s₂, o, S, r1, r2, v, L', q1, ⟨hq _ _ q2.1, q2.2⟩, q3⟩
theorem go_cast {pc : Nat} {k' n' : Nat} {st' : List Value} (q1 : k = k') (q2 : n = n') (q3 : st = st') (hr : Go p l e R s m args below meth c n0 Q h k' n' (mkF m pc Ls st')) : Go p l e R s m args below meth c n0 Q h k n (mkF m pc Ls st) := by subst q1 q2 q3; exact hr
theorem g_iload (K : Kx Z own nm bytes ml rt p s m meth c) (pc : Nat) {i : Nat} {v : Int32} (hd : decode bytes pc = .ok (.iload i, 2)) (hl : Ls[i]? = some (.val (.int v))) (hr : Go p l e R s m args below meth c n0 Q h k n (mkF m (pc + 2) Ls (.int v :: st))) : Go p l e R s m args below meth c n0 Q h k n (mkF m pc Ls st) :=
  go_step (fun T L X t S => XS.iload X.here K.1 rfl (hb K.2.2.2.1 hd) hl S) hr
theorem g_iloadN (K : Kx Z own nm bytes ml rt p s m meth c) (pc : Nat) {i : Fin 4} {v : Int32} (hd : decode bytes pc = .ok (.iload_n i, 1)) (hl : Ls[i.val]? = some (.val (.int v))) (hr : Go p l e R s m args below meth c n0 Q h k n (mkF m (pc + 1) Ls (.int v :: st))) : Go p l e R s m args below meth c n0 Q h k n (mkF m pc Ls st) :=
  go_step (fun T L X t S => XS.iloadN X.here K.1 rfl (hb K.2.2.2.1 hd) hl S) hr
theorem g_lload (K : Kx Z own nm bytes ml rt p s m meth c) (pc : Nat) {i : Nat} {v : Int64} (hd : decode bytes pc = .ok (.lload i, 2)) (hl : Ls[i]? = some (.val (.long v))) (hr : Go p l e R s m args below meth c n0 Q h k n (mkF m (pc + 2) Ls (.long v :: st))) : Go p l e R s m args below meth c n0 Q h k n (mkF m pc Ls st) :=
  go_step (fun T L X t S => XT.lload X.here K.1 rfl (hb K.2.2.2.1 hd) hl S) hr
theorem g_lloadN (K : Kx Z own nm bytes ml rt p s m meth c) (pc : Nat) {i : Fin 4} {v : Int64} (hd : decode bytes pc = .ok (.lload_n i, 1)) (hl : Ls[i.val]? = some (.val (.long v))) (hr : Go p l e R s m args below meth c n0 Q h k n (mkF m (pc + 1) Ls (.long v :: st))) : Go p l e R s m args below meth c n0 Q h k n (mkF m pc Ls st) :=
  go_step (fun T L X t S => XT.lloadN X.here K.1 rfl (hb K.2.2.2.1 hd) hl S) hr
theorem g_aload (K : Kx Z own nm bytes ml rt p s m meth c) (pc : Nat) {i : Nat} {v : Value} (hd : decode bytes pc = .ok (.aload i, 2)) (hl : Ls[i]? = some (.val v)) (hv : v.isRef = true) (hr : Go p l e R s m args below meth c n0 Q h k n (mkF m (pc + 2) Ls (v :: st))) : Go p l e R s m args below meth c n0 Q h k n (mkF m pc Ls st) :=
  go_step (fun T L X t S => XS.aload X.here K.1 rfl (hb K.2.2.2.1 hd) hl hv S) hr
theorem g_aloadN (K : Kx Z own nm bytes ml rt p s m meth c) (pc : Nat) {i : Fin 4} {v : Value} (hd : decode bytes pc = .ok (.aload_n i, 1)) (hl : Ls[i.val]? = some (.val v)) (hv : v.isRef = true) (hr : Go p l e R s m args below meth c n0 Q h k n (mkF m (pc + 1) Ls (v :: st))) : Go p l e R s m args below meth c n0 Q h k n (mkF m pc Ls st) :=
  go_step (fun T L X t S => XS.aloadN X.here K.1 rfl (hb K.2.2.2.1 hd) hl hv S) hr
theorem g_istore (K : Kx Z own nm bytes ml rt p s m meth c) (pc : Nat) {i : Nat} {v : Int32} (l' : Array Slot) (hd : decode bytes pc = .ok (.istore i, 2)) (hl : storeLocals Ls i (.int v) = some l') (hr : Go p l e R s m args below meth c n0 Q h k n (mkF m (pc + 2) l' st)) : Go p l e R s m args below meth c n0 Q h k n (mkF m pc Ls (.int v :: st)) :=
  go_step (fun T L X t S => XS.istore X.here K.1 rfl (hb K.2.2.2.1 hd) rfl hl S) hr
theorem g_istoreN (K : Kx Z own nm bytes ml rt p s m meth c) (pc : Nat) {i : Fin 4} {v : Int32} (l' : Array Slot) (hd : decode bytes pc = .ok (.istore_n i, 1)) (hl : storeLocals Ls i.val (.int v) = some l') (hr : Go p l e R s m args below meth c n0 Q h k n (mkF m (pc + 1) l' st)) : Go p l e R s m args below meth c n0 Q h k n (mkF m pc Ls (.int v :: st)) :=
  go_step (fun T L X t S => XS.istoreN X.here K.1 rfl (hb K.2.2.2.1 hd) rfl hl S) hr
theorem g_lstore (K : Kx Z own nm bytes ml rt p s m meth c) (pc : Nat) {i : Nat} {v : Int64} (l' : Array Slot) (hd : decode bytes pc = .ok (.lstore i, 2)) (hl : storeLocals Ls i (.long v) = some l') (hr : Go p l e R s m args below meth c n0 Q h k n (mkF m (pc + 2) l' st)) : Go p l e R s m args below meth c n0 Q h k n (mkF m pc Ls (.long v :: st)) :=
  go_step (fun T L X t S => XT.lstore X.here K.1 rfl (hb K.2.2.2.1 hd) rfl hl S) hr
theorem g_lstoreN (K : Kx Z own nm bytes ml rt p s m meth c) (pc : Nat) {i : Fin 4} {v : Int64} (l' : Array Slot) (hd : decode bytes pc = .ok (.lstore_n i, 1)) (hl : storeLocals Ls i.val (.long v) = some l') (hr : Go p l e R s m args below meth c n0 Q h k n (mkF m (pc + 1) l' st)) : Go p l e R s m args below meth c n0 Q h k n (mkF m pc Ls (.long v :: st)) :=
  go_step (fun T L X t S => XT.lstoreN X.here K.1 rfl (hb K.2.2.2.1 hd) rfl hl S) hr
theorem g_astore (K : Kx Z own nm bytes ml rt p s m meth c) (pc : Nat) {i : Nat} {v : Value} (l' : Array Slot) (hd : decode bytes pc = .ok (.astore i, 2)) (hv : v.isRef = true) (hl : storeLocals Ls i v = some l') (hr : Go p l e R s m args below meth c n0 Q h k n (mkF m (pc + 2) l' st)) : Go p l e R s m args below meth c n0 Q h k n (mkF m pc Ls (v :: st)) :=
  go_step (fun T L X t S => XS.astore X.here K.1 rfl (hb K.2.2.2.1 hd) rfl hv hl S) hr
theorem g_astoreN (K : Kx Z own nm bytes ml rt p s m meth c) (pc : Nat) {i : Fin 4} {v : Value} (l' : Array Slot) (hd : decode bytes pc = .ok (.astore_n i, 1)) (hv : v.isRef = true) (hl : storeLocals Ls i.val v = some l') (hr : Go p l e R s m args below meth c n0 Q h k n (mkF m (pc + 1) l' st)) : Go p l e R s m args below meth c n0 Q h k n (mkF m pc Ls (v :: st)) :=
  go_step (fun T L X t S => XS.astoreN X.here K.1 rfl (hb K.2.2.2.1 hd) rfl hv hl S) hr
theorem g_iconst (K : Kx Z own nm bytes ml rt p s m meth c) (pc : Nat) {i : Int} (v : Int32) (hd : decode bytes pc = .ok (.iconst i, 1)) (hv : Int32.ofInt i = v) (hr : Go p l e R s m args below meth c n0 Q h k n (mkF m (pc + 1) Ls (.int v :: st))) : Go p l e R s m args below meth c n0 Q h k n (mkF m pc Ls st) :=
  go_step (fun T L X t S => XT.iconstV X.here K.1 rfl v (hb K.2.2.2.1 hd) hv S) hr
theorem g_bipush (K : Kx Z own nm bytes ml rt p s m meth c) (pc : Nat) {i : Int} (v : Int32) (hd : decode bytes pc = .ok (.bipush i, 2)) (hv : (Int8.ofInt i).toInt32 = v) (hr : Go p l e R s m args below meth c n0 Q h k n (mkF m (pc + 2) Ls (.int v :: st))) : Go p l e R s m args below meth c n0 Q h k n (mkF m pc Ls st) :=
  go_step (fun T L X t S => XT.bipushV X.here K.1 rfl v (hb K.2.2.2.1 hd) hv S) hr
theorem g_sipush (K : Kx Z own nm bytes ml rt p s m meth c) (pc : Nat) {i : Int} (v : Int32) (hd : decode bytes pc = .ok (.sipush i, 3)) (hv : (Int16.ofInt i).toInt32 = v) (hr : Go p l e R s m args below meth c n0 Q h k n (mkF m (pc + 3) Ls (.int v :: st))) : Go p l e R s m args below meth c n0 Q h k n (mkF m pc Ls st) :=
  go_step (fun T L X t S => XT.sipushV X.here K.1 rfl v (hb K.2.2.2.1 hd) hv S) hr
theorem g_lconst (K : Kx Z own nm bytes ml rt p s m meth c) (pc : Nat) {i : Fin 2} (v : Int64) (hd : decode bytes pc = .ok (.lconst i, 1)) (hv : Int64.ofNat i = v) (hr : Go p l e R s m args below meth c n0 Q h k n (mkF m (pc + 1) Ls (.long v :: st))) : Go p l e R s m args below meth c n0 Q h k n (mkF m pc Ls st) :=
  go_step (fun T L X t S => XT.lconstV X.here K.1 rfl v (hb K.2.2.2.1 hd) hv S) hr
theorem g_aconst_null (K : Kx Z own nm bytes ml rt p s m meth c) (pc : Nat)  (hd : decode bytes pc = .ok (.aconst_null, 1))  (hr : Go p l e R s m args below meth c n0 Q h k n (mkF m (pc + 1) Ls (.null :: st))) : Go p l e R s m args below meth c n0 Q h k n (mkF m pc Ls st) :=
  go_step (fun T L X t S => XS.aconstNull X.here K.1 rfl (hb K.2.2.2.1 hd)  S) hr
theorem g_iinc (K : Kx Z own nm bytes ml rt p s m meth c) (pc : Nat) {i : Nat} {cst : Int} {x : Int32} (v : Int32) (l' : Array Slot) (hd : decode bytes pc = .ok (.iinc i cst, 3)) (hv : Int32.ofInt cst = v) (hl : Ls[i]? = some (.val (.int x))) (hl' : storeLocals Ls i (.int (x + v)) = some l') (hr : Go p l e R s m args below meth c n0 Q h k n (mkF m (pc + 3) l' st)) : Go p l e R s m args below meth c n0 Q h k n (mkF m pc Ls st) :=
  go_step (fun T L X t S => XT.iincV X.here K.1 rfl v (hb K.2.2.2.1 hd) hv hl hl' S) hr
theorem g_iadd (K : Kx Z own nm bytes ml rt p s m meth c) (pc : Nat) {x y : Int32} (hd : decode bytes pc = .ok (.iadd, 1))  (hr : Go p l e R s m args below meth c n0 Q h k n (mkF m (pc + 1) Ls (.int (x + y) :: st))) : Go p l e R s m args below meth c n0 Q h k n (mkF m pc Ls (.int y :: .int x :: st)) :=
  go_step (fun T L X t S => XS.iadd X.here K.1 rfl (hb K.2.2.2.1 hd) rfl S) hr
theorem g_isub (K : Kx Z own nm bytes ml rt p s m meth c) (pc : Nat) {x y : Int32} (hd : decode bytes pc = .ok (.isub, 1))  (hr : Go p l e R s m args below meth c n0 Q h k n (mkF m (pc + 1) Ls (.int (x - y) :: st))) : Go p l e R s m args below meth c n0 Q h k n (mkF m pc Ls (.int y :: .int x :: st)) :=
  go_step (fun T L X t S => XS.isub X.here K.1 rfl (hb K.2.2.2.1 hd) rfl S) hr
theorem g_imul (K : Kx Z own nm bytes ml rt p s m meth c) (pc : Nat) {x y : Int32} (hd : decode bytes pc = .ok (.imul, 1))  (hr : Go p l e R s m args below meth c n0 Q h k n (mkF m (pc + 1) Ls (.int (x * y) :: st))) : Go p l e R s m args below meth c n0 Q h k n (mkF m pc Ls (.int y :: .int x :: st)) :=
  go_step (fun T L X t S => XS.imul X.here K.1 rfl (hb K.2.2.2.1 hd) rfl S) hr
theorem g_iand (K : Kx Z own nm bytes ml rt p s m meth c) (pc : Nat) {x y : Int32} (hd : decode bytes pc = .ok (.iand, 1))  (hr : Go p l e R s m args below meth c n0 Q h k n (mkF m (pc + 1) Ls (.int (x &&& y) :: st))) : Go p l e R s m args below meth c n0 Q h k n (mkF m pc Ls (.int y :: .int x :: st)) :=
  go_step (fun T L X t S => XS.iand X.here K.1 rfl (hb K.2.2.2.1 hd) rfl S) hr
theorem g_ior (K : Kx Z own nm bytes ml rt p s m meth c) (pc : Nat) {x y : Int32} (hd : decode bytes pc = .ok (.ior, 1))  (hr : Go p l e R s m args below meth c n0 Q h k n (mkF m (pc + 1) Ls (.int (x ||| y) :: st))) : Go p l e R s m args below meth c n0 Q h k n (mkF m pc Ls (.int y :: .int x :: st)) :=
  go_step (fun T L X t S => XT.ior X.here K.1 rfl (hb K.2.2.2.1 hd) rfl S) hr
theorem g_ixor (K : Kx Z own nm bytes ml rt p s m meth c) (pc : Nat) {x y : Int32} (hd : decode bytes pc = .ok (.ixor, 1))  (hr : Go p l e R s m args below meth c n0 Q h k n (mkF m (pc + 1) Ls (.int (x ^^^ y) :: st))) : Go p l e R s m args below meth c n0 Q h k n (mkF m pc Ls (.int y :: .int x :: st)) :=
  go_step (fun T L X t S => XT.ixor X.here K.1 rfl (hb K.2.2.2.1 hd) rfl S) hr
theorem g_ishl (K : Kx Z own nm bytes ml rt p s m meth c) (pc : Nat) {x y : Int32} (hd : decode bytes pc = .ok (.ishl, 1))  (hr : Go p l e R s m args below meth c n0 Q h k n (mkF m (pc + 1) Ls (.int (x <<< (y &&& 31)) :: st))) : Go p l e R s m args below meth c n0 Q h k n (mkF m pc Ls (.int y :: .int x :: st)) :=
  go_step (fun T L X t S => XT.ishl X.here K.1 rfl (hb K.2.2.2.1 hd) rfl S) hr
theorem g_ishr (K : Kx Z own nm bytes ml rt p s m meth c) (pc : Nat) {x y : Int32} (hd : decode bytes pc = .ok (.ishr, 1))  (hr : Go p l e R s m args below meth c n0 Q h k n (mkF m (pc + 1) Ls (.int (x >>> (y &&& 31)) :: st))) : Go p l e R s m args below meth c n0 Q h k n (mkF m pc Ls (.int y :: .int x :: st)) :=
  go_step (fun T L X t S => XT.ishr X.here K.1 rfl (hb K.2.2.2.1 hd) rfl S) hr
theorem g_iushr (K : Kx Z own nm bytes ml rt p s m meth c) (pc : Nat) {x y : Int32} (hd : decode bytes pc = .ok (.iushr, 1))  (hr : Go p l e R s m args below meth c n0 Q h k n (mkF m (pc + 1) Ls (.int (XT.ushr x y) :: st))) : Go p l e R s m args below meth c n0 Q h k n (mkF m pc Ls (.int y :: .int x :: st)) :=
  go_step (fun T L X t S => XT.iushr X.here K.1 rfl (hb K.2.2.2.1 hd) rfl S) hr
theorem g_idiv (K : Kx Z own nm bytes ml rt p s m meth c) (pc : Nat) {x y : Int32} (hd : decode bytes pc = .ok (.idiv, 1)) (hy : y ≠ 0) (hr : Go p l e R s m args below meth c n0 Q h k n (mkF m (pc + 1) Ls (.int (x / y) :: st))) : Go p l e R s m args below meth c n0 Q h k n (mkF m pc Ls (.int y :: .int x :: st)) :=
  go_step (fun T L X t S => XS.idiv X.here K.1 rfl (hb K.2.2.2.1 hd) rfl hy S) hr
theorem g_irem (K : Kx Z own nm bytes ml rt p s m meth c) (pc : Nat) {x y : Int32} (hd : decode bytes pc = .ok (.irem, 1)) (hy : y ≠ 0) (hr : Go p l e R s m args below meth c n0 Q h k n (mkF m (pc + 1) Ls (.int (x % y) :: st))) : Go p l e R s m args below meth c n0 Q h k n (mkF m pc Ls (.int y :: .int x :: st)) :=
  go_step (fun T L X t S => iremM X K.1 rfl (hb K.2.2.2.1 hd) rfl hy S) hr
theorem g_ineg (K : Kx Z own nm bytes ml rt p s m meth c) (pc : Nat) {x : Int32} (hd : decode bytes pc = .ok (.ineg, 1))  (hr : Go p l e R s m args below meth c n0 Q h k n (mkF m (pc + 1) Ls (.int (-x) :: st))) : Go p l e R s m args below meth c n0 Q h k n (mkF m pc Ls (.int x :: st)) :=
  go_step (fun T L X t S => XS.ineg X.here K.1 rfl (hb K.2.2.2.1 hd) rfl S) hr
theorem g_ladd (K : Kx Z own nm bytes ml rt p s m meth c) (pc : Nat) {x y : Int64} (hd : decode bytes pc = .ok (.ladd, 1))  (hr : Go p l e R s m args below meth c n0 Q h k n (mkF m (pc + 1) Ls (.long (x + y) :: st))) : Go p l e R s m args below meth c n0 Q h k n (mkF m pc Ls (.long y :: .long x :: st)) :=
  go_step (fun T L X t S => XT.ladd X.here K.1 rfl (hb K.2.2.2.1 hd) rfl S) hr
theorem g_lsub (K : Kx Z own nm bytes ml rt p s m meth c) (pc : Nat) {x y : Int64} (hd : decode bytes pc = .ok (.lsub, 1))  (hr : Go p l e R s m args below meth c n0 Q h k n (mkF m (pc + 1) Ls (.long (x - y) :: st))) : Go p l e R s m args below meth c n0 Q h k n (mkF m pc Ls (.long y :: .long x :: st)) :=
  go_step (fun T L X t S => XT.lsub X.here K.1 rfl (hb K.2.2.2.1 hd) rfl S) hr
theorem g_lmul (K : Kx Z own nm bytes ml rt p s m meth c) (pc : Nat) {x y : Int64} (hd : decode bytes pc = .ok (.lmul, 1))  (hr : Go p l e R s m args below meth c n0 Q h k n (mkF m (pc + 1) Ls (.long (x * y) :: st))) : Go p l e R s m args below meth c n0 Q h k n (mkF m pc Ls (.long y :: .long x :: st)) :=
  go_step (fun T L X t S => XT.lmul X.here K.1 rfl (hb K.2.2.2.1 hd) rfl S) hr
theorem g_land (K : Kx Z own nm bytes ml rt p s m meth c) (pc : Nat) {x y : Int64} (hd : decode bytes pc = .ok (.land, 1))  (hr : Go p l e R s m args below meth c n0 Q h k n (mkF m (pc + 1) Ls (.long (x &&& y) :: st))) : Go p l e R s m args below meth c n0 Q h k n (mkF m pc Ls (.long y :: .long x :: st)) :=
  go_step (fun T L X t S => XT.land X.here K.1 rfl (hb K.2.2.2.1 hd) rfl S) hr
theorem g_lor (K : Kx Z own nm bytes ml rt p s m meth c) (pc : Nat) {x y : Int64} (hd : decode bytes pc = .ok (.lor, 1))  (hr : Go p l e R s m args below meth c n0 Q h k n (mkF m (pc + 1) Ls (.long (x ||| y) :: st))) : Go p l e R s m args below meth c n0 Q h k n (mkF m pc Ls (.long y :: .long x :: st)) :=
  go_step (fun T L X t S => XT.lor X.here K.1 rfl (hb K.2.2.2.1 hd) rfl S) hr
theorem g_lxor (K : Kx Z own nm bytes ml rt p s m meth c) (pc : Nat) {x y : Int64} (hd : decode bytes pc = .ok (.lxor, 1))  (hr : Go p l e R s m args below meth c n0 Q h k n (mkF m (pc + 1) Ls (.long (x ^^^ y) :: st))) : Go p l e R s m args below meth c n0 Q h k n (mkF m pc Ls (.long y :: .long x :: st)) :=
  go_step (fun T L X t S => XT.lxor X.here K.1 rfl (hb K.2.2.2.1 hd) rfl S) hr
theorem g_ldiv (K : Kx Z own nm bytes ml rt p s m meth c) (pc : Nat) {x y : Int64} (hd : decode bytes pc = .ok (.ldiv, 1)) (hy : y ≠ 0) (hr : Go p l e R s m args below meth c n0 Q h k n (mkF m (pc + 1) Ls (.long (x / y) :: st))) : Go p l e R s m args below meth c n0 Q h k n (mkF m pc Ls (.long y :: .long x :: st)) :=
  go_step (fun T L X t S => XT.ldiv X.here K.1 rfl (hb K.2.2.2.1 hd) rfl hy S) hr
theorem g_lshl (K : Kx Z own nm bytes ml rt p s m meth c) (pc : Nat) {x : Int64} {y : Int32} (hd : decode bytes pc = .ok (.lshl, 1))  (hr : Go p l e R s m args below meth c n0 Q h k n (mkF m (pc + 1) Ls (.long (x <<< (y.toInt64 &&& 63)) :: st))) : Go p l e R s m args below meth c n0 Q h k n (mkF m pc Ls (.int y :: .long x :: st)) :=
  go_step (fun T L X t S => XT.lshl X.here K.1 rfl (hb K.2.2.2.1 hd) rfl S) hr
theorem g_lshr (K : Kx Z own nm bytes ml rt p s m meth c) (pc : Nat) {x : Int64} {y : Int32} (hd : decode bytes pc = .ok (.lshr, 1))  (hr : Go p l e R s m args below meth c n0 Q h k n (mkF m (pc + 1) Ls (.long (x >>> (y.toInt64 &&& 63)) :: st))) : Go p l e R s m args below meth c n0 Q h k n (mkF m pc Ls (.int y :: .long x :: st)) :=
  go_step (fun T L X t S => XT.lshr X.here K.1 rfl (hb K.2.2.2.1 hd) rfl S) hr
theorem g_lushr (K : Kx Z own nm bytes ml rt p s m meth c) (pc : Nat) {x : Int64} {y : Int32} (hd : decode bytes pc = .ok (.lushr, 1))  (hr : Go p l e R s m args below meth c n0 Q h k n (mkF m (pc + 1) Ls (.long (XT.ushrL x y) :: st))) : Go p l e R s m args below meth c n0 Q h k n (mkF m pc Ls (.int y :: .long x :: st)) :=
  go_step (fun T L X t S => XT.lushr X.here K.1 rfl (hb K.2.2.2.1 hd) rfl S) hr
theorem g_lneg (K : Kx Z own nm bytes ml rt p s m meth c) (pc : Nat) {x : Int64} (hd : decode bytes pc = .ok (.lneg, 1))  (hr : Go p l e R s m args below meth c n0 Q h k n (mkF m (pc + 1) Ls (.long (-x) :: st))) : Go p l e R s m args below meth c n0 Q h k n (mkF m pc Ls (.long x :: st)) :=
  go_step (fun T L X t S => XT.lneg X.here K.1 rfl (hb K.2.2.2.1 hd) rfl S) hr
theorem g_i2l (K : Kx Z own nm bytes ml rt p s m meth c) (pc : Nat) {x : Int32} (hd : decode bytes pc = .ok (.i2l, 1))  (hr : Go p l e R s m args below meth c n0 Q h k n (mkF m (pc + 1) Ls (.long x.toInt64 :: st))) : Go p l e R s m args below meth c n0 Q h k n (mkF m pc Ls (.int x :: st)) :=
  go_step (fun T L X t S => XT.i2l X.here K.1 rfl (hb K.2.2.2.1 hd) rfl S) hr
theorem g_l2i (K : Kx Z own nm bytes ml rt p s m meth c) (pc : Nat) {x : Int64} (hd : decode bytes pc = .ok (.l2i, 1))  (hr : Go p l e R s m args below meth c n0 Q h k n (mkF m (pc + 1) Ls (.int x.toInt32 :: st))) : Go p l e R s m args below meth c n0 Q h k n (mkF m pc Ls (.long x :: st)) :=
  go_step (fun T L X t S => XT.l2i X.here K.1 rfl (hb K.2.2.2.1 hd) rfl S) hr
theorem g_i2b (K : Kx Z own nm bytes ml rt p s m meth c) (pc : Nat) {x : Int32} (hd : decode bytes pc = .ok (.i2b, 1))  (hr : Go p l e R s m args below meth c n0 Q h k n (mkF m (pc + 1) Ls (.int x.toInt8.toInt32 :: st))) : Go p l e R s m args below meth c n0 Q h k n (mkF m pc Ls (.int x :: st)) :=
  go_step (fun T L X t S => XT.i2b X.here K.1 rfl (hb K.2.2.2.1 hd) rfl S) hr
theorem g_i2s (K : Kx Z own nm bytes ml rt p s m meth c) (pc : Nat) {x : Int32} (hd : decode bytes pc = .ok (.i2s, 1))  (hr : Go p l e R s m args below meth c n0 Q h k n (mkF m (pc + 1) Ls (.int x.toInt16.toInt32 :: st))) : Go p l e R s m args below meth c n0 Q h k n (mkF m pc Ls (.int x :: st)) :=
  go_step (fun T L X t S => XT.i2s X.here K.1 rfl (hb K.2.2.2.1 hd) rfl S) hr
theorem g_lcmp (K : Kx Z own nm bytes ml rt p s m meth c) (pc : Nat) {x y : Int64} (hd : decode bytes pc = .ok (.lcmp, 1))  (hr : Go p l e R s m args below meth c n0 Q h k n (mkF m (pc + 1) Ls (.int (XT.cmpL x y) :: st))) : Go p l e R s m args below meth c n0 Q h k n (mkF m pc Ls (.long y :: .long x :: st)) :=
  go_step (fun T L X t S => XT.lcmp X.here K.1 rfl (hb K.2.2.2.1 hd) rfl S) hr
theorem g_dup (K : Kx Z own nm bytes ml rt p s m meth c) (pc : Nat) {v : Value} (hd : decode bytes pc = .ok (.dup, 1)) (hc : v.category = 1) (hr : Go p l e R s m args below meth c n0 Q h k n (mkF m (pc + 1) Ls (v :: v :: st))) : Go p l e R s m args below meth c n0 Q h k n (mkF m pc Ls (v :: st)) :=
  go_step (fun T L X t S => XS.dup X.here K.1 rfl (hb K.2.2.2.1 hd) rfl hc S) hr
theorem g_pop (K : Kx Z own nm bytes ml rt p s m meth c) (pc : Nat) {v : Value} (hd : decode bytes pc = .ok (.pop, 1)) (hc : v.category = 1) (hr : Go p l e R s m args below meth c n0 Q h k n (mkF m (pc + 1) Ls st)) : Go p l e R s m args below meth c n0 Q h k n (mkF m pc Ls (v :: st)) :=
  go_step (fun T L X t S => XT.pop X.here K.1 rfl (hb K.2.2.2.1 hd) rfl hc S) hr
theorem g_goto (K : Kx Z own nm bytes ml rt p s m meth c) (pc pc' : Nat) {o : Int} (hd : decode bytes pc = .ok (.goto o, 3)) (ho : 0 ≤ (pc : Int) + o) (hp : ((pc : Int) + o).toNat = pc') (hr : Go p l e R s m args below meth c n0 Q h k n (mkF m pc' Ls st)) : Go p l e R s m args below meth c n0 Q h k n (mkF m pc Ls st) :=
  go_step (fun T L X t S => XS.goto X.here K.1 rfl rfl (hb K.2.2.2.1 hd) ho hp S) hr
theorem g_if_eq (K : Kx Z own nm bytes ml rt p s m meth c) (pc pc' : Nat) {o : Int} {x : Int32} (hd : decode bytes pc = .ok (.ifCond .eq o, 3)) (ho : 0 ≤ (pc : Int) + o) (hp : ((pc : Int) + o).toNat = pc') (hT : x = 0 → Go p l e R s m args below meth c n0 Q h k n (mkF m pc' Ls st)) (hF : ¬ x = 0 → Go p l e R s m args below meth c n0 Q h k n (mkF m (pc + 3) Ls st)) : Go p l e R s m args below meth c n0 Q h k n (mkF m pc Ls (.int x :: st)) := by
  by_cases q : x = 0
  · exact go_step (fun T L X t S => XS.ifYes X.here K.1 rfl rfl (hb K.2.2.2.1 hd) rfl (XT.i0_eq_t q) ho hp S) (hT q)
  · exact go_step (fun T L X t S => XS.ifNo X.here K.1 rfl (hb K.2.2.2.1 hd) rfl (XT.i0_eq_f q) S) (hF q)
theorem g_ii_eq (K : Kx Z own nm bytes ml rt p s m meth c) (pc pc' : Nat) {o : Int} {x y : Int32} (hd : decode bytes pc = .ok (.if_icmp .eq o, 3)) (ho : 0 ≤ (pc : Int) + o) (hp : ((pc : Int) + o).toNat = pc') (hT : x = y → Go p l e R s m args below meth c n0 Q h k n (mkF m pc' Ls st)) (hF : ¬ x = y → Go p l e R s m args below meth c n0 Q h k n (mkF m (pc + 3) Ls st)) : Go p l e R s m args below meth c n0 Q h k n (mkF m pc Ls (.int y :: .int x :: st)) := by
  by_cases q : x = y
  · exact go_step (fun T L X t S => XS.icmpYes X.here K.1 rfl rfl (hb K.2.2.2.1 hd) rfl (XT.ii_eq_t q) ho hp S) (hT q)
  · exact go_step (fun T L X t S => XS.icmpNo X.here K.1 rfl (hb K.2.2.2.1 hd) rfl (XT.ii_eq_f q) S) (hF q)
theorem g_ll_eq (K : Kx Z own nm bytes ml rt p s m meth c) (pc pc' : Nat) {o : Int} {x y : Int64} (hd : decode bytes pc = .ok (.ifCond .eq o, 3)) (ho : 0 ≤ (pc : Int) + o) (hp : ((pc : Int) + o).toNat = pc') (hT : x = y → Go p l e R s m args below meth c n0 Q h k n (mkF m pc' Ls st)) (hF : ¬ x = y → Go p l e R s m args below meth c n0 Q h k n (mkF m (pc + 3) Ls st)) : Go p l e R s m args below meth c n0 Q h k n (mkF m pc Ls (.int (XT.cmpL x y) :: st)) := by
  by_cases q : x = y
  · exact go_step (fun T L X t S => XS.ifYes X.here K.1 rfl rfl (hb K.2.2.2.1 hd) rfl (XT.ll_eq_t q) ho hp S) (hT q)
  · exact go_step (fun T L X t S => XS.ifNo X.here K.1 rfl (hb K.2.2.2.1 hd) rfl (XT.ll_eq_f q) S) (hF q)
theorem g_if_ne (K : Kx Z own nm bytes ml rt p s m meth c) (pc pc' : Nat) {o : Int} {x : Int32} (hd : decode bytes pc = .ok (.ifCond .ne o, 3)) (ho : 0 ≤ (pc : Int) + o) (hp : ((pc : Int) + o).toNat = pc') (hT : ¬ x = 0 → Go p l e R s m args below meth c n0 Q h k n (mkF m pc' Ls st)) (hF : x = 0 → Go p l e R s m args below meth c n0 Q h k n (mkF m (pc + 3) Ls st)) : Go p l e R s m args below meth c n0 Q h k n (mkF m pc Ls (.int x :: st)) := by
  by_cases q : x = 0
  · exact go_step (fun T L X t S => XS.ifNo X.here K.1 rfl (hb K.2.2.2.1 hd) rfl (XT.i0_ne_f q) S) (hF q)
  · exact go_step (fun T L X t S => XS.ifYes X.here K.1 rfl rfl (hb K.2.2.2.1 hd) rfl (XT.i0_ne_t q) ho hp S) (hT q)
theorem g_ii_ne (K : Kx Z own nm bytes ml rt p s m meth c) (pc pc' : Nat) {o : Int} {x y : Int32} (hd : decode bytes pc = .ok (.if_icmp .ne o, 3)) (ho : 0 ≤ (pc : Int) + o) (hp : ((pc : Int) + o).toNat = pc') (hT : ¬ x = y → Go p l e R s m args below meth c n0 Q h k n (mkF m pc' Ls st)) (hF : x = y → Go p l e R s m args below meth c n0 Q h k n (mkF m (pc + 3) Ls st)) : Go p l e R s m args below meth c n0 Q h k n (mkF m pc Ls (.int y :: .int x :: st)) := by
  by_cases q : x = y
  · exact go_step (fun T L X t S => XS.icmpNo X.here K.1 rfl (hb K.2.2.2.1 hd) rfl (XT.ii_ne_f q) S) (hF q)
  · exact go_step (fun T L X t S => XS.icmpYes X.here K.1 rfl rfl (hb K.2.2.2.1 hd) rfl (XT.ii_ne_t q) ho hp S) (hT q)
theorem g_ll_ne (K : Kx Z own nm bytes ml rt p s m meth c) (pc pc' : Nat) {o : Int} {x y : Int64} (hd : decode bytes pc = .ok (.ifCond .ne o, 3)) (ho : 0 ≤ (pc : Int) + o) (hp : ((pc : Int) + o).toNat = pc') (hT : ¬ x = y → Go p l e R s m args below meth c n0 Q h k n (mkF m pc' Ls st)) (hF : x = y → Go p l e R s m args below meth c n0 Q h k n (mkF m (pc + 3) Ls st)) : Go p l e R s m args below meth c n0 Q h k n (mkF m pc Ls (.int (XT.cmpL x y) :: st)) := by
  by_cases q : x = y
  · exact go_step (fun T L X t S => XS.ifNo X.here K.1 rfl (hb K.2.2.2.1 hd) rfl (XT.ll_ne_f q) S) (hF q)
  · exact go_step (fun T L X t S => XS.ifYes X.here K.1 rfl rfl (hb K.2.2.2.1 hd) rfl (XT.ll_ne_t q) ho hp S) (hT q)
theorem g_if_lt (K : Kx Z own nm bytes ml rt p s m meth c) (pc pc' : Nat) {o : Int} {x : Int32} (hd : decode bytes pc = .ok (.ifCond .lt o, 3)) (ho : 0 ≤ (pc : Int) + o) (hp : ((pc : Int) + o).toNat = pc') (hT : x < 0 → Go p l e R s m args below meth c n0 Q h k n (mkF m pc' Ls st)) (hF : ¬ x < 0 → Go p l e R s m args below meth c n0 Q h k n (mkF m (pc + 3) Ls st)) : Go p l e R s m args below meth c n0 Q h k n (mkF m pc Ls (.int x :: st)) := by
  by_cases q : x < 0
  · exact go_step (fun T L X t S => XS.ifYes X.here K.1 rfl rfl (hb K.2.2.2.1 hd) rfl (XT.i0_lt_t q) ho hp S) (hT q)
  · exact go_step (fun T L X t S => XS.ifNo X.here K.1 rfl (hb K.2.2.2.1 hd) rfl (XT.i0_lt_f q) S) (hF q)
theorem g_ii_lt (K : Kx Z own nm bytes ml rt p s m meth c) (pc pc' : Nat) {o : Int} {x y : Int32} (hd : decode bytes pc = .ok (.if_icmp .lt o, 3)) (ho : 0 ≤ (pc : Int) + o) (hp : ((pc : Int) + o).toNat = pc') (hT : x < y → Go p l e R s m args below meth c n0 Q h k n (mkF m pc' Ls st)) (hF : ¬ x < y → Go p l e R s m args below meth c n0 Q h k n (mkF m (pc + 3) Ls st)) : Go p l e R s m args below meth c n0 Q h k n (mkF m pc Ls (.int y :: .int x :: st)) := by
  by_cases q : x < y
  · exact go_step (fun T L X t S => XS.icmpYes X.here K.1 rfl rfl (hb K.2.2.2.1 hd) rfl (XT.ii_lt_t q) ho hp S) (hT q)
  · exact go_step (fun T L X t S => XS.icmpNo X.here K.1 rfl (hb K.2.2.2.1 hd) rfl (XT.ii_lt_f q) S) (hF q)
theorem g_ll_lt (K : Kx Z own nm bytes ml rt p s m meth c) (pc pc' : Nat) {o : Int} {x y : Int64} (hd : decode bytes pc = .ok (.ifCond .lt o, 3)) (ho : 0 ≤ (pc : Int) + o) (hp : ((pc : Int) + o).toNat = pc') (hT : x < y → Go p l e R s m args below meth c n0 Q h k n (mkF m pc' Ls st)) (hF : ¬ x < y → Go p l e R s m args below meth c n0 Q h k n (mkF m (pc + 3) Ls st)) : Go p l e R s m args below meth c n0 Q h k n (mkF m pc Ls (.int (XT.cmpL x y) :: st)) := by
  by_cases q : x < y
  · exact go_step (fun T L X t S => XS.ifYes X.here K.1 rfl rfl (hb K.2.2.2.1 hd) rfl (XT.ll_lt_t q) ho hp S) (hT q)
  · exact go_step (fun T L X t S => XS.ifNo X.here K.1 rfl (hb K.2.2.2.1 hd) rfl (XT.ll_lt_f q) S) (hF q)
theorem g_if_ge (K : Kx Z own nm bytes ml rt p s m meth c) (pc pc' : Nat) {o : Int} {x : Int32} (hd : decode bytes pc = .ok (.ifCond .ge o, 3)) (ho : 0 ≤ (pc : Int) + o) (hp : ((pc : Int) + o).toNat = pc') (hT : ¬ x < 0 → Go p l e R s m args below meth c n0 Q h k n (mkF m pc' Ls st)) (hF : x < 0 → Go p l e R s m args below meth c n0 Q h k n (mkF m (pc + 3) Ls st)) : Go p l e R s m args below meth c n0 Q h k n (mkF m pc Ls (.int x :: st)) := by
  by_cases q : x < 0
  · exact go_step (fun T L X t S => XS.ifNo X.here K.1 rfl (hb K.2.2.2.1 hd) rfl (XT.i0_ge_f q) S) (hF q)
  · exact go_step (fun T L X t S => XS.ifYes X.here K.1 rfl rfl (hb K.2.2.2.1 hd) rfl (XT.i0_ge_t q) ho hp S) (hT q)
theorem g_ii_ge (K : Kx Z own nm bytes ml rt p s m meth c) (pc pc' : Nat) {o : Int} {x y : Int32} (hd : decode bytes pc = .ok (.if_icmp .ge o, 3)) (ho : 0 ≤ (pc : Int) + o) (hp : ((pc : Int) + o).toNat = pc') (hT : ¬ x < y → Go p l e R s m args below meth c n0 Q h k n (mkF m pc' Ls st)) (hF : x < y → Go p l e R s m args below meth c n0 Q h k n (mkF m (pc + 3) Ls st)) : Go p l e R s m args below meth c n0 Q h k n (mkF m pc Ls (.int y :: .int x :: st)) := by
  by_cases q : x < y
  · exact go_step (fun T L X t S => XS.icmpNo X.here K.1 rfl (hb K.2.2.2.1 hd) rfl (XT.ii_ge_f q) S) (hF q)
  · exact go_step (fun T L X t S => XS.icmpYes X.here K.1 rfl rfl (hb K.2.2.2.1 hd) rfl (XT.ii_ge_t q) ho hp S) (hT q)
theorem g_ll_ge (K : Kx Z own nm bytes ml rt p s m meth c) (pc pc' : Nat) {o : Int} {x y : Int64} (hd : decode bytes pc = .ok (.ifCond .ge o, 3)) (ho : 0 ≤ (pc : Int) + o) (hp : ((pc : Int) + o).toNat = pc') (hT : ¬ x < y → Go p l e R s m args below meth c n0 Q h k n (mkF m pc' Ls st)) (hF : x < y → Go p l e R s m args below meth c n0 Q h k n (mkF m (pc + 3) Ls st)) : Go p l e R s m args below meth c n0 Q h k n (mkF m pc Ls (.int (XT.cmpL x y) :: st)) := by
  by_cases q : x < y
  · exact go_step (fun T L X t S => XS.ifNo X.here K.1 rfl (hb K.2.2.2.1 hd) rfl (XT.ll_ge_f q) S) (hF q)
  · exact go_step (fun T L X t S => XS.ifYes X.here K.1 rfl rfl (hb K.2.2.2.1 hd) rfl (XT.ll_ge_t q) ho hp S) (hT q)
theorem g_if_gt (K : Kx Z own nm bytes ml rt p s m meth c) (pc pc' : Nat) {o : Int} {x : Int32} (hd : decode bytes pc = .ok (.ifCond .gt o, 3)) (ho : 0 ≤ (pc : Int) + o) (hp : ((pc : Int) + o).toNat = pc') (hT : 0 < x → Go p l e R s m args below meth c n0 Q h k n (mkF m pc' Ls st)) (hF : ¬ 0 < x → Go p l e R s m args below meth c n0 Q h k n (mkF m (pc + 3) Ls st)) : Go p l e R s m args below meth c n0 Q h k n (mkF m pc Ls (.int x :: st)) := by
  by_cases q : 0 < x
  · exact go_step (fun T L X t S => XS.ifYes X.here K.1 rfl rfl (hb K.2.2.2.1 hd) rfl (XT.i0_gt_t q) ho hp S) (hT q)
  · exact go_step (fun T L X t S => XS.ifNo X.here K.1 rfl (hb K.2.2.2.1 hd) rfl (XT.i0_gt_f q) S) (hF q)
theorem g_ii_gt (K : Kx Z own nm bytes ml rt p s m meth c) (pc pc' : Nat) {o : Int} {x y : Int32} (hd : decode bytes pc = .ok (.if_icmp .gt o, 3)) (ho : 0 ≤ (pc : Int) + o) (hp : ((pc : Int) + o).toNat = pc') (hT : y < x → Go p l e R s m args below meth c n0 Q h k n (mkF m pc' Ls st)) (hF : ¬ y < x → Go p l e R s m args below meth c n0 Q h k n (mkF m (pc + 3) Ls st)) : Go p l e R s m args below meth c n0 Q h k n (mkF m pc Ls (.int y :: .int x :: st)) := by
  by_cases q : y < x
  · exact go_step (fun T L X t S => XS.icmpYes X.here K.1 rfl rfl (hb K.2.2.2.1 hd) rfl (XT.ii_gt_t q) ho hp S) (hT q)
  · exact go_step (fun T L X t S => XS.icmpNo X.here K.1 rfl (hb K.2.2.2.1 hd) rfl (XT.ii_gt_f q) S) (hF q)
theorem g_ll_gt (K : Kx Z own nm bytes ml rt p s m meth c) (pc pc' : Nat) {o : Int} {x y : Int64} (hd : decode bytes pc = .ok (.ifCond .gt o, 3)) (ho : 0 ≤ (pc : Int) + o) (hp : ((pc : Int) + o).toNat = pc') (hT : y < x → Go p l e R s m args below meth c n0 Q h k n (mkF m pc' Ls st)) (hF : ¬ y < x → Go p l e R s m args below meth c n0 Q h k n (mkF m (pc + 3) Ls st)) : Go p l e R s m args below meth c n0 Q h k n (mkF m pc Ls (.int (XT.cmpL x y) :: st)) := by
  by_cases q : y < x
  · exact go_step (fun T L X t S => XS.ifYes X.here K.1 rfl rfl (hb K.2.2.2.1 hd) rfl (XT.ll_gt_t q) ho hp S) (hT q)
  · exact go_step (fun T L X t S => XS.ifNo X.here K.1 rfl (hb K.2.2.2.1 hd) rfl (XT.ll_gt_f q) S) (hF q)
theorem g_if_le (K : Kx Z own nm bytes ml rt p s m meth c) (pc pc' : Nat) {o : Int} {x : Int32} (hd : decode bytes pc = .ok (.ifCond .le o, 3)) (ho : 0 ≤ (pc : Int) + o) (hp : ((pc : Int) + o).toNat = pc') (hT : ¬ 0 < x → Go p l e R s m args below meth c n0 Q h k n (mkF m pc' Ls st)) (hF : 0 < x → Go p l e R s m args below meth c n0 Q h k n (mkF m (pc + 3) Ls st)) : Go p l e R s m args below meth c n0 Q h k n (mkF m pc Ls (.int x :: st)) := by
  by_cases q : 0 < x
  · exact go_step (fun T L X t S => XS.ifNo X.here K.1 rfl (hb K.2.2.2.1 hd) rfl (XT.i0_le_f q) S) (hF q)
  · exact go_step (fun T L X t S => XS.ifYes X.here K.1 rfl rfl (hb K.2.2.2.1 hd) rfl (XT.i0_le_t q) ho hp S) (hT q)
theorem g_ii_le (K : Kx Z own nm bytes ml rt p s m meth c) (pc pc' : Nat) {o : Int} {x y : Int32} (hd : decode bytes pc = .ok (.if_icmp .le o, 3)) (ho : 0 ≤ (pc : Int) + o) (hp : ((pc : Int) + o).toNat = pc') (hT : ¬ y < x → Go p l e R s m args below meth c n0 Q h k n (mkF m pc' Ls st)) (hF : y < x → Go p l e R s m args below meth c n0 Q h k n (mkF m (pc + 3) Ls st)) : Go p l e R s m args below meth c n0 Q h k n (mkF m pc Ls (.int y :: .int x :: st)) := by
  by_cases q : y < x
  · exact go_step (fun T L X t S => XS.icmpNo X.here K.1 rfl (hb K.2.2.2.1 hd) rfl (XT.ii_le_f q) S) (hF q)
  · exact go_step (fun T L X t S => XS.icmpYes X.here K.1 rfl rfl (hb K.2.2.2.1 hd) rfl (XT.ii_le_t q) ho hp S) (hT q)
theorem g_ll_le (K : Kx Z own nm bytes ml rt p s m meth c) (pc pc' : Nat) {o : Int} {x y : Int64} (hd : decode bytes pc = .ok (.ifCond .le o, 3)) (ho : 0 ≤ (pc : Int) + o) (hp : ((pc : Int) + o).toNat = pc') (hT : ¬ y < x → Go p l e R s m args below meth c n0 Q h k n (mkF m pc' Ls st)) (hF : y < x → Go p l e R s m args below meth c n0 Q h k n (mkF m (pc + 3) Ls st)) : Go p l e R s m args below meth c n0 Q h k n (mkF m pc Ls (.int (XT.cmpL x y) :: st)) := by
  by_cases q : y < x
  · exact go_step (fun T L X t S => XS.ifNo X.here K.1 rfl (hb K.2.2.2.1 hd) rfl (XT.ll_le_f q) S) (hF q)
  · exact go_step (fun T L X t S => XS.ifYes X.here K.1 rfl rfl (hb K.2.2.2.1 hd) rfl (XT.ll_le_t q) ho hp S) (hT q)
theorem g_aa_eq (K : Kx Z own nm bytes ml rt p s m meth c) (pc pc' : Nat) {o : Int} {x y : Value} (hx' : x.isRef = true) (hy' : y.isRef = true) (hd : decode bytes pc = .ok (.if_acmp .eq o, 3)) (ho : 0 ≤ (pc : Int) + o) (hp : ((pc : Int) + o).toNat = pc') (hT : x = y → Go p l e R s m args below meth c n0 Q h k n (mkF m pc' Ls st)) (hF : ¬ x = y → Go p l e R s m args below meth c n0 Q h k n (mkF m (pc + 3) Ls st)) : Go p l e R s m args below meth c n0 Q h k n (mkF m pc Ls (y :: x :: st)) := by
  by_cases q : x = y
  · exact go_step (fun T L X t S => XT.acmpYes X.here K.1 rfl rfl (hb K.2.2.2.1 hd) rfl hx' hy' (XT.aa_eq_t q) ho hp S) (hT q)
  · exact go_step (fun T L X t S => XT.acmpNo X.here K.1 rfl (hb K.2.2.2.1 hd) rfl hx' hy' (XT.aa_eq_f q) S) (hF q)
theorem g_aa_ne (K : Kx Z own nm bytes ml rt p s m meth c) (pc pc' : Nat) {o : Int} {x y : Value} (hx' : x.isRef = true) (hy' : y.isRef = true) (hd : decode bytes pc = .ok (.if_acmp .ne o, 3)) (ho : 0 ≤ (pc : Int) + o) (hp : ((pc : Int) + o).toNat = pc') (hT : ¬ x = y → Go p l e R s m args below meth c n0 Q h k n (mkF m pc' Ls st)) (hF : x = y → Go p l e R s m args below meth c n0 Q h k n (mkF m (pc + 3) Ls st)) : Go p l e R s m args below meth c n0 Q h k n (mkF m pc Ls (y :: x :: st)) := by
  by_cases q : x = y
  · exact go_step (fun T L X t S => XT.acmpNo X.here K.1 rfl (hb K.2.2.2.1 hd) rfl hx' hy' (XT.aa_ne_f q) S) (hF q)
  · exact go_step (fun T L X t S => XT.acmpYes X.here K.1 rfl rfl (hb K.2.2.2.1 hd) rfl hx' hy' (XT.aa_ne_t q) ho hp S) (hT q)
theorem g_ifnull_ref (K : Kx Z own nm bytes ml rt p s m meth c) (pc : Nat) {o : Int} {b : Addr} (hd : decode bytes pc = .ok (.ifnull o, 3)) (hr : Go p l e R s m args below meth c n0 Q h k n (mkF m (pc + 3) Ls st)) : Go p l e R s m args below meth c n0 Q h k n (mkF m pc Ls (.ref b :: st)) :=
  go_step (fun T L X t S => XS.ifnullNo X.here K.1 rfl (hb K.2.2.2.1 hd) rfl S) hr
theorem g_ifnull_null (K : Kx Z own nm bytes ml rt p s m meth c) (pc pc' : Nat) {o : Int} (hd : decode bytes pc = .ok (.ifnull o, 3)) (ho : 0 ≤ (pc : Int) + o) (hp : ((pc : Int) + o).toNat = pc') (hr : Go p l e R s m args below meth c n0 Q h k n (mkF m pc' Ls st)) : Go p l e R s m args below meth c n0 Q h k n (mkF m pc Ls (.null :: st)) :=
  go_step (fun T L X t S => XS.ifnullYes X.here K.1 rfl rfl (hb K.2.2.2.1 hd) rfl ho hp S) hr
theorem g_ldc (K : Kx Z own nm bytes ml rt p s m meth c) (pc : Nat) {i : Nat} {v : Int32} (hd : decode bytes pc = .ok (.ldc i, 2)) (w : (Jvm.Cond.constant own i v).before a0 Z = true) (hr : Go p l e R s m args below meth c n0 Q h k n (mkF m (pc + 2) Ls (.int v :: st))) : Go p l e R s m args below meth c n0 Q h k n (mkF m pc Ls st) :=
  go_step (fun T L X t S => X.ldcI K.1 K.2.2.1 (mvT K.2.1 w) rfl (hb K.2.2.2.1 hd) S) hr
theorem g_ldc_w (K : Kx Z own nm bytes ml rt p s m meth c) (pc : Nat) {i : Nat} {v : Int32} (hd : decode bytes pc = .ok (.ldc_w i, 3)) (w : (Jvm.Cond.constant own i v).before a0 Z = true) (hr : Go p l e R s m args below meth c n0 Q h k n (mkF m (pc + 3) Ls (.int v :: st))) : Go p l e R s m args below meth c n0 Q h k n (mkF m pc Ls st) :=
  go_step (fun T L X t S => X.ldcWI K.1 K.2.2.1 (mvT K.2.1 w) rfl (hb K.2.2.2.1 hd) S) hr
theorem g_ldc2_w (K : Kx Z own nm bytes ml rt p s m meth c) (pc : Nat) {i : Nat} {v : Int64} (hd : decode bytes pc = .ok (.ldc2_w i, 3)) (w : (Jvm.Cond.constantLong own i v).before a0 Z = true) (hr : Go p l e R s m args below meth c n0 Q h k n (mkF m (pc + 3) Ls (.long v :: st))) : Go p l e R s m args below meth c n0 Q h k n (mkF m pc Ls st) :=
  go_step (fun T L X t S => X.ldc2J K.1 K.2.2.1 (mvT K.2.1 w) rfl (hb K.2.2.2.1 hd) S) hr
theorem g_ireturn (K : Kx Z own nm bytes ml rt p s m meth c) (pc : Nat) {z : Int32} (hd : decode bytes pc = .ok (.ireturn, 1)) (hrt : rt = some .int)  (hk : k ≤ R.cells) (hn : n ≤ R.slots) (hq : Q (some (.int z)) h) : Go p l e R s m args below meth c n0 Q h k n (mkF m pc Ls [.int z]) := by
  intro T L X eT N
  obtain ⟨fs, hr, hrun, hended, hW, hsame⟩ := X.leave (v := some (.int z)) (fun hh => by first | rfl | (rw [K.2.2.2.2.2.1, hrt] at hh; cases hh)) K.2.2.2.2.2.2.1
  refine ⟨_, _, X.ireturnOut K.1 (K.2.2.2.2.2.1.trans hrt) rfl (Or.inl rfl) (hb K.2.2.2.1 hd) hr, hrun, hended, _, L, rfl, ⟨?_, N⟩, ⟨_, rfl⟩, hW, hsame.mono hk hn⟩
  show Q _ T.heap
  rw [eT]; exact hq
theorem g_retN (K : Kx Z own nm bytes ml rt p s m meth c) (pc : Nat) {z : Int32} (t : FieldType) (hd : decode bytes pc = .ok (.ireturn, 1)) (hrt : rt = some t) (ht : t = .boolean ∨ t = .byte ∨ t = .char ∨ t = .short) (hk : k ≤ R.cells) (hn : n ≤ R.slots) (hq : Q (some (.int (nar t z))) h) : Go p l e R s m args below meth c n0 Q h k n (mkF m pc Ls (.int z :: st)) := by
  intro T L X eT N
  obtain ⟨fs, hr, hrun, hended, hW, hsame⟩ := X.leave (v := some (.int (nar t z))) (fun hh => by first | rfl | (rw [K.2.2.2.2.2.1, hrt] at hh; cases hh)) K.2.2.2.2.2.2.1
  refine ⟨_, _, retN X K.1 (K.2.2.2.2.2.1.trans hrt) ht (hb K.2.2.2.1 hd) hr, hrun, hended, _, L, rfl, ⟨?_, N⟩, ⟨_, rfl⟩, hW, hsame.mono hk hn⟩
  show Q _ T.heap
  rw [eT]; exact hq
theorem g_lreturn (K : Kx Z own nm bytes ml rt p s m meth c) (pc : Nat) {z : Int64} (hd : decode bytes pc = .ok (.lreturn, 1)) (hrt : rt = some .long)  (hk : k ≤ R.cells) (hn : n ≤ R.slots) (hq : Q (some (.long z)) h) : Go p l e R s m args below meth c n0 Q h k n (mkF m pc Ls [.long z]) := by
  intro T L X eT N
  obtain ⟨fs, hr, hrun, hended, hW, hsame⟩ := X.leave (v := some (.long z)) (fun hh => by first | rfl | (rw [K.2.2.2.2.2.1, hrt] at hh; cases hh)) K.2.2.2.2.2.2.1
  refine ⟨_, _, X.lreturnOut K.1 (K.2.2.2.2.2.1.trans hrt) (hb K.2.2.2.1 hd) hr, hrun, hended, _, L, rfl, ⟨?_, N⟩, ⟨_, rfl⟩, hW, hsame.mono hk hn⟩
  show Q _ T.heap
  rw [eT]; exact hq
theorem g_areturn (K : Kx Z own nm bytes ml rt p s m meth c) (pc : Nat) {w : Value} (t : FieldType) (hd : decode bytes pc = .ok (.areturn, 1)) (hrt : rt = some t) (hw : w.isRef = true) (ht : t.isReference = true) (hk : k ≤ R.cells) (hn : n ≤ R.slots) (hq : Q (some w) h) : Go p l e R s m args below meth c n0 Q h k n (mkF m pc Ls [w]) := by
  intro T L X eT N
  obtain ⟨fs, hr, hrun, hended, hW, hsame⟩ := X.leave (v := some w) (fun hh => by first | rfl | (rw [K.2.2.2.2.2.1, hrt] at hh; cases hh)) K.2.2.2.2.2.2.1
  refine ⟨_, _, X.areturnOut K.1 hw (K.2.2.2.2.2.1.trans hrt) ht (hb K.2.2.2.1 hd) hr, hrun, hended, _, L, rfl, ⟨?_, N⟩, ⟨_, rfl⟩, hW, hsame.mono hk hn⟩
  show Q _ T.heap
  rw [eT]; exact hq
theorem g_return (K : Kx Z own nm bytes ml rt p s m meth c) (pc : Nat)  (hd : decode bytes pc = .ok (.return_, 1)) (hrt : rt = none)  (hk : k ≤ R.cells) (hn : n ≤ R.slots) (hq : Q none h) : Go p l e R s m args below meth c n0 Q h k n (mkF m pc Ls []) := by
  intro T L X eT N
  obtain ⟨fs, hr, hrun, hended, hW, hsame⟩ := X.leave (v := none) (fun hh => by first | rfl | (rw [K.2.2.2.2.2.1, hrt] at hh; cases hh)) K.2.2.2.2.2.2.1
  refine ⟨_, _, X.returnOut K.1 (K.2.2.2.2.2.1.trans hrt) (hb K.2.2.2.1 hd) hr, hrun, hended, _, L, rfl, ⟨?_, N⟩, ⟨_, rfl⟩, hW, hsame.mono hk hn⟩
  show Q _ T.heap
  rw [eT]; exact hq
theorem g_getfield (K : Kx Z own nm bytes ml rt p s m meth c) (pc : Nat) {i : Nat} {C f d : String} {a : Addr} {v : Value} (hd : decode bytes pc = .ok (.getfield i, 3)) (w : (Jvm.Cond.fieldLink own i C f d).before a0 Z = true) (F : Fld Z h a C f d v) (hr : Go p l e R s m args below meth c n0 Q h k n (mkF m (pc + 3) Ls (v :: st))) : Go p l e R s m args below meth c n0 Q h k n (mkF m pc Ls (.ref a :: st)) := by
  intro T L X eT N
  obtain ⟨T', X', e', stp⟩ := getF X K.1 K.2.1 K.2.2.1 (host := "") (Or.inl w) Via.refl eT F (g := mkF m pc Ls (.ref a :: st)) rfl rfl (hb K.2.2.2.1 hd)
  obtain ⟨s₂, o, S, r⟩ := hr T' L X' e' N
  exact ⟨s₂, o, stp _ S, r⟩
theorem g_putfield (K : Kx Z own nm bytes ml rt p s m meth c) (pc : Nat) {i kk : Nat} {C f d : String} {a : Addr} {v old : Value} (ty : FieldType) (hd : decode bytes pc = .ok (.putfield i, 3)) (w : (Jvm.Cond.fieldLink own i C f d).before a0 Z = true) (F : Fld Z h a C f d old) (E : Exa Z h a C) (Lw : (Jvm.Cond.lays C C f d).before a0 Z = true ∨ ((Jvm.Cond.laysFinal C C f d).before a0 Z = true ∧ own = C ∧ nm = "<init>")) (wi : (Jvm.Cond.instantiable C kk).before a0 Z = true) (hty : parseFieldDescriptor d = some ty) (hnv : narrow ty v = v) (hfv : fits ty v = true) (ha : n0 ≤ a) (hr : ∀ h', Wr h h' a (Jvm.RoadKit.slotOf Z C f d) v → Keep h h' [a] → Go p l e R s m args below meth c n0 Q h' k n (mkF m (pc + 3) Ls st)) : Go p l e R s m args below meth c n0 Q h k n (mkF m pc Ls (v :: .ref a :: st)) := by
  intro T L X eT N
  obtain ⟨T', h', X', e', W, stp⟩ := putF X K.1 K.2.1 K.2.2.1 (host := "") (Or.inl w) Via.refl eT F E (Lw.imp id fun q => ⟨q.1, q.2.1, K.2.2.2.2.2.2.2.trans q.2.2⟩) wi hty hnv hfv (g := mkF m pc Ls (v :: .ref a :: st)) rfl rfl (hb K.2.2.2.1 hd)
  obtain ⟨s₂, o, S, r⟩ := hr h' W (Keep.of_wr W) T' _ X' e' (Fr.snoc X' N ha)
  exact ⟨s₂, o, stp _ S, r⟩
theorem g_new (K : Kx Z own nm bytes ml rt p s m meth c) (pc : Nat) {i kk : Nat} {C : String} (hd : decode bytes pc = .ok (.new i, 3)) (w : (Jvm.Cond.classLink own i C).before a0 Z = true) (wi : (Jvm.Cond.instantiable C kk).before a0 Z = true) (wz : (Jvm.Cond.initialized C).before a0 Z = true) (hk : k + 1 ≤ R.cells) (hn : n + kk ≤ R.slots) (hr : ∀ h' a, a = h.size → Keep h h' [] → Exa Z h' a C → (∀ {O f d : String} {ty : FieldType}, Laid Z a0 C O f d → parseFieldDescriptor d = some ty → Fld Z h' a O f d (defaultValue ty)) → Go p l e R s m args below meth c n0 Q h' (k + 1) (n + kk) (mkF m (pc + 3) Ls (.ref a :: st))) : Go p l e R s m args below meth c n0 Q h k n (mkF m pc Ls st) := by
  intro T L X eT N
  obtain ⟨T', h', X', e', E, A, D, -, stp⟩ := newO X K.1 K.2.1 K.2.2.1 w wi wz eT (g := mkF m pc Ls st) rfl (hb K.2.2.2.1 hd) hk hn
  obtain ⟨s₂, o, S, r⟩ := hr h' h.size rfl (keep_ext E) A D T' L X' e' N
  exact ⟨s₂, o, stp _ S, r⟩
theorem g_initO (K : Kx Z own nm bytes ml rt p s m meth c) (pc : Nat) {i : Nat} {a : Addr} (hd : decode bytes pc = .ok (.invokespecial i, 3)) (w1 : (Jvm.Cond.methodLink own i Lib.objectInit).before a0 Z = true) (w2 : (Jvm.Cond.instanceMethod Lib.objectInit).before a0 Z = true) (w3 : (Jvm.Cond.code Lib.objectInit ⟨#[0xb1]⟩ 1 none).before a0 Z = true) (hls : Ls.size = ml) (hf : 1 ≤ R.frames) (W : Nat) (hW : (st.map fun v => v.category).sum ≤ W) (hlo : W + 12 ≤ R.locals) (hr : Go p l e R s m args below meth c n0 Q h k n (mkF m (pc + 3) Ls st)) : Go p l e R s m args below meth c n0 Q h k n (mkF m pc Ls (.ref a :: st)) := by
  intro T L X eT N
  obtain ⟨T', X', e', stp⟩ := initO X K.1 K.2.1 K.2.2.1 w1 w2 w3 eT (g := mkF m pc Ls (.ref a :: st)) rfl (hls.trans K.2.2.2.2.1.symm) rfl (hb K.2.2.2.1 hd) hf (W := W) (by show 2 * 0 + _ ≤ _; omega) hlo
  obtain ⟨s₂, o, S, r⟩ := hr T' L X' e' N
  exact ⟨s₂, o, stp _ S, r⟩
theorem g_newI (K : Kx Z own nm bytes ml rt p s m meth c) (pc : Nat) {aty : ArrayType} {z : Int32} (ty : FieldType) (hd : decode bytes pc = .ok (.newarray aty, 2)) (hty : newarray.typeOf aty = ty) (hdef : defaultValue ty = .int 0) (w : (Jvm.Cond.arrayClass ty).before a0 Z = true) (hz : ¬ z < 0) (cap : Nat) (hcap : z.toNatClampNeg ≤ cap) (hb8 : cap * 8 ≤ 536870912) (hk : k + 1 ≤ R.cells) (hn : n + cap ≤ R.slots) (hr : ∀ h' a, a = h.size → Keep h h' [] → IA Z h' a ty (List.replicate z.toNatClampNeg 0) → Go p l e R s m args below meth c n0 Q h' (k + 1) (n + cap) (mkF m (pc + 2) Ls (.ref a :: st))) : Go p l e R s m args below meth c n0 Q h k n (mkF m pc Ls (.int z :: st)) := by
  subst hty
  intro T L X eT N
  obtain ⟨T', h', cA, X', e', E, A, stp⟩ := newP X K.1 K.2.1 w eT (g := mkF m pc Ls (.int z :: st)) rfl (hb K.2.2.2.1 hd) rfl hz hcap hb8 hk hn
  obtain ⟨s₂, o, S, r⟩ := hr h' h.size rfl (keep_ext E) ⟨_, A, by simp [newA, hdef]⟩ T' L X' e' N
  exact ⟨s₂, o, stp _ S, r⟩
theorem g_newJ (K : Kx Z own nm bytes ml rt p s m meth c) (pc : Nat) {z : Int32} (hd : decode bytes pc = .ok (.newarray .long, 2)) (w : (Jvm.Cond.arrayClass .long).before a0 Z = true) (hz : ¬ z < 0) (cap : Nat) (hcap : z.toNatClampNeg ≤ cap) (hb8 : cap * 8 ≤ 536870912) (hk : k + 1 ≤ R.cells) (hn : n + cap ≤ R.slots) (hr : ∀ h' a, a = h.size → Keep h h' [] → LA Z h' a (List.replicate z.toNatClampNeg 0) → Go p l e R s m args below meth c n0 Q h' (k + 1) (n + cap) (mkF m (pc + 2) Ls (.ref a :: st))) : Go p l e R s m args below meth c n0 Q h k n (mkF m pc Ls (.int z :: st)) := by
  intro T L X eT N
  obtain ⟨T', h', cA, X', e', E, A, stp⟩ := newP X K.1 K.2.1 (aty := .long) w eT (g := mkF m pc Ls (.int z :: st)) rfl (hb K.2.2.2.1 hd) rfl hz hcap hb8 hk hn
  obtain ⟨s₂, o, S, r⟩ := hr h' h.size rfl (keep_ext E) ⟨_, A, by simp [newA, defaultValue, newarray.typeOf]⟩ T' L X' e' N
  exact ⟨s₂, o, stp _ S, r⟩
theorem g_iaload (K : Kx Z own nm bytes ml rt p s m meth c) (pc : Nat) {a : Addr} {xs : List Int32} {j : Int32} (v : Int32) (hd : decode bytes pc = .ok (.iaload, 1)) (F : IA Z h a .int xs) (hj : ¬ j < 0) (hv : xs[j.toNatClampNeg]? = some v) (hr : Go p l e R s m args below meth c n0 Q h k n (mkF m (pc + 1) Ls (.int v :: st))) : Go p l e R s m args below meth c n0 Q h k n (mkF m pc Ls (.int j :: .ref a :: st)) := by
  intro T L X eT N
  obtain ⟨cl, A, es⟩ := F
  obtain ⟨s₂, o, S, r⟩ := hr T L X eT N
  have hlt : j.toNatClampNeg < xs.length := (List.getElem?_eq_some_iff.mp hv).1
  refine ⟨s₂, o, X.iaload K.1 (j := j) (v := (.int v)) (by rw [eT]; exact A.1) (State.isArrayOf_alike K.2.1.alike A.2.1) A.2.2 (own_clamp hj hlt (by simp [es])) (by rw [es]; simp [hv]) (g := mkF m pc Ls (.int j :: .ref a :: st)) rfl rfl (hb K.2.2.2.1 hd) _ S, r⟩
theorem g_baload (K : Kx Z own nm bytes ml rt p s m meth c) (pc : Nat) {a : Addr} {xs : List Int32} {j : Int32} (v : Int32) (hd : decode bytes pc = .ok (.baload, 1)) (F : IA Z h a .byte xs) (hj : ¬ j < 0) (hv : xs[j.toNatClampNeg]? = some v) (hr : Go p l e R s m args below meth c n0 Q h k n (mkF m (pc + 1) Ls (.int v :: st))) : Go p l e R s m args below meth c n0 Q h k n (mkF m pc Ls (.int j :: .ref a :: st)) := by
  intro T L X eT N
  obtain ⟨cl, A, es⟩ := F
  obtain ⟨s₂, o, S, r⟩ := hr T L X eT N
  have hlt : j.toNatClampNeg < xs.length := (List.getElem?_eq_some_iff.mp hv).1
  refine ⟨s₂, o, X.baloadBytes K.1 (j := j) (v := (.int v)) (by rw [eT]; exact A.1) (State.isArrayOf_alike K.2.1.alike A.2.1) A.2.2 (own_clamp hj hlt (by simp [es])) (by rw [es]; simp [hv]) (g := mkF m pc Ls (.int j :: .ref a :: st)) rfl rfl (hb K.2.2.2.1 hd) _ S, r⟩
theorem g_zaload (K : Kx Z own nm bytes ml rt p s m meth c) (pc : Nat) {a : Addr} {xs : List Int32} {j : Int32} (v : Int32) (hd : decode bytes pc = .ok (.baload, 1)) (F : IA Z h a .boolean xs) (hj : ¬ j < 0) (hv : xs[j.toNatClampNeg]? = some v) (hr : Go p l e R s m args below meth c n0 Q h k n (mkF m (pc + 1) Ls (.int v :: st))) : Go p l e R s m args below meth c n0 Q h k n (mkF m pc Ls (.int j :: .ref a :: st)) := by
  intro T L X eT N
  obtain ⟨cl, A, es⟩ := F
  obtain ⟨s₂, o, S, r⟩ := hr T L X eT N
  have hlt : j.toNatClampNeg < xs.length := (List.getElem?_eq_some_iff.mp hv).1
  refine ⟨s₂, o, X.baloadBooleans K.1 (j := j) (v := (.int v)) (by rw [eT]; exact A.1) (State.isArrayOf_alike K.2.1.alike A.2.1) A.2.2 (own_clamp hj hlt (by simp [es])) (by rw [es]; simp [hv]) (g := mkF m pc Ls (.int j :: .ref a :: st)) rfl rfl (hb K.2.2.2.1 hd) _ S, r⟩
theorem g_saload (K : Kx Z own nm bytes ml rt p s m meth c) (pc : Nat) {a : Addr} {xs : List Int32} {j : Int32} (v : Int32) (hd : decode bytes pc = .ok (.saload, 1)) (F : IA Z h a .short xs) (hj : ¬ j < 0) (hv : xs[j.toNatClampNeg]? = some v) (hr : Go p l e R s m args below meth c n0 Q h k n (mkF m (pc + 1) Ls (.int v :: st))) : Go p l e R s m args below meth c n0 Q h k n (mkF m pc Ls (.int j :: .ref a :: st)) := by
  intro T L X eT N
  obtain ⟨cl, A, es⟩ := F
  obtain ⟨s₂, o, S, r⟩ := hr T L X eT N
  have hlt : j.toNatClampNeg < xs.length := (List.getElem?_eq_some_iff.mp hv).1
  refine ⟨s₂, o, X.saload K.1 (j := j) (v := (.int v)) (by rw [eT]; exact A.1) (State.isArrayOf_alike K.2.1.alike A.2.1) A.2.2 (own_clamp hj hlt (by simp [es])) (by rw [es]; simp [hv]) (g := mkF m pc Ls (.int j :: .ref a :: st)) rfl rfl (hb K.2.2.2.1 hd) _ S, r⟩
theorem g_laload (K : Kx Z own nm bytes ml rt p s m meth c) (pc : Nat) {a : Addr} {xs : List Int64} {j : Int32} (v : Int64) (hd : decode bytes pc = .ok (.laload, 1)) (F : LA Z h a xs) (hj : ¬ j < 0) (hv : xs[j.toNatClampNeg]? = some v) (hr : Go p l e R s m args below meth c n0 Q h k n (mkF m (pc + 1) Ls (.long v :: st))) : Go p l e R s m args below meth c n0 Q h k n (mkF m pc Ls (.int j :: .ref a :: st)) := by
  intro T L X eT N
  obtain ⟨cl, A, es⟩ := F
  obtain ⟨s₂, o, S, r⟩ := hr T L X eT N
  have hlt : j.toNatClampNeg < xs.length := (List.getElem?_eq_some_iff.mp hv).1
  refine ⟨s₂, o, X.laload K.1 (j := j) (v := (.long v)) (by rw [eT]; exact A.1) (State.isArrayOf_alike K.2.1.alike A.2.1) A.2.2 (own_clamp hj hlt (by simp [es])) (by rw [es]; simp [hv]) (g := mkF m pc Ls (.int j :: .ref a :: st)) rfl rfl (hb K.2.2.2.1 hd) _ S, r⟩
theorem g_iastore (K : Kx Z own nm bytes ml rt p s m meth c) (pc : Nat) {a : Addr} {xs : List Int32} {j : Int32} {x : Int32} (hd : decode bytes pc = .ok (.iastore, 1)) (F : IA Z h a .int xs) (hj : ¬ j < 0) (hlt : j.toNatClampNeg < xs.length) (ha : n0 ≤ a) (hr : ∀ h', Keep h h' [a] → IA Z h' a .int (xs.set j.toNatClampNeg (x)) → Go p l e R s m args below meth c n0 Q h' k n (mkF m (pc + 1) Ls st)) : Go p l e R s m args below meth c n0 Q h k n (mkF m pc Ls (.int x :: .int j :: .ref a :: st)) := by
  intro T L X eT N
  have F' := F
  obtain ⟨cl, A, es⟩ := F
  obtain ⟨T', h', X', e', W, stp⟩ := stI X K.1 K.2.1 eT A (j := j) (x := x) (own_clamp hj hlt (by simp [es])) (g := mkF m pc Ls (.int x :: .int j :: .ref a :: st)) rfl rfl (hb K.2.2.2.1 hd)
  obtain ⟨s₂, o, S, r⟩ := hr h' (Keep.of_wr W) (F'.set W) T' _ X' e' (Fr.snoc X' N ha)
  exact ⟨s₂, o, stp _ S, r⟩
theorem g_bastore (K : Kx Z own nm bytes ml rt p s m meth c) (pc : Nat) {a : Addr} {xs : List Int32} {j : Int32} {x : Int32} (hd : decode bytes pc = .ok (.bastore, 1)) (F : IA Z h a .byte xs) (hj : ¬ j < 0) (hlt : j.toNatClampNeg < xs.length) (ha : n0 ≤ a) (hr : ∀ h', Keep h h' [a] → IA Z h' a .byte (xs.set j.toNatClampNeg (nar .byte x)) → Go p l e R s m args below meth c n0 Q h' k n (mkF m (pc + 1) Ls st)) : Go p l e R s m args below meth c n0 Q h k n (mkF m pc Ls (.int x :: .int j :: .ref a :: st)) := by
  intro T L X eT N
  have F' := F
  obtain ⟨cl, A, es⟩ := F
  obtain ⟨T', h', X', e', W, stp⟩ := stB X K.1 K.2.1 eT A (j := j) (x := x) (own_clamp hj hlt (by simp [es])) (g := mkF m pc Ls (.int x :: .int j :: .ref a :: st)) rfl rfl (hb K.2.2.2.1 hd)
  obtain ⟨s₂, o, S, r⟩ := hr h' (Keep.of_wr W) (F'.set W) T' _ X' e' (Fr.snoc X' N ha)
  exact ⟨s₂, o, stp _ S, r⟩
theorem g_zastore (K : Kx Z own nm bytes ml rt p s m meth c) (pc : Nat) {a : Addr} {xs : List Int32} {j : Int32} {x : Int32} (hd : decode bytes pc = .ok (.bastore, 1)) (F : IA Z h a .boolean xs) (hj : ¬ j < 0) (hlt : j.toNatClampNeg < xs.length) (ha : n0 ≤ a) (hr : ∀ h', Keep h h' [a] → IA Z h' a .boolean (xs.set j.toNatClampNeg (nar .boolean x)) → Go p l e R s m args below meth c n0 Q h' k n (mkF m (pc + 1) Ls st)) : Go p l e R s m args below meth c n0 Q h k n (mkF m pc Ls (.int x :: .int j :: .ref a :: st)) := by
  intro T L X eT N
  have F' := F
  obtain ⟨cl, A, es⟩ := F
  obtain ⟨T', h', X', e', W, stp⟩ := stZ X K.1 K.2.1 eT A (j := j) (x := x) (own_clamp hj hlt (by simp [es])) (g := mkF m pc Ls (.int x :: .int j :: .ref a :: st)) rfl rfl (hb K.2.2.2.1 hd)
  obtain ⟨s₂, o, S, r⟩ := hr h' (Keep.of_wr W) (F'.set W) T' _ X' e' (Fr.snoc X' N ha)
  exact ⟨s₂, o, stp _ S, r⟩
theorem g_sastore (K : Kx Z own nm bytes ml rt p s m meth c) (pc : Nat) {a : Addr} {xs : List Int32} {j : Int32} {x : Int32} (hd : decode bytes pc = .ok (.sastore, 1)) (F : IA Z h a .short xs) (hj : ¬ j < 0) (hlt : j.toNatClampNeg < xs.length) (ha : n0 ≤ a) (hr : ∀ h', Keep h h' [a] → IA Z h' a .short (xs.set j.toNatClampNeg (nar .short x)) → Go p l e R s m args below meth c n0 Q h' k n (mkF m (pc + 1) Ls st)) : Go p l e R s m args below meth c n0 Q h k n (mkF m pc Ls (.int x :: .int j :: .ref a :: st)) := by
  intro T L X eT N
  have F' := F
  obtain ⟨cl, A, es⟩ := F
  obtain ⟨T', h', X', e', W, stp⟩ := stS X K.1 K.2.1 eT A (j := j) (x := x) (own_clamp hj hlt (by simp [es])) (g := mkF m pc Ls (.int x :: .int j :: .ref a :: st)) rfl rfl (hb K.2.2.2.1 hd)
  obtain ⟨s₂, o, S, r⟩ := hr h' (Keep.of_wr W) (F'.set W) T' _ X' e' (Fr.snoc X' N ha)
  exact ⟨s₂, o, stp _ S, r⟩
theorem g_lastore (K : Kx Z own nm bytes ml rt p s m meth c) (pc : Nat) {a : Addr} {xs : List Int64} {j : Int32} {x : Int64} (hd : decode bytes pc = .ok (.lastore, 1)) (F : LA Z h a xs) (hj : ¬ j < 0) (hlt : j.toNatClampNeg < xs.length) (ha : n0 ≤ a) (hr : ∀ h', Keep h h' [a] → LA Z h' a (xs.set j.toNatClampNeg (x)) → Go p l e R s m args below meth c n0 Q h' k n (mkF m (pc + 1) Ls st)) : Go p l e R s m args below meth c n0 Q h k n (mkF m pc Ls (.long x :: .int j :: .ref a :: st)) := by
  intro T L X eT N
  have F' := F
  obtain ⟨cl, A, es⟩ := F
  obtain ⟨T', h', X', e', W, stp⟩ := stJ X K.1 K.2.1 eT A (j := j) (x := x) (own_clamp hj hlt (by simp [es])) (g := mkF m pc Ls (.long x :: .int j :: .ref a :: st)) rfl rfl (hb K.2.2.2.1 hd)
  obtain ⟨s₂, o, S, r⟩ := hr h' (Keep.of_wr W) (F'.set W) T' _ X' e' (Fr.snoc X' N ha)
  exact ⟨s₂, o, stp _ S, r⟩
theorem g_alen (K : Kx Z own nm bytes ml rt p s m meth c) (pc : Nat) {a : Addr} {ty : FieldType} {xs : List Int32} (v : Int32) (hd : decode bytes pc = .ok (.arraylength, 1)) (F : IA Z h a ty xs) (hv : xs.length.toInt32 = v) (hr : Go p l e R s m args below meth c n0 Q h k n (mkF m (pc + 1) Ls (.int v :: st))) : Go p l e R s m args below meth c n0 Q h k n (mkF m pc Ls (.ref a :: st)) := by
  intro T L X eT N
  obtain ⟨cl, A, es⟩ := F
  obtain ⟨s₂, o, S, r⟩ := hr T L X eT N
  have hq : cl.slots.size.toInt32 = v := by rw [es]; simpa using hv
  refine ⟨s₂, o, X.arraylength K.1 (cell := cl) (by rw [eT]; exact A.1) (State.isArrayOf_alike K.2.1.alike A.2.1) (g := mkF m pc Ls (.ref a :: st)) rfl (rest := st) rfl (hb K.2.2.2.1 hd) _ ?_, r⟩
  rw [hq]; exact S
theorem g_callS (K : Kx Z own nm bytes ml rt p s m meth c) (pc : Nat) {i : Nat} {y : MethodName} {b2 : ByteArray} {ml2 : Nat} {rt2 : Option FieldType} {rm : Room} {Q' : Option Value → Heap → Prop} {sig : MethodDescriptor} {S0 : List Value} (argsL : List Value) (W : Nat) (hd : decode bytes pc = .ok (.invokestatic i, 3))
    (M : Meets l y b2 ml2 rt2 rm Z argsL.toArray h n0 Q') (wl : (Jvm.Cond.methodLink own i y).before a0 Z = true) (ws : (Jvm.Cond.static y).before a0 Z = true) (wz : (Jvm.Cond.initialized y.cls).before a0 Z = true) (wc : (Jvm.Cond.code y b2 ml2 rt2).before a0 Z = true) (hy : y.cls ≠ "java/lang/invoke/MethodHandle" ∧ y.cls ≠ "java/lang/invoke/VarHandle")
    (hpd : parseMethodDescriptor y.desc = some sig) (hlen : argsL.length = sig.parameters.length) (hS : S0 = argsL.reverse ++ st) (hW : (st.map fun v => v.category).sum ≤ W) (hls : Ls.size = ml) (hf : rm.frames + 1 ≤ R.frames) (hlo : W + (ml2 + 11) + rm.locals ≤ R.locals) (hk : k + rm.cells ≤ R.cells) (hn : n + rm.slots ≤ R.slots)
    (hr : ∀ v h', Q' v h' → Go p l e R s m args below meth c n0 Q h' (k + rm.cells) (n + rm.slots) (mkF m (pc + 3) Ls (v.toList ++ st))) : Go p l e R s m args below meth c n0 Q h k n (mkF m pc Ls S0) := by
  subst hS
  intro T L X eT N
  obtain ⟨v, vm₁, ⟨T', L', k', n'⟩, -, X', ⟨L2, hQ, l1, y1, z1⟩, stp⟩ := Jvm.LawKit.callS X K.1 (y := y) K.2.2.1 (mvT K.2.1 wl) (mvT K.2.1 ws) (mvT K.2.1 wz) (mvT K.2.1 wc) hy (backOf (W := W) (Q := fun v h L => Q' v h ∧ Fr n0 L) (M []) K.2.1 wc wz hf hlo) (g := mkF m pc Ls (argsL.reverse ++ st)) rfl (hls.trans K.2.2.2.2.1.symm) (argsL := argsL) (rest := st) (fun sg h => by cases hpd.symm.trans h; exact hlen) rfl (by show 2 * 0 + _ ≤ _; omega) (hb K.2.2.2.1 hd) (fun _ _ => ⟨rfl, eT, hk, hn⟩)
  dsimp only [Pt.U, Pt.locs, Pt.cells, Pt.slots] at X' l1 y1 z1 stp hQ
  subst l1 y1 z1
  obtain ⟨s₂, o, S, r⟩ := hr v _ hQ.1 T' _ X' rfl (Fr.app N hQ.2)
  exact ⟨s₂, o, stp _ S, r⟩
theorem g_callN (K : Kx Z own nm bytes ml rt p s m meth c) (pc : Nat) {i : Nat} {y : MethodName} {b2 : ByteArray} {ml2 : Nat} {rm : Room} {Q' : Option Value → Heap → Prop} {sig : MethodDescriptor} {S0 : List Value} {a : Addr} (argsL : List Value) (W : Nat) (hd : decode bytes pc = .ok (.invokespecial i, 3))
    (M : Meets l y b2 ml2 none rm Z (.ref a :: argsL).toArray h n0 Q') (hy1 : y.name = "<init>") (wl : (Jvm.Cond.methodLink own i y).before a0 Z = true) (wi : (Jvm.Cond.instanceMethod y).before a0 Z = true) (wz : (Jvm.Cond.initialized y.cls).before a0 Z = true) (wc : (Jvm.Cond.code y b2 ml2 none).before a0 Z = true) (hy : y.cls ≠ "java/lang/invoke/MethodHandle" ∧ y.cls ≠ "java/lang/invoke/VarHandle")
    (hpd : parseMethodDescriptor y.desc = some sig) (hlen : argsL.length = sig.parameters.length) (hS : S0 = argsL.reverse ++ .ref a :: st) (hW : (st.map fun v => v.category).sum ≤ W) (hls : Ls.size = ml) (hf : rm.frames + 1 ≤ R.frames) (hlo : W + (ml2 + 11) + rm.locals ≤ R.locals) (hk : k + rm.cells ≤ R.cells) (hn : n + rm.slots ≤ R.slots)
    (hr : ∀ v h', Q' v h' → Go p l e R s m args below meth c n0 Q h' (k + rm.cells) (n + rm.slots) (mkF m (pc + 3) Ls (v.toList ++ st))) : Go p l e R s m args below meth c n0 Q h k n (mkF m pc Ls S0) := by
  subst hS
  intro T L X eT N
  obtain ⟨v, vm₁, ⟨T', L', k', n'⟩, -, X', ⟨L2, hQ, l1, y1, z1⟩, stp⟩ := X.specialBack K.1 (y := y) hy1 K.2.2.1 (mvT K.2.1 wl) (mvT K.2.1 wi) (mvT K.2.1 wc) hy (backOf (W := W) (Q := fun v h L => Q' v h ∧ Fr n0 L) (M []) K.2.1 wc wz hf hlo) (g := mkF m pc Ls (argsL.reverse ++ .ref a :: st)) rfl (hls.trans K.2.2.2.2.1.symm) (Steps.refl _) (a := a) (argsL := argsL) (rest := st) (fun sg h => by cases hpd.symm.trans h; exact hlen) rfl (by show 2 * 0 + _ ≤ _; omega) (hb K.2.2.2.1 hd) (fun _ _ => ⟨rfl, eT, hk, hn⟩)
  dsimp only [Pt.U, Pt.locs, Pt.cells, Pt.slots] at X' l1 y1 z1 stp hQ
  subst l1 y1 z1
  obtain ⟨s₂, o, S, r⟩ := hr v _ hQ.1 T' _ X' rfl (Fr.app N hQ.2)
  exact ⟨s₂, o, stp.trans S, r⟩
theorem g_callV (K : Kx Z own nm bytes ml rt p s m meth c) (pc : Nat) {i : Nat} {y z : MethodName} {C : String} {b2 : ByteArray} {ml2 : Nat} {rt2 : Option FieldType} {rm : Room} {Q' : Option Value → Heap → Prop} {sig : MethodDescriptor} {S0 : List Value} {a : Addr} (argsL : List Value) (W : Nat) (hd : decode bytes pc = .ok (.invokevirtual i, 3))
    (M : Meets l z b2 ml2 rt2 rm Z (.ref a :: argsL).toArray h n0 Q') (E : Exa Z h a C) (wl : (Jvm.Cond.methodLink own i y).before a0 Z = true) (wd : (Jvm.Cond.declares y).before a0 Z = true) (wsel : (Jvm.Cond.selects C y z).before a0 Z = true) (wself : (Jvm.Cond.selects y.cls y y).before a0 Z = true) (wi : (Jvm.Cond.instanceMethod z).before a0 Z = true) (wz : (Jvm.Cond.initialized z.cls).before a0 Z = true) (wc : (Jvm.Cond.code z b2 ml2 rt2).before a0 Z = true) (hy : y.cls ≠ "java/lang/invoke/MethodHandle" ∧ y.cls ≠ "java/lang/invoke/VarHandle")
    (hpd : parseMethodDescriptor y.desc = some sig) (hlen : argsL.length = sig.parameters.length) (hS : S0 = argsL.reverse ++ .ref a :: st) (hW : (st.map fun v => v.category).sum ≤ W) (hls : Ls.size = ml) (hf : rm.frames + 1 ≤ R.frames) (hlo : W + (ml2 + 11) + rm.locals ≤ R.locals) (hk : k + rm.cells ≤ R.cells) (hn : n + rm.slots ≤ R.slots)
    (hr : ∀ v h', Q' v h' → Go p l e R s m args below meth c n0 Q h' (k + rm.cells) (n + rm.slots) (mkF m (pc + 3) Ls (v.toList ++ st))) : Go p l e R s m args below meth c n0 Q h k n (mkF m pc Ls S0) := by
  subst hS
  intro T L X eT N
  obtain ⟨cB, kB, q1, q2, q3⟩ := isOf K.2.1 eT E
  obtain ⟨v, vm₁, ⟨T', L', k', n'⟩, -, X', ⟨L2, hQ, l1, y1, z1⟩, stp⟩ := X.virtualBack K.1 (y := y) (z := z) K.2.2.1 (mvT K.2.1 wl) (mvT K.2.1 wd) (notFace_of_selects (args := #[]) (mvT K.2.1 wself)) (mvT K.2.1 wsel) (mvT K.2.1 wi) hy (backOf (W := W) (Q := fun v h L => Q' v h ∧ Fr n0 L) (M []) K.2.1 wc wz hf hlo) q1 q3 (g := mkF m pc Ls (argsL.reverse ++ .ref a :: st)) rfl (hls.trans K.2.2.2.2.1.symm) (Steps.refl _) (argsL := argsL) (rest := st) (fun sg h => by cases hpd.symm.trans h; exact hlen) rfl (by show 2 * 0 + _ ≤ _; omega) (hb K.2.2.2.1 hd) (fun _ _ => ⟨rfl, eT, hk, hn⟩)
  dsimp only [Pt.U, Pt.locs, Pt.cells, Pt.slots] at X' l1 y1 z1 stp hQ
  subst l1 y1 z1
  obtain ⟨s₂, o, S, r⟩ := hr v _ hQ.1 T' _ X' rfl (Fr.app N hQ.2)
  exact ⟨s₂, o, stp.trans S, r⟩
end GoSteps
theorem meets_of {l : Launch} {y : MethodName} {bytes : ByteArray} {ml : Nat} {rt : Option FieldType} {rm : Room} {Z : State} {as : Array Value} {h0 : Heap} {n0 : Nat} {Q : Option Value → Heap → Prop} (hx : plainFor y = true) {Ls : Array Slot} (hef : ∀ m, entryFrame m as ml = mkF m 0 Ls [])
    (body : ∀ p e s m below meth c, Kx Z y.cls y.name bytes ml rt p s m meth c → Go p l e rm s m as below meth c n0 Q h0 0 0 (mkF m 0 Ls [])) : Meets l y bytes ml rt rm Z as h0 n0 Q := by
  intro ws
  refine MetFree.of_bodySF hx hisR ?_
  intro p e s m args below meth c s₁ Bd hml0 hP hK
  obtain ⟨rfl, hZ, hh⟩ := hP
  have X0 : Stand p l e rm s m args below meth c s₁ [] 0 0 := Stand.of_body Bd
  have e0 : s₁.heap = h0 := by rw [← hh, Bd.state]; rfl
  obtain ⟨s₂, o, S, r1, r2, r3⟩ := body p e s m below meth c ⟨Bd.exec, hZ, findClass_of_methodNamed Bd.named, Bd.bytes, hml0, Bd.returns, Bd.notSynchronized, (name_of_methodNamed Bd.named Bd.method).1⟩ s₁ [] X0 e0 (Fr.nil n0)
  exact ⟨s₂, o, castTop (hef m) S, r1, r2, r3⟩
theorem tw {a0 : Array Value} {Z : State} {ts : List Jvm.Cond} (hw : ∀ d ∈ ts, d.before a0 Z = true) (i : Nat) {d : Jvm.Cond} (q : ts[i]? = some d) : d.before a0 Z = true := hw _ (List.mem_of_getElem? q)
theorem pn0 : plainName "com/example/zedcube/zedcube/engine/BitArray" = true := by first | (simp [plainName, overriddenIn]; done) | decide +kernel
theorem pd0 : parseMethodDescriptor "([JJI)J" = some ⟨[(.array .long), .long, .int], some .long⟩ := by decide +kernel
theorem pn1 : plainName "com/example/zedcube/zedcube/engine/BitArrayReadPinLaw" = true := by first | (simp [plainName, overriddenIn]; done) | decide +kernel
theorem pd1 : parseMethodDescriptor "(JJJIII)Z" = some ⟨[.long, .long, .long, .int, .int, .int], some .boolean⟩ := by decide +kernel
theorem d1_0 : decode prog_4_method_2_code 0 = .ok (.iload_n 3, 1) := by decide +kernel
theorem d1_1 : decode prog_4_method_2_code 1 = .ok (.ifCond .ne 5, 3) := by decide +kernel
theorem d1_4 : decode prog_4_method_2_code 4 = .ok (.lconst 0, 1) := by decide +kernel
theorem d1_5 : decode prog_4_method_2_code 5 = .ok (.lreturn, 1) := by decide +kernel
theorem d1_6 : decode prog_4_method_2_code 6 = .ok (.lload_n 1, 1) := by decide +kernel
theorem d1_7 : decode prog_4_method_2_code 7 = .ok (.bipush 6, 2) := by decide +kernel
theorem d1_9 : decode prog_4_method_2_code 9 = .ok (.lushr, 1) := by decide +kernel
theorem d1_10 : decode prog_4_method_2_code 10 = .ok (.l2i, 1) := by decide +kernel
theorem d1_11 : decode prog_4_method_2_code 11 = .ok (.istore 4, 2) := by decide +kernel
theorem d1_13 : decode prog_4_method_2_code 13 = .ok (.lload_n 1, 1) := by decide +kernel
theorem d1_14 : decode prog_4_method_2_code 14 = .ok (.l2i, 1) := by decide +kernel
theorem d1_15 : decode prog_4_method_2_code 15 = .ok (.bipush 63, 2) := by decide +kernel
theorem d1_17 : decode prog_4_method_2_code 17 = .ok (.iand, 1) := by decide +kernel
theorem d1_18 : decode prog_4_method_2_code 18 = .ok (.istore 5, 2) := by decide +kernel
theorem d1_20 : decode prog_4_method_2_code 20 = .ok (.aload_n 0, 1) := by decide +kernel
theorem d1_21 : decode prog_4_method_2_code 21 = .ok (.iload 4, 2) := by decide +kernel
theorem d1_23 : decode prog_4_method_2_code 23 = .ok (.laload, 1) := by decide +kernel
theorem d1_24 : decode prog_4_method_2_code 24 = .ok (.iload 5, 2) := by decide +kernel
theorem d1_26 : decode prog_4_method_2_code 26 = .ok (.lushr, 1) := by decide +kernel
theorem d1_27 : decode prog_4_method_2_code 27 = .ok (.lstore 6, 2) := by decide +kernel
theorem d1_29 : decode prog_4_method_2_code 29 = .ok (.iload 5, 2) := by decide +kernel
theorem d1_31 : decode prog_4_method_2_code 31 = .ok (.iload_n 3, 1) := by decide +kernel
theorem d1_32 : decode prog_4_method_2_code 32 = .ok (.iadd, 1) := by decide +kernel
theorem d1_33 : decode prog_4_method_2_code 33 = .ok (.bipush 64, 2) := by decide +kernel
theorem d1_35 : decode prog_4_method_2_code 35 = .ok (.if_icmp .le 20, 3) := by decide +kernel
theorem d1_38 : decode prog_4_method_2_code 38 = .ok (.lload 6, 2) := by decide +kernel
theorem d1_40 : decode prog_4_method_2_code 40 = .ok (.aload_n 0, 1) := by decide +kernel
theorem d1_41 : decode prog_4_method_2_code 41 = .ok (.iload 4, 2) := by decide +kernel
theorem d1_43 : decode prog_4_method_2_code 43 = .ok (.iconst 1, 1) := by decide +kernel
theorem d1_44 : decode prog_4_method_2_code 44 = .ok (.iadd, 1) := by decide +kernel
theorem d1_45 : decode prog_4_method_2_code 45 = .ok (.laload, 1) := by decide +kernel
theorem d1_46 : decode prog_4_method_2_code 46 = .ok (.bipush 64, 2) := by decide +kernel
theorem d1_48 : decode prog_4_method_2_code 48 = .ok (.iload 5, 2) := by decide +kernel
theorem d1_50 : decode prog_4_method_2_code 50 = .ok (.isub, 1) := by decide +kernel
theorem d1_51 : decode prog_4_method_2_code 51 = .ok (.lshl, 1) := by decide +kernel
theorem d1_52 : decode prog_4_method_2_code 52 = .ok (.lor, 1) := by decide +kernel
theorem d1_53 : decode prog_4_method_2_code 53 = .ok (.lstore 6, 2) := by decide +kernel
theorem d1_55 : decode prog_4_method_2_code 55 = .ok (.iload_n 3, 1) := by decide +kernel
theorem d1_56 : decode prog_4_method_2_code 56 = .ok (.bipush 64, 2) := by decide +kernel
theorem d1_58 : decode prog_4_method_2_code 58 = .ok (.if_icmp .ne 8, 3) := by decide +kernel
theorem d1_61 : decode prog_4_method_2_code 61 = .ok (.lload 6, 2) := by decide +kernel
theorem d1_63 : decode prog_4_method_2_code 63 = .ok (.goto 11, 3) := by decide +kernel
theorem d1_66 : decode prog_4_method_2_code 66 = .ok (.lload 6, 2) := by decide +kernel
theorem d1_68 : decode prog_4_method_2_code 68 = .ok (.lconst 1, 1) := by decide +kernel
theorem d1_69 : decode prog_4_method_2_code 69 = .ok (.iload_n 3, 1) := by decide +kernel
theorem d1_70 : decode prog_4_method_2_code 70 = .ok (.lshl, 1) := by decide +kernel
theorem d1_71 : decode prog_4_method_2_code 71 = .ok (.lconst 1, 1) := by decide +kernel
theorem d1_72 : decode prog_4_method_2_code 72 = .ok (.lsub, 1) := by decide +kernel
theorem d1_73 : decode prog_4_method_2_code 73 = .ok (.land, 1) := by decide +kernel
theorem d1_74 : decode prog_4_method_2_code 74 = .ok (.lreturn, 1) := by decide +kernel
theorem own_and63 (y : Int32) : (y.toInt64 &&& 63).toBitVec = BitVec.ofNat 64 (y.toBitVec.toNat % 64) := by
  apply BitVec.eq_of_getLsbD_eq
  intro i hi
  have h63 : (63 : Int64).toBitVec = BitVec.ofNat 64 (2 ^ 6 - 1) := by decide
  have hm : (y.toBitVec.toNat % 64) = y.toBitVec.toNat % 2 ^ 6 := rfl
  rw [Int64.toBitVec_and, Int32.toBitVec_toInt64, BitVec.getLsbD_and, BitVec.getLsbD_signExtend, h63, BitVec.getLsbD_ofNat, Nat.testBit_two_pow_sub_one, BitVec.getLsbD_ofNat, hm, Nat.testBit_mod_two_pow]
  by_cases h6 : i < 6
  · have h32 : i < 32 := by omega
    simp [hi, h6, h32, BitVec.getLsbD]
  · simp [h6]
theorem bv_lshl (x : Int64) (y : Int32) : (x <<< (y.toInt64 &&& 63)).toBitVec = x.toBitVec <<< (y.toBitVec.toNat % 64) := by
  show x.toBitVec <<< ((y.toInt64 &&& 63).toBitVec.smod 64) = _
  rw [BitVec.shiftLeft_eq', own_and63, smod64 _ (Nat.mod_lt _ (by decide))]
theorem bv_lshr (x : Int64) (y : Int32) : (x >>> (y.toInt64 &&& 63)).toBitVec = x.toBitVec.sshiftRight (y.toBitVec.toNat % 64) := by
  show x.toBitVec.sshiftRight' ((y.toInt64 &&& 63).toBitVec.smod 64) = _
  rw [BitVec.sshiftRight_eq', own_and63, smod64 _ (Nat.mod_lt _ (by decide))]
theorem bv_lushr (x : Int64) (y : Int32) : (XT.ushrL x y).toBitVec = x.toBitVec >>> (y.toBitVec.toNat % 64) := by
  show x.toBitVec >>> ((y.toInt64 &&& 63).toBitVec % 64) = _
  rw [BitVec.ushiftRight_eq', own_and63, BitVec.toNat_umod, BitVec.toNat_ofNat]
  congr 1
  show y.toBitVec.toNat % 64 % 2 ^ 64 % 64 = _
  omega
theorem bv_ishl (x y : Int32) : (x <<< (y &&& 31)).toBitVec = x.toBitVec <<< (y.toBitVec.toNat % 32) := by
  show x.toBitVec <<< ((y &&& 31).toBitVec.smod 32) = _
  rw [BitVec.shiftLeft_eq', sm32 y _ rfl]
theorem bv_ishr (x y : Int32) : (x >>> (y &&& 31)).toBitVec = x.toBitVec.sshiftRight (y.toBitVec.toNat % 32) := by
  show x.toBitVec.sshiftRight' ((y &&& 31).toBitVec.smod 32) = _
  rw [BitVec.sshiftRight_eq', sm32 y _ rfl]
theorem bv_iushr (x y : Int32) : (XT.ushr x y).toBitVec = x.toBitVec >>> (y.toBitVec.toNat % 32) := by
  show x.toBitVec >>> ((y &&& 31).toBitVec % 32) = _
  have h1 : (y &&& 31).toBitVec.toNat = y.toBitVec.toNat % 32 := by
    show (y.toBitVec &&& (31 : Int32).toBitVec).toNat = _
    rw [BitVec.toNat_and, show (31 : Int32).toBitVec.toNat = 2 ^ 5 - 1 from by decide, Nat.and_two_pow_sub_one_eq_mod]
  rw [BitVec.ushiftRight_eq', BitVec.toNat_umod, h1]
  congr 1
  show y.toBitVec.toNat % 32 % 32 = _
  omega
theorem u64 (x : Int64) : (x.toBitVec.toNat : Int) = x.toInt % 18446744073709551616 := by
  have h := x.toBitVec.isLt
  show _ = x.toBitVec.toInt % _
  rw [BitVec.toInt_eq_toNat_cond]; split <;> omega
theorem u32 (x : Int32) : (x.toBitVec.toNat : Int) = x.toInt % 4294967296 := by
  have h := x.toBitVec.isLt
  show _ = x.toBitVec.toInt % _
  rw [BitVec.toInt_eq_toNat_cond]; split <;> omega
theorem i64 (x : Int64) : x.toInt = if x.toBitVec.toNat < 9223372036854775808 then (x.toBitVec.toNat : Int) else (x.toBitVec.toNat : Int) - 18446744073709551616 := by
  have h := x.toBitVec.isLt
  show x.toBitVec.toInt = _
  rw [BitVec.toInt_eq_toNat_cond]; split <;> split <;> omega
/-- a logical shift by a known count, as a number -/
theorem n_lushr (x : Int64) (y : Int32) (k : Nat) (hk : y.toBitVec.toNat % 64 = k) : (XT.ushrL x y).toBitVec.toNat = x.toBitVec.toNat / 2 ^ k := by
  rw [bv_lushr, hk, BitVec.toNat_ushiftRight, Nat.shiftRight_eq_div_pow]
theorem n_iushr (x y : Int32) (k : Nat) (hk : y.toBitVec.toNat % 32 = k) : (XT.ushr x y).toBitVec.toNat = x.toBitVec.toNat / 2 ^ k := by
  rw [bv_iushr, hk, BitVec.toNat_ushiftRight, Nat.shiftRight_eq_div_pow]
theorem nn32 (y : Int32) (h : 0 ≤ y.toInt) : y.toBitVec.toNat = y.toInt.toNat := by
  have h1 := u32 y
  have := y.toInt_lt
  omega
theorem nn64 (y : Int64) (h : 0 ≤ y.toInt) : y.toBitVec.toNat = y.toInt.toNat := by
  have h1 := u64 y
  have := y.toInt_lt
  omega
theorem own_mask (y : Int32) (hy : 0 ≤ y.toInt ∧ y.toInt < 64) (K : Nat) (hK : K < 64) : (((1 : Int64) <<< (y.toInt64 &&& 63)) - 1).toBitVec.getLsbD K = decide (K < y.toInt.toNat) := by
  have hW : y.toBitVec.toNat % 64 = y.toInt.toNat := by rw [nn32 y hy.1]; omega
  rw [Int64.toBitVec_sub, bv_lshl, hW]
  have h2 : y.toInt.toNat < 64 := by omega
  generalize y.toInt.toNat = W at *
  have e : (1 : Int64).toBitVec <<< W - (1 : Int64).toBitVec = BitVec.ofNat 64 (2 ^ W - 1) := by
    apply BitVec.eq_of_toNat_eq
    have p1 : 2 ^ W < 2 ^ 64 := Nat.pow_lt_pow_right (by decide) h2
    have p2 : 0 < 2 ^ W := Nat.two_pow_pos W
    rw [BitVec.toNat_sub, BitVec.toNat_shiftLeft, Nat.shiftLeft_eq, BitVec.toNat_ofNat, show (1 : Int64).toBitVec.toNat = 1 from by decide, Nat.one_mul]
    generalize 2 ^ W = P at *
    omega
  rw [e, BitVec.getLsbD_ofNat, Nat.testBit_two_pow_sub_one]
  simp [hK]
theorem own_bit (x : Int64) (y : Int32) : (XT.ushrL x y &&& (1 : Int64)) = if x.toBitVec.getLsbD (y.toBitVec.toNat % 64) then 1 else 0 := by
  apply Int64.toBitVec_inj.mp
  apply BitVec.eq_of_getLsbD_eq
  intro i hi
  rw [Int64.toBitVec_and, bv_lushr, BitVec.getLsbD_and, BitVec.getLsbD_ushiftRight]
  generalize y.toBitVec.toNat % 64 = k
  have h1 : (1 : Int64).toBitVec.getLsbD i = decide (i = 0) := by
    show (1#64).getLsbD i = _
    rw [BitVec.getLsbD_one]; simp
  rw [h1]
  by_cases q : i = 0
  · subst q
    cases h : x.toBitVec.getLsbD k <;> simp [h]
  · cases h : x.toBitVec.getLsbD k
    · simp [q]
    · simp [q, h1]

def rd (xs : List Int64) (j : Int32) : Int64 := xs.getD j.toNatClampNeg 0
theorem rd_some {xs : List Int64} {j : Int32} (h : j.toNatClampNeg < xs.length) : xs[j.toNatClampNeg]? = some (rd xs j) := by
  simp [rd, List.getD, h]
def f_read (xs : List Int64) (q1 : Int64) (p2 : Int32) : Int64 := if p2 = 0 then (0 : Int64) else (if (64 : Int32) < ((q1.toInt32 &&& (63 : Int32)) + p2) then (if p2 = (64 : Int32) then ((XT.ushrL (rd xs ((XT.ushrL q1 (6 : Int32)).toInt32)) (q1.toInt32 &&& (63 : Int32))) ||| ((rd xs (((XT.ushrL q1 (6 : Int32)).toInt32) + (1 : Int32))) <<< (((64 : Int32) - (q1.toInt32 &&& (63 : Int32))).toInt64 &&& 63))) else (((XT.ushrL (rd xs ((XT.ushrL q1 (6 : Int32)).toInt32)) (q1.toInt32 &&& (63 : Int32))) ||| ((rd xs (((XT.ushrL q1 (6 : Int32)).toInt32) + (1 : Int32))) <<< (((64 : Int32) - (q1.toInt32 &&& (63 : Int32))).toInt64 &&& 63))) &&& (((1 : Int64) <<< (p2.toInt64 &&& 63)) - (1 : Int64)))) else (if p2 = (64 : Int32) then (XT.ushrL (rd xs ((XT.ushrL q1 (6 : Int32)).toInt32)) (q1.toInt32 &&& (63 : Int32))) else ((XT.ushrL (rd xs ((XT.ushrL q1 (6 : Int32)).toInt32)) (q1.toInt32 &&& (63 : Int32))) &&& (((1 : Int64) <<< (p2.toInt64 &&& 63)) - (1 : Int64)))))
set_option maxRecDepth 65536 in
set_option maxHeartbeats 40000000 in
theorem rm_read (l : Launch) (Z : State) (a0 : Array Value) (hw : ∀ d ∈ tables_1, d.before a0 Z = true) (o0 : Addr) (q1 : Int64) (p2 : Int32) (h0 : Heap) (n0 : Nat) (Z0 : n0 ≤ h0.size) (xs : List Int64) (A0 : LA Z h0 o0 xs) (hi0 : ¬ (XT.ushrL q1 (6 : Int32)).toInt32 < 0 ∧ (XT.ushrL q1 (6 : Int32)).toInt32.toNatClampNeg < xs.length) (hi1 : ¬ ((XT.ushrL q1 (6 : Int32)).toInt32 + (1 : Int32)) < 0 ∧ ((XT.ushrL q1 (6 : Int32)).toInt32 + (1 : Int32)).toNatClampNeg < xs.length) :
    Meets l (⟨"com/example/zedcube/zedcube/engine/BitArray", "read", "([JJI)J"⟩ : MethodName) prog_4_method_2_code 8 (some .long) ({ frames := 0, cells := 0, slots := 0, locals := 0 } : Room) Z #[(.ref o0), (.long q1), (.int p2)] h0 n0 (fun v h => v = some (Value.long (f_read xs q1 p2)) ∧ h = h0) := by
  refine meets_of (plainFor_of_name pn0) (Ls := #[.val (.ref o0), .val (.long q1), .second, .val (.int p2), .unset, .unset, .unset, .unset]) (fun m => by first | (simp [entryFrame, mkF, argsToLocals, Value.category]; done) | rfl) ?_
  intro p e s m below meth c K
  replace K : Kx Z "com/example/zedcube/zedcube/engine/BitArray" "read" prog_4_method_2_code 8 (some .long) p s m meth c := K
  obtain ⟨Q, hQ⟩ : ∃ Q : Option Value → Heap → Prop, Q = (fun v h => v = some (Value.long (f_read xs q1 p2)) ∧ h = h0) := ⟨_, rfl⟩
  rw [← hQ]
  refine g_iloadN K 0 d1_0 rfl ?_
  refine g_if_ne K 1 6 d1_1 (by decide) (by decide) ?_ ?_
  · intro c1
    refine g_lloadN K 6 d1_6 rfl ?_
    refine g_bipush K 7 (6 : Int32) d1_7 (by decide) ?_
    refine g_lushr K 9 d1_9 ?_
    refine g_l2i K 10 d1_10 ?_
    refine g_istore K 11 #[.val (.ref o0), .val (.long q1), .second, .val (.int p2), .val (.int (XT.ushrL q1 (6 : Int32)).toInt32), .unset, .unset, .unset] d1_11 rfl ?_
    refine g_lloadN K 13 d1_13 rfl ?_
    refine g_l2i K 14 d1_14 ?_
    refine g_bipush K 15 (63 : Int32) d1_15 (by decide) ?_
    refine g_iand K 17 d1_17 ?_
    refine g_istore K 18 #[.val (.ref o0), .val (.long q1), .second, .val (.int p2), .val (.int (XT.ushrL q1 (6 : Int32)).toInt32), .val (.int (q1.toInt32 &&& (63 : Int32))), .unset, .unset] d1_18 rfl ?_
    refine g_aloadN K 20 d1_20 rfl rfl ?_
    refine g_iload K 21 d1_21 rfl ?_
    refine g_laload K 23 (rd xs ((XT.ushrL q1 (6 : Int32)).toInt32)) d1_23 A0 (hi0.1) (rd_some hi0.2) ?_
    refine g_iload K 24 d1_24 rfl ?_
    refine g_lushr K 26 d1_26 ?_
    refine g_lstore K 27 #[.val (.ref o0), .val (.long q1), .second, .val (.int p2), .val (.int (XT.ushrL q1 (6 : Int32)).toInt32), .val (.int (q1.toInt32 &&& (63 : Int32))), .val (.long (XT.ushrL (rd xs ((XT.ushrL q1 (6 : Int32)).toInt32)) (q1.toInt32 &&& (63 : Int32)))), .second] d1_27 rfl ?_
    refine g_iload K 29 d1_29 rfl ?_
    refine g_iloadN K 31 d1_31 rfl ?_
    refine g_iadd K 32 d1_32 ?_
    refine g_bipush K 33 (64 : Int32) d1_33 (by decide) ?_
    refine g_ii_le K 35 55 d1_35 (by decide) (by decide) ?_ ?_
    · intro c2
      refine g_iloadN K 55 d1_55 rfl ?_
      refine g_bipush K 56 (64 : Int32) d1_56 (by decide) ?_
      refine g_ii_ne K 58 66 d1_58 (by decide) (by decide) ?_ ?_
      · intro c3
        refine g_lload K 66 d1_66 rfl ?_
        refine g_lconst K 68 (1 : Int64) d1_68 (by decide) ?_
        refine g_iloadN K 69 d1_69 rfl ?_
        refine g_lshl K 70 d1_70 ?_
        refine g_lconst K 71 (1 : Int64) d1_71 (by decide) ?_
        refine g_lsub K 72 d1_72 ?_
        refine g_land K 73 d1_73 ?_
        refine g_lreturn K 74 d1_74 rfl (by decide) (by decide) ?_
        rw [hQ]
        refine ⟨?_, rfl⟩
        show some (Value.long _) = some (Value.long (f_read xs q1 p2))
        unfold f_read
        first | (rw [if_neg c1, if_neg c2, if_neg c3]; done) | (rw [if_neg c1, if_neg c2, if_neg c3]; rfl)
      · intro c3
        refine g_lload K 61 d1_61 rfl ?_
        refine g_goto K 63 74 d1_63 (by decide) (by decide) ?_
        refine g_lreturn K 74 d1_74 rfl (by decide) (by decide) ?_
        rw [hQ]
        refine ⟨?_, rfl⟩
        show some (Value.long _) = some (Value.long (f_read xs q1 p2))
        unfold f_read
        first | (rw [if_neg c1, if_neg c2, if_pos c3]; done) | (rw [if_neg c1, if_neg c2, if_pos c3]; rfl)
    · intro c2
      refine g_lload K 38 d1_38 rfl ?_
      refine g_aloadN K 40 d1_40 rfl rfl ?_
      refine g_iload K 41 d1_41 rfl ?_
      refine g_iconst K 43 (1 : Int32) d1_43 (by decide) ?_
      refine g_iadd K 44 d1_44 ?_
      refine g_laload K 45 (rd xs (((XT.ushrL q1 (6 : Int32)).toInt32) + (1 : Int32))) d1_45 A0 (hi1.1) (rd_some hi1.2) ?_
      refine g_bipush K 46 (64 : Int32) d1_46 (by decide) ?_
      refine g_iload K 48 d1_48 rfl ?_
      refine g_isub K 50 d1_50 ?_
      refine g_lshl K 51 d1_51 ?_
      refine g_lor K 52 d1_52 ?_
      refine g_lstore K 53 #[.val (.ref o0), .val (.long q1), .second, .val (.int p2), .val (.int (XT.ushrL q1 (6 : Int32)).toInt32), .val (.int (q1.toInt32 &&& (63 : Int32))), .val (.long ((XT.ushrL (rd xs ((XT.ushrL q1 (6 : Int32)).toInt32)) (q1.toInt32 &&& (63 : Int32))) ||| ((rd xs (((XT.ushrL q1 (6 : Int32)).toInt32) + (1 : Int32))) <<< (((64 : Int32) - (q1.toInt32 &&& (63 : Int32))).toInt64 &&& 63)))), .second] d1_53 rfl ?_
      refine g_iloadN K 55 d1_55 rfl ?_
      refine g_bipush K 56 (64 : Int32) d1_56 (by decide) ?_
      refine g_ii_ne K 58 66 d1_58 (by decide) (by decide) ?_ ?_
      · intro c4
        refine g_lload K 66 d1_66 rfl ?_
        refine g_lconst K 68 (1 : Int64) d1_68 (by decide) ?_
        refine g_iloadN K 69 d1_69 rfl ?_
        refine g_lshl K 70 d1_70 ?_
        refine g_lconst K 71 (1 : Int64) d1_71 (by decide) ?_
        refine g_lsub K 72 d1_72 ?_
        refine g_land K 73 d1_73 ?_
        refine g_lreturn K 74 d1_74 rfl (by decide) (by decide) ?_
        rw [hQ]
        refine ⟨?_, rfl⟩
        show some (Value.long _) = some (Value.long (f_read xs q1 p2))
        unfold f_read
        first | (rw [if_neg c1, if_pos c2, if_neg c4]; done) | (rw [if_neg c1, if_pos c2, if_neg c4]; rfl)
      · intro c4
        refine g_lload K 61 d1_61 rfl ?_
        refine g_goto K 63 74 d1_63 (by decide) (by decide) ?_
        refine g_lreturn K 74 d1_74 rfl (by decide) (by decide) ?_
        rw [hQ]
        refine ⟨?_, rfl⟩
        show some (Value.long _) = some (Value.long (f_read xs q1 p2))
        unfold f_read
        first | (rw [if_neg c1, if_pos c2, if_pos c4]; done) | (rw [if_neg c1, if_pos c2, if_pos c4]; rfl)
  · intro c1
    refine g_lconst K 4 (0 : Int64) d1_4 (by decide) ?_
    refine g_lreturn K 5 d1_5 rfl (by decide) (by decide) ?_
    rw [hQ]
    refine ⟨?_, rfl⟩
    show some (Value.long _) = some (Value.long (f_read xs q1 p2))
    unfold f_read
    first | (rw [if_pos c1]; done) | (rw [if_pos c1]; rfl)
theorem own_ix (pos : Int64) (hp : 0 ≤ pos.toInt ∧ pos.toInt < 128) : (XT.ushrL pos (6 : Int32)).toInt32.toInt = pos.toInt / 64 ∧ ((XT.ushrL pos (6 : Int32)).toInt32 + (1 : Int32)).toInt = pos.toInt / 64 + 1 ∧ (pos.toInt32 &&& (63 : Int32)).toInt = pos.toInt % 64 := by
  have h1 := n_lushr pos 6 6 (by decide)
  have h2 := nn64 pos hp.1
  have h3 := i64 (XT.ushrL pos 6)
  rw [h1, h2, if_pos (by omega)] at h3
  have h4 := c_l2i (XT.ushrL pos 6)
  have r4 := rng32 (XT.ushrL pos 6).toInt32
  generalize (XT.ushrL pos 6).toInt32 = I at *
  generalize XT.ushrL pos 6 = I6 at *
  have h5 := c_iadd I 1
  have r5 := rng32 (I + 1)
  rw [show (1 : Int32).toInt = 1 from by decide] at h5
  have h6 := c_l2i pos
  have r6 := rng32 pos.toInt32
  have h7 := c_mask pos.toInt32 63 6 (by decide) (by decide)
  generalize I + 1 = I1 at *
  refine ⟨by omega, by omega, ?_⟩
  rw [h7]
  omega
theorem own_rd (a b c : Int64) (j : Int32) (n : Nat) (h : j.toInt = n) : rd [a, b, c] j = [a, b, c].getD n 0 := by
  unfold rd
  have : j.toNatClampNeg = n := by show j.toInt.toNat = n; omega
  rw [this]
theorem own_i0 (a b c : Int64) (p : Int32) : ¬ (XT.ushrL (p &&& 127).toInt64 (6 : Int32)).toInt32 < 0 ∧ (XT.ushrL (p &&& 127).toInt64 (6 : Int32)).toInt32.toNatClampNeg < [a, b, c].length := by
  have hp : 0 ≤ (p &&& 127).toInt64.toInt ∧ (p &&& 127).toInt64.toInt < 128 := by rw [c_i2l, c_mask p 127 7 (by decide) (by decide)]; omega
  obtain ⟨h1, h2, -⟩ := own_ix _ hp
  generalize (p &&& 127).toInt64 = pos at *
  refine ⟨by rw [Int32.lt_iff_toInt_lt, show (0 : Int32).toInt = 0 from by decide]; omega, ?_⟩
  show (XT.ushrL pos (6 : Int32)).toInt32.toInt.toNat < 3
  omega
theorem own_i1 (a b c : Int64) (p : Int32) : ¬ ((XT.ushrL (p &&& 127).toInt64 (6 : Int32)).toInt32 + (1 : Int32)) < 0 ∧ ((XT.ushrL (p &&& 127).toInt64 (6 : Int32)).toInt32 + (1 : Int32)).toNatClampNeg < [a, b, c].length := by
  have hp : 0 ≤ (p &&& 127).toInt64.toInt ∧ (p &&& 127).toInt64.toInt < 128 := by rw [c_i2l, c_mask p 127 7 (by decide) (by decide)]; omega
  obtain ⟨h1, h2, -⟩ := own_ix _ hp
  generalize (p &&& 127).toInt64 = pos at *
  refine ⟨by rw [Int32.lt_iff_toInt_lt, show (0 : Int32).toInt = 0 from by decide]; omega, ?_⟩
  show ((XT.ushrL pos (6 : Int32)).toInt32 + (1 : Int32)).toInt.toNat < 3
  omega
theorem own_base (A B : Int64) (o : Int32) (ho : 0 ≤ o.toInt ∧ o.toInt < 64) (K : Nat) (hK : K < 64) :
    (XT.ushrL A o).toBitVec.getLsbD K = A.toBitVec.getLsbD (o.toInt.toNat + K) ∧ (0 < o.toInt → (B <<< (((64 : Int32) - o).toInt64 &&& 63)).toBitVec.getLsbD K = (!decide (K < 64 - o.toInt.toNat) && B.toBitVec.getLsbD (K - (64 - o.toInt.toNat)))) := by
  constructor
  · rw [bv_lushr, BitVec.getLsbD_ushiftRight, nn32 o ho.1]
    congr 1; omega
  · intro h0
    have h1 := c_isub 64 o
    have r1 := rng32 (64 - o)
    rw [show (64 : Int32).toInt = 64 from by decide] at h1
    have h2 : ((64 : Int32) - o).toBitVec.toNat % 64 = 64 - o.toInt.toNat := by
      rw [nn32 _ (by omega)]; omega
    rw [bv_lshl, h2, BitVec.getLsbD_shiftLeft]
    simp [hK]
theorem own_read (a b c pos : Int64) (w k : Int32) (hp : 0 ≤ pos.toInt ∧ pos.toInt < 128) (hw : 0 ≤ w.toInt ∧ w.toInt ≤ 64) (hk : 0 ≤ k.toInt ∧ k.toInt < 64) :
    (f_read [a, b, c] pos w).toBitVec.getLsbD k.toInt.toNat = (decide (k.toInt < w.toInt) && ([a, b, c].getD ((pos.toInt + k.toInt) / 64).toNat 0).toBitVec.getLsbD ((pos.toInt + k.toInt) % 64).toNat) := by
  obtain ⟨h1, h2, h3⟩ := own_ix pos hp
  have e0 : (0 : Int32).toInt = 0 := by decide
  have e64 : (64 : Int32).toInt = 64 := by decide
  unfold f_read
  have kw0 : w = 0 ↔ w.toInt = 0 := by rw [← Int32.toInt_inj, e0]
  have kw64 : w = 64 ↔ w.toInt = 64 := by rw [← Int32.toInt_inj, e64]
  have hA := own_rd a b c _ (pos.toInt / 64).toNat (by rw [h1]; omega)
  have hB := own_rd a b c _ (pos.toInt / 64).toNat.succ (by rw [h2]; omega)
  rw [hA, hB]
  generalize (XT.ushrL pos 6).toInt32 = I at *
  generalize hO : (pos.toInt32 &&& (63 : Int32)) = o at *
  have h4 := c_iadd o w
  have r4 := rng32 (o + w)
  have hsum : (64 : Int32) < o + w ↔ 64 < pos.toInt % 64 + w.toInt := by
    rw [Int32.lt_iff_toInt_lt, e64]; omega
  have hbase := fun A B => own_base A B o (by omega) k.toInt.toNat (by omega)
  have hmask : ¬ w.toInt = 64 → (((1 : Int64) <<< (w.toInt64 &&& 63)) - 1).toBitVec.getLsbD k.toInt.toNat = decide (k.toInt.toNat < w.toInt.toNat) := fun q => own_mask w (by omega) _ (by omega)
  generalize ((1 : Int64) <<< (w.toInt64 &&& 63)) - 1 = mk at *
  have hKn : ∀ j, 64 ≤ j → ∀ X : Int64, X.toBitVec.getLsbD j = false := fun j hj X => BitVec.getLsbD_of_ge _ _ hj
  by_cases q0 : w.toInt = 0
  · rw [if_pos (kw0.mpr q0)]
    rw [show decide (k.toInt < w.toInt) = false from decide_eq_false (by omega)]
    simp
  · rw [if_neg (fun u => q0 (kw0.mp u))]
    -- the word read
    have main : ∀ r : Int64, r.toBitVec.getLsbD k.toInt.toNat = (if 64 < pos.toInt % 64 + w.toInt then (XT.ushrL ([a, b, c].getD (pos.toInt / 64).toNat 0) o ||| [a, b, c].getD (pos.toInt / 64).toNat.succ 0 <<< (((64 : Int32) - o).toInt64 &&& 63)) else XT.ushrL ([a, b, c].getD (pos.toInt / 64).toNat 0) o).toBitVec.getLsbD k.toInt.toNat →
        k.toInt < w.toInt → r.toBitVec.getLsbD k.toInt.toNat = ([a, b, c].getD ((pos.toInt + k.toInt) / 64).toNat 0).toBitVec.getLsbD ((pos.toInt + k.toInt) % 64).toNat := by
      intro r hr hlt
      rw [hr]
      by_cases c1 : pos.toInt % 64 + k.toInt < 64
      · have i1 : ((pos.toInt + k.toInt) / 64).toNat = (pos.toInt / 64).toNat := by omega
        have i2 : ((pos.toInt + k.toInt) % 64).toNat = o.toInt.toNat + k.toInt.toNat := by omega
        rw [i1, i2]
        split
        · rw [Int64.toBitVec_or, BitVec.getLsbD_or, (hbase _ 0).1, (hbase 0 _).2 (by omega)]
          have : k.toInt.toNat < 64 - o.toInt.toNat := by omega
          rw [decide_eq_true this, Bool.not_true, Bool.false_and, Bool.or_false]
        · exact (hbase _ 0).1
      · have i1 : ((pos.toInt + k.toInt) / 64).toNat = (pos.toInt / 64).toNat.succ := by omega
        have i2 : ((pos.toInt + k.toInt) % 64).toNat = k.toInt.toNat - (64 - o.toInt.toNat) := by omega
        rw [i1, i2, if_pos (by omega)]
        rw [Int64.toBitVec_or, BitVec.getLsbD_or, (hbase _ 0).1, (hbase 0 _).2 (by omega), hKn _ (by omega)]
        have : ¬ k.toInt.toNat < 64 - o.toInt.toNat := by omega
        rw [decide_eq_false this, Bool.not_false, Bool.true_and, Bool.false_or]
    by_cases c2 : 64 < pos.toInt % 64 + w.toInt
    · rw [if_pos (hsum.mpr c2)]
      by_cases c3 : w.toInt = 64
      · rw [if_pos (kw64.mpr c3), show decide (k.toInt < w.toInt) = true from decide_eq_true (by omega), Bool.true_and]
        exact main _ (by rw [if_pos c2]) (by omega)
      · rw [if_neg (fun u => c3 (kw64.mp u)), Int64.toBitVec_and, BitVec.getLsbD_and, hmask c3]
        by_cases c4 : k.toInt < w.toInt
        · rw [show decide (k.toInt < w.toInt) = true from decide_eq_true c4, show decide (k.toInt.toNat < w.toInt.toNat) = true from decide_eq_true (by omega), Bool.and_true, Bool.true_and]
          exact main _ (by rw [if_pos c2]) c4
        · rw [show decide (k.toInt < w.toInt) = false from decide_eq_false c4, show decide (k.toInt.toNat < w.toInt.toNat) = false from decide_eq_false (by omega), Bool.and_false, Bool.false_and]
    · rw [if_neg (fun u => c2 (hsum.mp u))]
      by_cases c3 : w.toInt = 64
      · rw [if_pos (kw64.mpr c3), show decide (k.toInt < w.toInt) = true from decide_eq_true (by omega), Bool.true_and]
        exact main _ (by rw [if_neg c2]) (by omega)
      · rw [if_neg (fun u => c3 (kw64.mp u)), Int64.toBitVec_and, BitVec.getLsbD_and, hmask c3]
        by_cases c4 : k.toInt < w.toInt
        · rw [show decide (k.toInt < w.toInt) = true from decide_eq_true c4, show decide (k.toInt.toNat < w.toInt.toNat) = true from decide_eq_true (by omega), Bool.and_true, Bool.true_and]
          exact main _ (by rw [if_neg c2]) c4
        · rw [show decide (k.toInt < w.toInt) = false from decide_eq_false c4, show decide (k.toInt.toNat < w.toInt.toNat) = false from decide_eq_false (by omega), Bool.and_false, Bool.false_and]
theorem own_main (a b c : Int64) (p3 p4 p5 : Int32) :
    (¬ (p5 &&& (63 : Int32)) < ((p4 &&& (2147483647 : Int32)) % (65 : Int32)) → ((XT.ushrL (f_read ([a, b, c]) ((p3 &&& (127 : Int32)).toInt64) ((p4 &&& (2147483647 : Int32)) % (65 : Int32))) (p5 &&& (63 : Int32))) &&& (1 : Int64)) = (0 : Int64)) ∧
    ((p5 &&& (63 : Int32)) < ((p4 &&& (2147483647 : Int32)) % (65 : Int32)) → ∀ X : Int64, X = [a, b, c].getD ((((p3 &&& (127 : Int32)).toInt64) + ((p5 &&& (63 : Int32)).toInt64)).toInt / 64).toNat 0 → ((XT.ushrL (f_read ([a, b, c]) ((p3 &&& (127 : Int32)).toInt64) ((p4 &&& (2147483647 : Int32)) % (65 : Int32))) (p5 &&& (63 : Int32))) &&& (1 : Int64)) = ((XT.ushrL X (((((p3 &&& (127 : Int32)).toInt64) + ((p5 &&& (63 : Int32)).toInt64)) &&& (63 : Int64)).toInt32)) &&& (1 : Int64))) ∧
    0 ≤ (((p3 &&& (127 : Int32)).toInt64) + ((p5 &&& (63 : Int32)).toInt64)).toInt ∧ (((p3 &&& (127 : Int32)).toInt64) + ((p5 &&& (63 : Int32)).toInt64)).toInt < 192 := by
  have hp : 0 ≤ (p3 &&& 127).toInt64.toInt ∧ (p3 &&& 127).toInt64.toInt < 128 := by rw [c_i2l, c_mask p3 127 7 (by decide) (by decide)]; omega
  have hk : 0 ≤ (p5 &&& 63).toInt ∧ (p5 &&& 63).toInt < 64 := by rw [c_mask p5 63 6 (by decide) (by decide)]; omega
  have hm := c_mask p4 2147483647 31 (by decide) (by decide)
  have hw := (c_irem (p4 &&& 2147483647) 65 65 (by decide)).1 (by omega)
  generalize (p4 &&& 2147483647) % 65 = w at *
  generalize (p3 &&& 127).toInt64 = pos at *
  have hkl := c_i2l (p5 &&& 63)
  generalize (p5 &&& 63) = k at *
  have h := own_read a b c pos w k hp (by omega) hk
  have h1 := c_ladd pos k.toInt64
  have r1 := rng64 (pos + k.toInt64)
  have hkn : k.toBitVec.toNat % 64 = k.toInt.toNat := by rw [nn32 k hk.1]; omega
  have hmk := c_maskL (pos + k.toInt64) 63 6 (by decide) (by decide)
  have hl2 := c_l2i ((pos + k.toInt64) &&& 63)
  have rl2 := rng32 ((pos + k.toInt64) &&& 63).toInt32
  have hq : (pos + k.toInt64).toInt = pos.toInt + k.toInt := by omega
  have hs : ((pos + k.toInt64) &&& 63).toInt32.toBitVec.toNat % 64 = ((pos.toInt + k.toInt) % 64).toNat := by
    rw [nn32 _ (by omega)]; omega
  refine ⟨fun u => ?_, fun u X hX => ?_, by omega, by omega⟩
  · rw [Int32.lt_iff_toInt_lt] at u
    rw [own_bit, hkn, h, decide_eq_false u, Bool.false_and]; rfl
  · rw [Int32.lt_iff_toInt_lt] at u
    rw [own_bit, own_bit, hkn, hs, h, decide_eq_true u, Bool.true_and, hX, hq]
theorem own_pick (q : Int64) (h : 0 ≤ q.toInt ∧ q.toInt < 192) : (q < 64 → (q.toInt / 64).toNat = 0) ∧ (¬ q < 64 → q < 128 → (q.toInt / 64).toNat = 1) ∧ (¬ q < 128 → (q.toInt / 64).toNat = 2) := by
  have e1 : (64 : Int64).toInt = 64 := by decide
  have e2 : (128 : Int64).toInt = 128 := by decide
  simp only [Int64.lt_iff_toInt_lt, e1, e2]
  omega
set_option maxRecDepth 65536 in
set_option maxHeartbeats 40000000 in
theorem rm_law (l : Launch) (Z : State) (a0 : Array Value) (hw : ∀ d ∈ tables_1, d.before a0 Z = true) (q0 : Int64) (q1 : Int64) (q2 : Int64) (p3 : Int32) (p4 : Int32) (p5 : Int32) (h0 : Heap) (n0 : Nat) (Z0 : n0 ≤ h0.size)  :
    Meets l x code maxLocals ret room_1 Z #[(.long q0), (.long q1), (.long q2), (.int p3), (.int p4), (.int p5)] h0 n0 (fun v h => v = some (Value.int 1)) := by
  refine meets_of (plainFor_of_name pn1) (Ls := #[.val (.long q0), .second, .val (.long q1), .second, .val (.long q2), .second, .val (.int p3), .val (.int p4), .val (.int p5), .unset, .unset, .unset, .unset, .unset, .unset, .unset, .unset, .unset, .unset, .unset, .unset, .unset, .unset, .unset]) (fun m => by first | (simp [entryFrame, mkF, argsToLocals, Value.category, maxLocals]; done) | rfl) ?_
  intro p e s m below meth c K
  replace K : Kx Z "com/example/zedcube/zedcube/engine/BitArrayReadPinLaw" "law" code maxLocals ret p s m meth c := K
  obtain ⟨Q, hQ⟩ : ∃ Q : Option Value → Heap → Prop, Q = (fun v h => v = some (Value.int 1)) := ⟨_, rfl⟩
  rw [← hQ]
  refine g_iconst K 0 (3 : Int32) at_0 (by decide) ?_
  refine g_newJ K 1 at_1 (tw hw 0 rfl) (by decide) 3 (by decide) (by decide) (by decide) (by decide) ?_
  intro h2 a1 eq5 Kp3 A4
  have g6 : n0 ≤ a1 := eq5 ▸ Z0
  have Z7 := Nat.le_trans Z0 Kp3.1
  have A8 : LA Z h2 a1 [0, 0, 0] := (by have q := A4; rw [show (3 : Int32).toNatClampNeg = 3 from by decide] at q; exact q)
  refine g_dup K 3 at_3 rfl ?_
  refine g_iconst K 4 (0 : Int32) at_4 (by decide) ?_
  refine g_lloadN K 5 at_5 rfl ?_
  refine g_lastore K 6 at_6 A8 (by decide) (show (0 : Int32).toNatClampNeg < 3 from by decide) g6 ?_
  intro h9 Kp10 A11
  have Z12 := Nat.le_trans Z7 Kp10.1
  have A13 : LA Z h9 a1 [q0, 0, 0] := (by have q := A11; rw [show (0 : Int32).toNatClampNeg = 0 from by decide] at q; exact q)
  refine g_dup K 7 at_7 rfl ?_
  refine g_iconst K 8 (1 : Int32) at_8 (by decide) ?_
  refine g_lloadN K 9 at_9 rfl ?_
  refine g_lastore K 10 at_10 A13 (by decide) (show (1 : Int32).toNatClampNeg < 3 from by decide) g6 ?_
  intro h14 Kp15 A16
  have Z17 := Nat.le_trans Z12 Kp15.1
  have A18 : LA Z h14 a1 [q0, q1, 0] := (by have q := A16; rw [show (1 : Int32).toNatClampNeg = 1 from by decide] at q; exact q)
  refine g_dup K 11 at_11 rfl ?_
  refine g_iconst K 12 (2 : Int32) at_12 (by decide) ?_
  refine g_lload K 13 at_13 rfl ?_
  refine g_lastore K 15 at_15 A18 (by decide) (show (2 : Int32).toNatClampNeg < 3 from by decide) g6 ?_
  intro h19 Kp20 A21
  have Z22 := Nat.le_trans Z17 Kp20.1
  have A23 : LA Z h19 a1 [q0, q1, q2] := (by have q := A21; rw [show (2 : Int32).toNatClampNeg = 2 from by decide] at q; exact q)
  refine g_astore K 16 #[.val (.long q0), .second, .val (.long q1), .second, .val (.long q2), .second, .val (.int p3), .val (.int p4), .val (.int p5), .val (.ref a1), .unset, .unset, .unset, .unset, .unset, .unset, .unset, .unset, .unset, .unset, .unset, .unset, .unset, .unset] at_16 rfl rfl ?_
  refine g_iload K 18 at_18 rfl ?_
  refine g_bipush K 20 (127 : Int32) at_20 (by decide) ?_
  refine g_iand K 22 at_22 ?_
  refine g_i2l K 23 at_23 ?_
  refine g_lstore K 24 #[.val (.long q0), .second, .val (.long q1), .second, .val (.long q2), .second, .val (.int p3), .val (.int p4), .val (.int p5), .val (.ref a1), .val (.long (p3 &&& (127 : Int32)).toInt64), .second, .unset, .unset, .unset, .unset, .unset, .unset, .unset, .unset, .unset, .unset, .unset, .unset] at_24 rfl ?_
  refine g_iload K 26 at_26 rfl ?_
  refine g_ldc K 28 (v := (2147483647 : Int32)) at_28 (tw hw 1 rfl) ?_
  refine g_iand K 30 at_30 ?_
  refine g_bipush K 31 (65 : Int32) at_31 (by decide) ?_
  refine g_irem K 33 at_33 (by decide) ?_
  refine g_istore K 34 #[.val (.long q0), .second, .val (.long q1), .second, .val (.long q2), .second, .val (.int p3), .val (.int p4), .val (.int p5), .val (.ref a1), .val (.long (p3 &&& (127 : Int32)).toInt64), .second, .val (.int ((p4 &&& (2147483647 : Int32)) % (65 : Int32))), .unset, .unset, .unset, .unset, .unset, .unset, .unset, .unset, .unset, .unset, .unset] at_34 rfl ?_
  refine g_iload K 36 at_36 rfl ?_
  refine g_bipush K 38 (63 : Int32) at_38 (by decide) ?_
  refine g_iand K 40 at_40 ?_
  refine g_istore K 41 #[.val (.long q0), .second, .val (.long q1), .second, .val (.long q2), .second, .val (.int p3), .val (.int p4), .val (.int p5), .val (.ref a1), .val (.long (p3 &&& (127 : Int32)).toInt64), .second, .val (.int ((p4 &&& (2147483647 : Int32)) % (65 : Int32))), .val (.int (p5 &&& (63 : Int32))), .unset, .unset, .unset, .unset, .unset, .unset, .unset, .unset, .unset, .unset] at_41 rfl ?_
  refine g_aload K 43 at_43 rfl rfl ?_
  refine g_lload K 45 at_45 rfl ?_
  refine g_iload K 47 at_47 rfl ?_
  refine g_callS K 49 [(.ref a1), (.long (p3 &&& (127 : Int32)).toInt64), (.int ((p4 &&& (2147483647 : Int32)) % (65 : Int32)))] 0 at_49 (rm_read l Z a0 hw a1 ((p3 &&& (127 : Int32)).toInt64) ((p4 &&& (2147483647 : Int32)) % (65 : Int32)) h19 n0 Z22 ([q0, q1, q2]) A23 (own_i0 _ _ _ _) (own_i1 _ _ _ _)) (tw hw 2 rfl) (tw hw 3 rfl) (tw hw 4 rfl) (tw hw 5 rfl) (by decide) pd0 rfl (st := []) rfl (Nat.le_of_eq rfl) rfl (by decide) (by decide) (by decide) (by decide) ?_
  rintro _ _ ⟨hv, hh⟩
  rw [hv, hh]
  clear hv hh
  refine go_cast (k' := (0 + 1)) (n' := (0 + 3)) (st' := [(.long (f_read ([q0, q1, q2]) ((p3 &&& (127 : Int32)).toInt64) ((p4 &&& (2147483647 : Int32)) % (65 : Int32))))]) rfl rfl rfl ?_
  refine g_lstore K 52 #[.val (.long q0), .second, .val (.long q1), .second, .val (.long q2), .second, .val (.int p3), .val (.int p4), .val (.int p5), .val (.ref a1), .val (.long (p3 &&& (127 : Int32)).toInt64), .second, .val (.int ((p4 &&& (2147483647 : Int32)) % (65 : Int32))), .val (.int (p5 &&& (63 : Int32))), .val (.long (f_read ([q0, q1, q2]) ((p3 &&& (127 : Int32)).toInt64) ((p4 &&& (2147483647 : Int32)) % (65 : Int32)))), .second, .unset, .unset, .unset, .unset, .unset, .unset, .unset, .unset] at_52 rfl ?_
  refine g_lload K 54 at_54 rfl ?_
  refine g_iload K 56 at_56 rfl ?_
  refine g_lushr K 58 at_58 ?_
  refine g_lconst K 59 (1 : Int64) at_59 (by decide) ?_
  refine g_land K 60 at_60 ?_
  refine g_lstore K 61 #[.val (.long q0), .second, .val (.long q1), .second, .val (.long q2), .second, .val (.int p3), .val (.int p4), .val (.int p5), .val (.ref a1), .val (.long (p3 &&& (127 : Int32)).toInt64), .second, .val (.int ((p4 &&& (2147483647 : Int32)) % (65 : Int32))), .val (.int (p5 &&& (63 : Int32))), .val (.long (f_read ([q0, q1, q2]) ((p3 &&& (127 : Int32)).toInt64) ((p4 &&& (2147483647 : Int32)) % (65 : Int32)))), .second, .val (.long ((XT.ushrL (f_read ([q0, q1, q2]) ((p3 &&& (127 : Int32)).toInt64) ((p4 &&& (2147483647 : Int32)) % (65 : Int32))) (p5 &&& (63 : Int32))) &&& (1 : Int64))), .second, .unset, .unset, .unset, .unset, .unset, .unset] at_61 rfl ?_
  refine g_lconst K 63 (0 : Int64) at_63 (by decide) ?_
  refine g_lstore K 64 #[.val (.long q0), .second, .val (.long q1), .second, .val (.long q2), .second, .val (.int p3), .val (.int p4), .val (.int p5), .val (.ref a1), .val (.long (p3 &&& (127 : Int32)).toInt64), .second, .val (.int ((p4 &&& (2147483647 : Int32)) % (65 : Int32))), .val (.int (p5 &&& (63 : Int32))), .val (.long (f_read ([q0, q1, q2]) ((p3 &&& (127 : Int32)).toInt64) ((p4 &&& (2147483647 : Int32)) % (65 : Int32)))), .second, .val (.long ((XT.ushrL (f_read ([q0, q1, q2]) ((p3 &&& (127 : Int32)).toInt64) ((p4 &&& (2147483647 : Int32)) % (65 : Int32))) (p5 &&& (63 : Int32))) &&& (1 : Int64))), .second, .val (.long (0 : Int64)), .second, .unset, .unset, .unset, .unset] at_64 rfl ?_
  refine g_iload K 66 at_66 rfl ?_
  refine g_iload K 68 at_68 rfl ?_
  refine g_ii_ge K 70 125 at_70 (by decide) (by decide) ?_ ?_
  · intro c24
    refine g_lload K 125 at_125 rfl ?_
    refine g_lload K 127 at_127 rfl ?_
    refine g_lcmp K 129 at_129 ?_
    refine g_ll_ne K 130 137 at_130 (by decide) (by decide) ?_ ?_
    · intro c25
      exfalso
      exact c25 ((own_main q0 q1 q2 p3 p4 p5).1 c24)
    · intro c25
      refine g_iconst K 133 (1 : Int32) at_133 (by decide) ?_
      refine g_goto K 134 138 at_134 (by decide) (by decide) ?_
      refine g_retN K 138 .boolean at_138 rfl (by simp) (by decide) (by decide) ?_
      rw [hQ]
      rfl
  · intro c24
    refine g_lload K 73 at_73 rfl ?_
    refine g_iload K 75 at_75 rfl ?_
    refine g_i2l K 77 at_77 ?_
    refine g_ladd K 78 at_78 ?_
    refine g_lstore K 79 #[.val (.long q0), .second, .val (.long q1), .second, .val (.long q2), .second, .val (.int p3), .val (.int p4), .val (.int p5), .val (.ref a1), .val (.long (p3 &&& (127 : Int32)).toInt64), .second, .val (.int ((p4 &&& (2147483647 : Int32)) % (65 : Int32))), .val (.int (p5 &&& (63 : Int32))), .val (.long (f_read ([q0, q1, q2]) ((p3 &&& (127 : Int32)).toInt64) ((p4 &&& (2147483647 : Int32)) % (65 : Int32)))), .second, .val (.long ((XT.ushrL (f_read ([q0, q1, q2]) ((p3 &&& (127 : Int32)).toInt64) ((p4 &&& (2147483647 : Int32)) % (65 : Int32))) (p5 &&& (63 : Int32))) &&& (1 : Int64))), .second, .val (.long (0 : Int64)), .second, .val (.long (((p3 &&& (127 : Int32)).toInt64) + ((p5 &&& (63 : Int32)).toInt64))), .second, .unset, .unset] at_79 rfl ?_
    refine g_lload K 81 at_81 rfl ?_
    refine g_ldc2_w K 83 (v := (64 : Int64)) at_83 (tw hw 6 rfl) ?_
    refine g_lcmp K 86 at_86 ?_
    refine g_ll_ge K 87 94 at_87 (by decide) (by decide) ?_ ?_
    · intro c26
      refine g_lload K 94 at_94 rfl ?_
      refine g_ldc2_w K 96 (v := (128 : Int64)) at_96 (tw hw 8 rfl) ?_
      refine g_lcmp K 99 at_99 ?_
      refine g_ll_ge K 100 107 at_100 (by decide) (by decide) ?_ ?_
      · intro c27
        refine g_lload K 107 at_107 rfl ?_
        refine g_lstore K 109 #[.val (.long q0), .second, .val (.long q1), .second, .val (.long q2), .second, .val (.int p3), .val (.int p4), .val (.int p5), .val (.ref a1), .val (.long (p3 &&& (127 : Int32)).toInt64), .second, .val (.int ((p4 &&& (2147483647 : Int32)) % (65 : Int32))), .val (.int (p5 &&& (63 : Int32))), .val (.long (f_read ([q0, q1, q2]) ((p3 &&& (127 : Int32)).toInt64) ((p4 &&& (2147483647 : Int32)) % (65 : Int32)))), .second, .val (.long ((XT.ushrL (f_read ([q0, q1, q2]) ((p3 &&& (127 : Int32)).toInt64) ((p4 &&& (2147483647 : Int32)) % (65 : Int32))) (p5 &&& (63 : Int32))) &&& (1 : Int64))), .second, .val (.long (0 : Int64)), .second, .val (.long (((p3 &&& (127 : Int32)).toInt64) + ((p5 &&& (63 : Int32)).toInt64))), .second, .val (.long q2), .second] at_109 rfl ?_
        refine g_lload K 111 at_111 rfl ?_
        refine g_lload K 113 at_113 rfl ?_
        refine g_ldc2_w K 115 (v := (63 : Int64)) at_115 (tw hw 7 rfl) ?_
        refine g_land K 118 at_118 ?_
        refine g_l2i K 119 at_119 ?_
        refine g_lushr K 120 at_120 ?_
        refine g_lconst K 121 (1 : Int64) at_121 (by decide) ?_
        refine g_land K 122 at_122 ?_
        refine g_lstore K 123 #[.val (.long q0), .second, .val (.long q1), .second, .val (.long q2), .second, .val (.int p3), .val (.int p4), .val (.int p5), .val (.ref a1), .val (.long (p3 &&& (127 : Int32)).toInt64), .second, .val (.int ((p4 &&& (2147483647 : Int32)) % (65 : Int32))), .val (.int (p5 &&& (63 : Int32))), .val (.long (f_read ([q0, q1, q2]) ((p3 &&& (127 : Int32)).toInt64) ((p4 &&& (2147483647 : Int32)) % (65 : Int32)))), .second, .val (.long ((XT.ushrL (f_read ([q0, q1, q2]) ((p3 &&& (127 : Int32)).toInt64) ((p4 &&& (2147483647 : Int32)) % (65 : Int32))) (p5 &&& (63 : Int32))) &&& (1 : Int64))), .second, .val (.long ((XT.ushrL q2 (((((p3 &&& (127 : Int32)).toInt64) + ((p5 &&& (63 : Int32)).toInt64)) &&& (63 : Int64)).toInt32)) &&& (1 : Int64))), .second, .val (.long (((p3 &&& (127 : Int32)).toInt64) + ((p5 &&& (63 : Int32)).toInt64))), .second, .val (.long q2), .second] at_123 rfl ?_
        refine g_lload K 125 at_125 rfl ?_
        refine g_lload K 127 at_127 rfl ?_
        refine g_lcmp K 129 at_129 ?_
        refine g_ll_ne K 130 137 at_130 (by decide) (by decide) ?_ ?_
        · intro c28
          exfalso
          exact c28 ((own_main q0 q1 q2 p3 p4 p5).2.1 c24 _ (by rw [(own_pick _ (own_main q0 q1 q2 p3 p4 p5).2.2).2.2 c27]; rfl))
        · intro c28
          refine g_iconst K 133 (1 : Int32) at_133 (by decide) ?_
          refine g_goto K 134 138 at_134 (by decide) (by decide) ?_
          refine g_retN K 138 .boolean at_138 rfl (by simp) (by decide) (by decide) ?_
          rw [hQ]
          rfl
      · intro c27
        refine g_lloadN K 103 at_103 rfl ?_
        refine g_goto K 104 109 at_104 (by decide) (by decide) ?_
        refine g_lstore K 109 #[.val (.long q0), .second, .val (.long q1), .second, .val (.long q2), .second, .val (.int p3), .val (.int p4), .val (.int p5), .val (.ref a1), .val (.long (p3 &&& (127 : Int32)).toInt64), .second, .val (.int ((p4 &&& (2147483647 : Int32)) % (65 : Int32))), .val (.int (p5 &&& (63 : Int32))), .val (.long (f_read ([q0, q1, q2]) ((p3 &&& (127 : Int32)).toInt64) ((p4 &&& (2147483647 : Int32)) % (65 : Int32)))), .second, .val (.long ((XT.ushrL (f_read ([q0, q1, q2]) ((p3 &&& (127 : Int32)).toInt64) ((p4 &&& (2147483647 : Int32)) % (65 : Int32))) (p5 &&& (63 : Int32))) &&& (1 : Int64))), .second, .val (.long (0 : Int64)), .second, .val (.long (((p3 &&& (127 : Int32)).toInt64) + ((p5 &&& (63 : Int32)).toInt64))), .second, .val (.long q1), .second] at_109 rfl ?_
        refine g_lload K 111 at_111 rfl ?_
        refine g_lload K 113 at_113 rfl ?_
        refine g_ldc2_w K 115 (v := (63 : Int64)) at_115 (tw hw 7 rfl) ?_
        refine g_land K 118 at_118 ?_
        refine g_l2i K 119 at_119 ?_
        refine g_lushr K 120 at_120 ?_
        refine g_lconst K 121 (1 : Int64) at_121 (by decide) ?_
        refine g_land K 122 at_122 ?_
        refine g_lstore K 123 #[.val (.long q0), .second, .val (.long q1), .second, .val (.long q2), .second, .val (.int p3), .val (.int p4), .val (.int p5), .val (.ref a1), .val (.long (p3 &&& (127 : Int32)).toInt64), .second, .val (.int ((p4 &&& (2147483647 : Int32)) % (65 : Int32))), .val (.int (p5 &&& (63 : Int32))), .val (.long (f_read ([q0, q1, q2]) ((p3 &&& (127 : Int32)).toInt64) ((p4 &&& (2147483647 : Int32)) % (65 : Int32)))), .second, .val (.long ((XT.ushrL (f_read ([q0, q1, q2]) ((p3 &&& (127 : Int32)).toInt64) ((p4 &&& (2147483647 : Int32)) % (65 : Int32))) (p5 &&& (63 : Int32))) &&& (1 : Int64))), .second, .val (.long ((XT.ushrL q1 (((((p3 &&& (127 : Int32)).toInt64) + ((p5 &&& (63 : Int32)).toInt64)) &&& (63 : Int64)).toInt32)) &&& (1 : Int64))), .second, .val (.long (((p3 &&& (127 : Int32)).toInt64) + ((p5 &&& (63 : Int32)).toInt64))), .second, .val (.long q1), .second] at_123 rfl ?_
        refine g_lload K 125 at_125 rfl ?_
        refine g_lload K 127 at_127 rfl ?_
        refine g_lcmp K 129 at_129 ?_
        refine g_ll_ne K 130 137 at_130 (by decide) (by decide) ?_ ?_
        · intro c29
          exfalso
          exact c29 ((own_main q0 q1 q2 p3 p4 p5).2.1 c24 _ (by rw [(own_pick _ (own_main q0 q1 q2 p3 p4 p5).2.2).2.1 c26 c27]; rfl))
        · intro c29
          refine g_iconst K 133 (1 : Int32) at_133 (by decide) ?_
          refine g_goto K 134 138 at_134 (by decide) (by decide) ?_
          refine g_retN K 138 .boolean at_138 rfl (by simp) (by decide) (by decide) ?_
          rw [hQ]
          rfl
    · intro c26
      refine g_lloadN K 90 at_90 rfl ?_
      refine g_goto K 91 109 at_91 (by decide) (by decide) ?_
      refine g_lstore K 109 #[.val (.long q0), .second, .val (.long q1), .second, .val (.long q2), .second, .val (.int p3), .val (.int p4), .val (.int p5), .val (.ref a1), .val (.long (p3 &&& (127 : Int32)).toInt64), .second, .val (.int ((p4 &&& (2147483647 : Int32)) % (65 : Int32))), .val (.int (p5 &&& (63 : Int32))), .val (.long (f_read ([q0, q1, q2]) ((p3 &&& (127 : Int32)).toInt64) ((p4 &&& (2147483647 : Int32)) % (65 : Int32)))), .second, .val (.long ((XT.ushrL (f_read ([q0, q1, q2]) ((p3 &&& (127 : Int32)).toInt64) ((p4 &&& (2147483647 : Int32)) % (65 : Int32))) (p5 &&& (63 : Int32))) &&& (1 : Int64))), .second, .val (.long (0 : Int64)), .second, .val (.long (((p3 &&& (127 : Int32)).toInt64) + ((p5 &&& (63 : Int32)).toInt64))), .second, .val (.long q0), .second] at_109 rfl ?_
      refine g_lload K 111 at_111 rfl ?_
      refine g_lload K 113 at_113 rfl ?_
      refine g_ldc2_w K 115 (v := (63 : Int64)) at_115 (tw hw 7 rfl) ?_
      refine g_land K 118 at_118 ?_
      refine g_l2i K 119 at_119 ?_
      refine g_lushr K 120 at_120 ?_
      refine g_lconst K 121 (1 : Int64) at_121 (by decide) ?_
      refine g_land K 122 at_122 ?_
      refine g_lstore K 123 #[.val (.long q0), .second, .val (.long q1), .second, .val (.long q2), .second, .val (.int p3), .val (.int p4), .val (.int p5), .val (.ref a1), .val (.long (p3 &&& (127 : Int32)).toInt64), .second, .val (.int ((p4 &&& (2147483647 : Int32)) % (65 : Int32))), .val (.int (p5 &&& (63 : Int32))), .val (.long (f_read ([q0, q1, q2]) ((p3 &&& (127 : Int32)).toInt64) ((p4 &&& (2147483647 : Int32)) % (65 : Int32)))), .second, .val (.long ((XT.ushrL (f_read ([q0, q1, q2]) ((p3 &&& (127 : Int32)).toInt64) ((p4 &&& (2147483647 : Int32)) % (65 : Int32))) (p5 &&& (63 : Int32))) &&& (1 : Int64))), .second, .val (.long ((XT.ushrL q0 (((((p3 &&& (127 : Int32)).toInt64) + ((p5 &&& (63 : Int32)).toInt64)) &&& (63 : Int64)).toInt32)) &&& (1 : Int64))), .second, .val (.long (((p3 &&& (127 : Int32)).toInt64) + ((p5 &&& (63 : Int32)).toInt64))), .second, .val (.long q0), .second] at_123 rfl ?_
      refine g_lload K 125 at_125 rfl ?_
      refine g_lload K 127 at_127 rfl ?_
      refine g_lcmp K 129 at_129 ?_
      refine g_ll_ne K 130 137 at_130 (by decide) (by decide) ?_ ?_
      · intro c30
        exfalso
        exact c30 ((own_main q0 q1 q2 p3 p4 p5).2.1 c24 _ (by rw [(own_pick _ (own_main q0 q1 q2 p3 p4 p5).2.2).1 c26]; rfl))
      · intro c30
        refine g_iconst K 133 (1 : Int32) at_133 (by decide) ?_
        refine g_goto K 134 138 at_134 (by decide) (by decide) ?_
        refine g_retN K 138 .boolean at_138 rfl (by simp) (by decide) (by decide) ?_
        rw [hQ]
        rfl
set_option maxRecDepth 65536 in
theorem comes_1 {Post : Tables → Env → Array Value → State → Outcome → State → Prop} (hpost : ∀ tb e args s v u, (limb_1_1.after args s (.returned v) u = true ∧ limb_1_2.after args s (.returned v) u = true ∧ True) → FrameEnd s (.returned v) u (Jvm.fieldLocs frame_1_writes args s ++ Jvm.arrayLocs frame_1_arrays args s ++ Jvm.staticLocs frame_1_statics s) 16 128 → Post tb e args s (.returned v) u) :
    ArmFor flags0 classFile x code maxLocals ret World_1 tables_1 room_1 Calls_1 rest_1 Pre_1 Post := by
  intro l hfl _ _ p e ha hc hk s m args below hf hA hF happ hP
  obtain ⟨hcalls, hrest, hpre⟩ := hP
  obtain ⟨-, -, -, hnamed, -, -, -, hat⟩ := (Spec.applies_iff hf).mp happ
  obtain ⟨hg, hn⟩ := and_e (Cond.before_iff.mp (show (Jvm.Cond.and given_1 narrow_1).before args s = true from hpre))
  obtain ⟨hcnt, hg0⟩ := and_e hg
  obtain ⟨w0, w1, w2, w3, w4, w5, rfl⟩ : ∃ w0 w1 w2 w3 w4 w5 : Value, args = #[w0, w1, w2, w3, w4, w5] := by
    have hs : args.size = 6 := by simpa [Cond.value, given_1] using hcnt
    obtain ⟨L⟩ := args
    match L, hs with
    | [w0, w1, w2, w3, w4, w5], _ => exact ⟨w0, w1, w2, w3, w4, w5, rfl⟩
  have hw := fun d (hd : d ∈ tables_1) => atoms_spec (ws := Jvm.Cond.code x code maxLocals ret :: tables_1) hat d (List.mem_cons_of_mem _ hd)
  obtain ⟨hq0, hg1⟩ := and_e hg0
  obtain ⟨i0, e0⟩ := isL_v hq0
  obtain rfl : w0 = (.long i0) := Option.some.inj e0
  obtain ⟨hq1, hg2⟩ := and_e hg1
  obtain ⟨i1, e1⟩ := isL_v hq1
  obtain rfl : w1 = (.long i1) := Option.some.inj e1
  obtain ⟨hq2, hg3⟩ := and_e hg2
  obtain ⟨i2, e2⟩ := isL_v hq2
  obtain rfl : w2 = (.long i2) := Option.some.inj e2
  obtain ⟨hq3, hg4⟩ := and_e hg3
  obtain ⟨i3, e3⟩ := is_v hq3
  obtain rfl : w3 = (.int i3) := Option.some.inj e3
  obtain ⟨hq4, hg5⟩ := and_e hg4
  obtain ⟨i4, e4⟩ := is_v hq4
  obtain rfl : w4 = (.int i4) := Option.some.inj e4
  obtain ⟨i5, e5⟩ := is_v hg5
  obtain rfl : w5 = (.int i5) := Option.some.inj e5
  obtain ⟨n, o, h1, h2, h3, _, L, rfl, ⟨rfl, N⟩, hq⟩ := rm_law l s _ hw i0 i1 i2 i3 i4 i5 s.heap s.heap.size (Nat.le_refl _) tables_1 p e ha hc hk s m _ below hf ((Spec.applies_iff_loose hf).mp happ).1 ⟨rfl, State.Warmed39.refl s, rfl⟩ trivial
  refine ⟨n, _, h1, h2, h3, hpost _ _ _ _ _ _ ⟨Cond.after_iff.mpr rfl, Cond.after_iff.mpr (eq_i res_at (Term.int_eval (1)) rfl), trivial⟩ ⟨hq.1, hq.2.1, (hq.2.2.sift fun y hy => Or.inr (N y hy)).mono (by decide) (by decide)⟩⟩
theorem main_1_1 : Claimed_1_1 := comes_1 fun _ _ _ _ _ _ h hF => ⟨h.1, hF⟩
theorem main_1_2 : Claimed_1_2 := comes_1 fun _ _ _ _ _ _ h hF => ⟨h.2.1, hF⟩
end Jvm.Pilot.@@N@@
namespace Jvm.Pilot.@@N@@
open Jvm Jvm.ClassFile Sem Op Lib Jvm.Free Jvm.Stand Jvm.Pilot.@@N@@.Jvm.D
/-! MADE BY PROGRAM (witnessworld.py) out of the Statement's table words and the real class files: 11 classes; the members and pool entries that the words name. The judged class is class 1, her method 1. -/
namespace start1
open Jvm.ClassFile
def u (s : String) : CpInfo := .utf8 (stringToUtf16 s)
/-- a pool by its gaps: so many unusable entries, then the entry; so many at the end -/
def gap : Nat → List CpInfo → List CpInfo
  | 0, r => r
  | n + 1, r => .unusable :: gap n r
def poolList (es : List (Nat × CpInfo)) (last : Nat) : List CpInfo := es.foldr (fun e r => gap e.1 (e.2 :: r)) (gap last [])
def pool (es : List (Nat × CpInfo)) (last : Nat) : Array CpInfo := ⟨poolList es last⟩
def fileOf (pool : Array CpInfo) (this : Nat) (attrs : Array Attribute := #[]) (ms : Array MethodInfo := #[]) (fl : Nat := 33) (sup : Nat := 0) (ifs : Array Nat := #[]) (fds : Array FieldInfo := #[]) : ClassFile where
  minorVersion := 0
  majorVersion := 65
  constantPool := pool
  accessFlags := fl
  thisClass := this
  superClass := sup
  interfaces := ifs
  fields := fds
  methods := ms
  attributes := attrs
def plain (name : String) (sup : Option ClassId) : Class where
  name := name
  kind := .ordinary
  loader := none
  accessFlags := 33
  super := sup
  interfaces := #[]
  cf := none
  fields := #[]
  methods := #[]
  instanceTypes := #[]
  staticTypes := #[]
  resolved := #[]
  callSites := []
  init := .initialized
  statics := none
  mirror := none

def pool0 : Array CpInfo := pool [(5, u "<init>"), (0, u "()V"), (1, .class_ 10), (1, u "java/lang/Object")] 113

def k0m0 : Method := { name := "<init>", desc := "()V", sig := { parameters := [], returnType := none }, accessFlags := 1, code := none }
/-- java/lang/Object -/
def k0 : Class := { plain "java/lang/Object" none with
  accessFlags := 33
  interfaces := #[]
  cf := some (fileOf pool0 8 #[] #[{ accessFlags := 1, nameIndex := 5, descriptorIndex := 6, attributes := #[] }] 33 0 #[] #[])
  fields := #[]
  methods := #[k0m0]
  instanceTypes := #[]
  staticTypes := #[]
  resolved := Array.replicate 124 none
  statics := none }

def pool1 : Array CpInfo := pool [(2, .class_ 4), (1, u "java/lang/Object"), (0, u "<init>"), (0, u "()V"), (0, .integer 2147483647), (0, .methodref 9 10), (0, .class_ 11), (0, .nameAndType 12 13), (0, u "com/example/zedcube/zedcube/engine/BitArray"), (0, u "read"), (0, u "([JJI)J"), (0, .long 64), (1, .long 128), (1, .long 63), (1, .class_ 21), (0, u "com/example/zedcube/zedcube/engine/BitArrayReadPinLaw"), (2, u "law"), (0, u "(JJJIII)Z")] 5

def k1m0 : Method := { name := "<init>", desc := "()V", sig := { parameters := [], returnType := none }, accessFlags := 1, code := none }
def k1c1 : Code := { maxStack := 6, maxLocals := 24, code := code, exceptionTable := #[], attributes := #[] }
def k1m1 : Method := { name := "law", desc := "(JJJIII)Z", sig := { parameters := [.long, .long, .long, .int, .int, .int], returnType := some .boolean }, accessFlags := 9, code := some k1c1 }
/-- com/example/zedcube/zedcube/engine/BitArrayReadPinLaw -/
def k1 : Class := { plain "com/example/zedcube/zedcube/engine/BitArrayReadPinLaw" (some 0) with
  accessFlags := 49
  interfaces := #[]
  cf := some (fileOf pool1 20 #[] #[{ accessFlags := 1, nameIndex := 5, descriptorIndex := 6, attributes := #[] }, { accessFlags := 9, nameIndex := 24, descriptorIndex := 25, attributes := #[] }] 49 2 #[] #[])
  fields := #[]
  methods := #[k1m0, k1m1]
  instanceTypes := #[]
  staticTypes := #[]
  resolved := Array.replicate 31 none
  statics := none }

def pool2 : Array CpInfo := pool [(2, .class_ 4), (1, u "java/lang/Object"), (0, u "<init>"), (0, u "()V"), (7, .class_ 16), (1, u "com/example/zedcube/zedcube/engine/BitArray"), (0, u "read"), (0, u "([JJI)J")] 73

def k2m0 : Method := { name := "<init>", desc := "()V", sig := { parameters := [], returnType := none }, accessFlags := 2, code := none }
def k2c1 : Code := { maxStack := 6, maxLocals := 8, code := prog_4_method_2_code, exceptionTable := #[], attributes := #[] }
def k2m1 : Method := { name := "read", desc := "([JJI)J", sig := { parameters := [(.array .long), .long, .int], returnType := some .long }, accessFlags := 8, code := some k2c1 }
/-- com/example/zedcube/zedcube/engine/BitArray -/
def k2 : Class := { plain "com/example/zedcube/zedcube/engine/BitArray" (some 0) with
  accessFlags := 48
  interfaces := #[]
  cf := some (fileOf pool2 14 #[] #[{ accessFlags := 2, nameIndex := 5, descriptorIndex := 6, attributes := #[] }, { accessFlags := 8, nameIndex := 17, descriptorIndex := 18, attributes := #[] }] 48 2 #[] #[])
  fields := #[]
  methods := #[k2m0, k2m1]
  instanceTypes := #[]
  staticTypes := #[]
  resolved := Array.replicate 92 none
  statics := none }

def pool3 : Array CpInfo := pool [(1, u "java/lang/Cloneable"), (0, .class_ 1), (0, u "java/lang/Object"), (0, .class_ 3)] 3

/-- java/lang/Cloneable -/
def k3 : Class := { plain "java/lang/Cloneable" (some 0) with
  accessFlags := 1537
  interfaces := #[]
  cf := some (fileOf pool3 2 #[] #[] 1537 4 #[] #[])
  fields := #[]
  methods := #[]
  instanceTypes := #[]
  staticTypes := #[]
  resolved := Array.replicate 8 none
  statics := none }

def pool4 : Array CpInfo := pool [(1, u "java/io/Serializable"), (0, .class_ 1), (0, u "java/lang/Object"), (0, .class_ 3)] 3

/-- java/io/Serializable -/
def k4 : Class := { plain "java/io/Serializable" (some 0) with
  accessFlags := 1537
  interfaces := #[]
  cf := some (fileOf pool4 2 #[] #[] 1537 4 #[] #[])
  fields := #[]
  methods := #[]
  instanceTypes := #[]
  staticTypes := #[]
  resolved := Array.replicate 8 none
  statics := none }

/-- the primitive byte -/
def k5 : Class := { plain "byte" none with kind := .primitive 'B', accessFlags := 0x411 }
/-- [B -/
def k6 : Class := { plain "[B" (some 0) with kind := .array 5 .byte, interfaces := #[3, 4], accessFlags := 1041 }

/-- the primitive int -/
def k7 : Class := { plain "int" none with kind := .primitive 'I', accessFlags := 0x411 }
/-- [I -/
def k8 : Class := { plain "[I" (some 0) with kind := .array 7 .int, interfaces := #[3, 4], accessFlags := 1041 }

/-- the primitive long -/
def k9 : Class := { plain "long" none with kind := .primitive 'J', accessFlags := 0x411 }
/-- [J -/
def k10 : Class := { plain "[J" (some 0) with kind := .array 9 .long, interfaces := #[3, 4], accessFlags := 1041 }

def heap : Heap := #[]
def classes : Array Class := #[k0, k1, k2, k3, k4, k5, k6, k7, k8, k9, k10]
def interned : List (Array UInt16 × Addr) := []
def slotsUsed : Nat := 0
def theMethod : MethodId := ⟨1, 1⟩
def args0 : Array Value := #[.long 300, .long 7, .long 9, .int 3, .int 4, .int 5]
def aboutOver (below : List Frame) : State where
  vm := { classes := classes, interned := interned.toArray }
  heap := heap
  slotsUsed := slotsUsed
  threads := #[{ frames := .invoking theMethod args0 :: below }]
def below0 : List Frame := [.native { method := ⟨0, 0⟩, args := #[] }]
def about1 : State := aboutOver below0
def p0 : Program := .bare "" "" ""
def e0 : Env := launch0.env 0 0 0
theorem w_frames : about1.frames = Frame.invoking theMethod args0 :: below0 := rfl
set_option maxRecDepth 65536 in
theorem w_args : argsFit about1.vm theMethod args0 = true := by decide +kernel
set_option maxRecDepth 65536 in
theorem w_heap : heapFits about1 = true := by decide +kernel
set_option maxRecDepth 65536 in
theorem w_runnable : about1.curStatus? = some .runnable := by decide +kernel
set_option maxRecDepth 65536 in
theorem w_alone : about1.alone = true := by decide +kernel
set_option maxRecDepth 65536 in
theorem w_named : about1.methodNamed? x = some theMethod := by decide +kernel
set_option maxRecDepth 65536 in
theorem w_hears : about1.hears theMethod below0 = true := by decide +kernel
set_option maxRecDepth 65536 in
theorem w_ripe : about1.ripe theMethod args0 below0 = true := by decide +kernel
theorem w_running : about1.status = .running := rfl
set_option maxRecDepth 65536 in
theorem w_room : about1.hasRoom e0.platform room_1 = true :=
  launch0.hasRoom_least _ room_1 (by decide +kernel) (by decide +kernel) (by decide +kernel) (by decide +kernel) (by decide +kernel) (by decide +kernel)
theorem allAtoms_all (ts : List Jvm.Cond) (a : Array Jvm.Value) (st : Jvm.State) : (allAtoms ts).before a st = ts.all (fun c => c.before a st) := by
  induction ts with
  | nil => rfl
  | cons c t ih =>
    show (Jvm.Cond.and c (allAtoms t)).before a st = _
    rw [Jvm.Cond.before_and, ih, List.all_cons]
def words1 : List Jvm.Cond := Jvm.Cond.code x code maxLocals ret :: tables_1
/-- a 'code' word, met by the world's own term for the bytes: nothing is compared byte by byte -/
theorem code_word {y : MethodName} {bytes : ByteArray} {mx : Nat} {rt : Option FieldType} {a : Array Value} {s : State} {m : MethodId} {meth : Method} {c : Code} (h1 : s.methodNamed? y = some m) (h2 : s.vm.method? m = some meth) (h3 : meth.code = some c) (h4 : c.code = bytes)
    (h5 : (c.maxLocals == mx && c.exceptionTable.isEmpty && decide (c.maxStack ≤ mostOperands) && decide (meth.sig.returnType = rt) && !meth.locks && decide (parseMethodDescriptor y.desc = some meth.sig)) = true) : (Jvm.Cond.code y bytes mx rt).before a s = true := by
  simp only [Bool.and_eq_true, beq_iff_eq, Bool.not_eq_true', decide_eq_true_eq] at h5
  obtain ⟨⟨⟨⟨⟨g1, g2⟩, g3⟩, g4⟩, g5⟩, g6⟩ := h5
  simp [Cond.before, Cond.holds, Cond.value, h1, h2, h3, h4, g1, g2, g3, g4, g5, g6]
def isCode : Jvm.Cond → Bool
  | .code _ _ _ _ => true
  | _ => false
theorem all_split {L : List Jvm.Cond} {P : Jvm.Cond → Bool} (h1 : L.all (fun c => isCode c || P c) = true) (h2 : ∀ c ∈ L.filter isCode, P c = true) : L.all P = true := by
  refine List.all_eq_true.mpr fun c hc => ?_
  have h := List.all_eq_true.mp h1 c hc
  rcases Bool.eq_false_or_eq_true (isCode c) with hi | hi
  · exact h2 c (List.mem_filter.mpr ⟨hc, hi⟩)
  · simpa [hi] using h
set_option maxRecDepth 65536 in
theorem w_c0 : (Jvm.Cond.code x code maxLocals ret).before args0 about1 = true := code_word (m := ⟨1, 1⟩) (meth := k1m1) (c := k1c1) (by decide +kernel) rfl rfl rfl (by decide +kernel)
set_option maxRecDepth 65536 in
theorem w_c1 : (Jvm.Cond.code ({ cls := "com/example/zedcube/zedcube/engine/BitArray", name := "read", desc := "([JJI)J" } : Jvm.MethodName) prog_4_method_2_code (8 : Nat) (Option.some Jvm.ClassFile.FieldType.long)).before args0 about1 = true := code_word (m := ⟨2, 1⟩) (meth := k2m1) (c := k2c1) (by decide +kernel) rfl rfl rfl (by decide +kernel)
def codes1 : List Jvm.Cond := [Jvm.Cond.code x code maxLocals ret, Jvm.Cond.code ({ cls := "com/example/zedcube/zedcube/engine/BitArray", name := "read", desc := "([JJI)J" } : Jvm.MethodName) prog_4_method_2_code (8 : Nat) (Option.some Jvm.ClassFile.FieldType.long)]
set_option maxRecDepth 65536 in
theorem codes_eq : words1.filter isCode = codes1 := rfl
theorem w_codes : ∀ c ∈ words1.filter isCode, c.before args0 about1 = true := by
  rw [codes_eq]
  intro c hc
  simp only [codes1, List.mem_cons, List.not_mem_nil, or_false] at hc
  rcases hc with rfl | rfl
  · exact w_c0
  · exact w_c1
set_option maxRecDepth 65536 in
theorem w_t1 : words1.all (fun c => isCode c || c.before args0 about1) = true := by decide +kernel
theorem w_tables : (allAtoms (Jvm.Cond.code x code maxLocals ret :: tables_1)).before args0 about1 = true := by
  rw [allAtoms_all]
  show words1.all (fun c => c.before args0 about1) = true
  refine all_split ?_ w_codes
  rw [w_t1]
set_option maxRecDepth 65536 in
theorem w_case : (Jvm.Cond.and given_1 narrow_1).before args0 about1 = true := by decide +kernel
theorem w_applies : (headSpec (Jvm.Cond.code x code maxLocals ret :: tables_1) room_1).applies x e0.platform about1 = true :=
  (Spec.applies_iff w_frames).mpr ⟨w_running, w_runnable, w_alone, w_named, w_hears, w_ripe, w_room, w_tables⟩
theorem atStart : AtStart classFile x code maxLocals ret World_1 tables_1 room_1 Calls_1 rest_1 Pre_1 launch0 p0 e0 about1 theMethod args0 below0 :=
  ⟨lists_1, trivial, launch0.admits_env _ _ _, launch0.least_env, fairChoices_fair.cas, fairChoices_fair.clock, w_frames, w_args, w_heap, w_applies, trivial, trivial, w_case⟩
end start1
theorem witness_1 : WitnessClaimed_1 := ⟨start1.p0, start1.e0, start1.about1, start1.theMethod, start1.args0, start1.below0, start1.atStart⟩
end Jvm.Pilot.@@N@@
