import JvmDerived
import JvmDerived.Pilot.@@N@@Statement
import JvmDerived.Pilot.@@N@@Code
set_option linter.unusedVariables false
set_option linter.unusedSimpArgs false
namespace Jvm.Pilot.@@N@@
open Jvm Jvm.ClassFile Sem Op Lib Jvm.Free Jvm.Stand Jvm.LawKit Jvm.RoadKit Bundle Jvm.Pilot.@@N@@.Jvm.D
/-- from any state that stands here with this heap the walk comes to a return with Q -/
def Go (p : Program) (l : Launch) (e : Env) (R : Room) (s : State) (m : MethodId) (args : Array Value) (below : List Frame) (meth : Method) (c : Code) (n0 : Nat) (Q : Option Value → Heap → Prop) (h : Heap) (k n : Nat) (f : JFrame) : Prop :=
  ∀ T L, Stand p l e R s m args below meth c T L k n → T.heap = h → Fr n0 L →
    ∃ s₂ o, Steps p.tables e below (T.setTop f) s₂ ∧ s₂.status = .running ∧ Ended s₂ below o ∧
      ∃ v L', o = .returned v ∧ (Q v s₂.heap ∧ Fr n0 L') ∧ FrameEnd s o s₂ L' R.cells R.slots
/-- what is known of the body that is walked -/
def Kx (Z : State) (own nm : String) (bytes : ByteArray) (ml : Nat) (rt : Option FieldType) (p : Program) (s : State) (m : MethodId) (meth : Method) (c : Code) : Prop :=
  p.tables.exec = Jvm.exec ∧ Z.Warmed39 s.vm ∧ s.vm.findClass own = some m.cls ∧ c.code = bytes ∧ c.maxLocals = ml ∧ meth.sig.returnType = rt ∧ meth.locks = false ∧ meth.name = nm
/-- a method's contract, at given arguments and heap -/
def Meets (l : Launch) (y : MethodName) (bytes : ByteArray) (ml : Nat) (rt : Option FieldType) (rm : Room) (Z : State) (as : Array Value) (h0 : Heap) (n0 : Nat) (Q : Option Value → Heap → Prop) : Prop :=
  ∀ ws : List Jvm.Cond, MetFree l y (head1 (Jvm.Cond.code y bytes ml rt :: ws) rm) (fun a U => a = as ∧ Z.Warmed39 U.vm ∧ U.heap = h0) (fun _ _ _ _ _ => True)
    (fun _ U o U' => ∃ v L, o = .returned v ∧ (Q v U'.heap ∧ Fr n0 L) ∧ FrameEnd U o U' L rm.cells rm.slots)
/-- an array of ints, bytes, booleans ..: its values as a list -/
def IA (Z : State) (h : Heap) (a : Addr) (ty : FieldType) (xs : List Int32) : Prop := ∃ cl : Cell, Arr Z h a cl ty ∧ cl.slots = (xs.map Value.int).toArray
/-- an array of longs -/
def LA (Z : State) (h : Heap) (a : Addr) (xs : List Int64) : Prop := ∃ cl : Cell, Arr Z h a cl .long ∧ cl.slots = (xs.map Value.long).toArray
section ArrFacts
variable {Z : State} {h h' : Heap} {a : Addr} {ty : FieldType} {xs : List Int32} {ys : List Int64} {ws : List Addr}
theorem IA.keep (F : IA Z h a ty xs) (K : Keep h h' ws) (q : a ∉ ws) : IA Z h' a ty xs := by obtain ⟨c, A, r⟩ := F; exact ⟨c, ⟨K.2.1 a c A.1 q, A.2⟩, r⟩
theorem LA.keep (F : LA Z h a ys) (K : Keep h h' ws) (q : a ∉ ws) : LA Z h' a ys := by obtain ⟨c, A, r⟩ := F; exact ⟨c, ⟨K.2.1 a c A.1 q, A.2⟩, r⟩
theorem IA.lt (F : IA Z h a ty xs) : a < h.size := by obtain ⟨c, A, -⟩ := F; exact A.lt
theorem LA.lt (F : LA Z h a ys) : a < h.size := by obtain ⟨c, A, -⟩ := F; exact A.lt
theorem IA.set {j : Nat} {x : Int32} (F : IA Z h a ty xs) (W : Wr h h' a j (.int x)) : IA Z h' a ty (xs.set j x) := by
  obtain ⟨c, A, r⟩ := F
  refine ⟨_, A.same W, ?_⟩
  simp [Cell.setSlot, r, List.map_set]
theorem LA.set {j : Nat} {x : Int64} (F : LA Z h a ys) (W : Wr h h' a j (.long x)) : LA Z h' a (ys.set j x) := by
  obtain ⟨c, A, r⟩ := F
  refine ⟨_, A.same W, ?_⟩
  simp [Cell.setSlot, r, List.map_set]
theorem keep_ext (E : Ext h h') : Keep h h' [] := (Keep.refl h []).ext E
theorem own_clamp {j : Int32} {n : Nat} (h0 : ¬ j < 0) (hn : j.toNatClampNeg < n) {cl : Cell} (hs : cl.slots.size = n) : ¬ (j < 0 ∨ cl.slots.size ≤ j.toNatClampNeg) := by
  rw [hs]; rintro (q | q)
  · exact h0 q
  · omega
theorem own_ne_of_lt {a b : Nat} {h : Heap} (q : a < h.size) (r : b = h.size) : a ≠ b := by omega
end ArrFacts
section GoSteps
variable {p : Program} {l : Launch} {e : Env} {R : Room} {s : State} {m : MethodId} {args : Array Value} {below : List Frame} {meth : Method} {c : Code} {n0 : Nat} {Q : Option Value → Heap → Prop} {h : Heap} {k n : Nat} {Z : State} {own nm : String} {bytes : ByteArray} {ml : Nat} {rt : Option FieldType} {Ls : Array Slot} {st : List Value} {a0 : Array Value}
theorem go_step {f f' : JFrame} (st : ∀ T L, Stand p l e R s m args below meth c T L k n → ∀ t, Steps p.tables e below (T.setTop f') t → Steps p.tables e below (T.setTop f) t) (hr : Go p l e R s m args below meth c n0 Q h k n f') : Go p l e R s m args below meth c n0 Q h k n f := by
  intro T L X eT N
  obtain ⟨s₂, o, S, r⟩ := hr T L X eT N
  exact ⟨s₂, o, st T L X _ S, r⟩
theorem go_mono {f : JFrame} {k' n' : Nat} (hk : k ≤ k') (hn : n ≤ n') (hr : Go p l e R s m args below meth c n0 Q h k' n' f) : Go p l e R s m args below meth c n0 Q h k n f := by
  intro T L X eT N
  exact hr T L (X.more hk hn) eT N
theorem go_post {f : JFrame} {Q' : Option Value → Heap → Prop} (hq : ∀ v h, Q' v h → Q v h) (hr : Go p l e R s m args below meth c n0 Q' h k n f) : Go p l e R s m args below meth c n0 Q h k n f := by
  intro T L X eT N
  obtain ⟨s₂, o, S, r1, r2, v, L', q1, q2, q3⟩ := hr T L X eT N
  exact ⟨s₂, o, S, r1, r2, v, L', q1, ⟨hq _ _ q2.1, q2.2⟩, q3⟩
theorem go_cast {pc : Nat} {k' n' : Nat} {st' : List Value} (q1 : k = k') (q2 : n = n') (q3 : st = st') (hr : Go p l e R s m args below meth c n0 Q h k' n' (mkF m pc Ls st')) : Go p l e R s m args below meth c n0 Q h k n (mkF m pc Ls st) := by subst q1 q2 q3; exact hr
theorem g_iload (K : Kx Z own nm bytes ml rt p s m meth c) (pc : Nat) {i : Nat} {v : Int32} (hd : decode bytes pc = .ok (.iload i, 2)) (hl : Ls[i]? = some (.val (.int v))) (hr : Go p l e R s m args below meth c n0 Q h k n (mkF m (pc + 2) Ls (.int v :: st))) : Go p l e R s m args below meth c n0 Q h k n (mkF m pc Ls st) :=
  go_step (fun T L X t S => XS.iload X.here K.1 rfl (hb K.2.2.2.1 hd) hl S) hr
theorem g_iloadN (K : Kx Z own nm bytes ml rt p s m meth c) (pc : Nat) {i : Fin 4} {v : Int32} (hd : decode bytes pc = .ok (.iload_n i, 1)) (hl : Ls[i.val]? = some (.val (.int v))) (hr : Go p l e R s m args below meth c n0 Q h k n (mkF m (pc + 1) Ls (.int v :: st))) : Go p l e R s m args below meth c n0 Q h k n (mkF m pc Ls st) :=
  go_step (fun T L X t S => XS.iloadN X.here K.1 rfl (hb K.2.2.2.1 hd) hl S) hr
theorem g_lload (K : Kx Z own nm bytes ml rt p s m meth c) (pc : Nat) {i : Nat} {v : Int64} (hd : decode bytes pc = .ok (.lload i, 2)) (hl : Ls[i]? = some (.val (.long v))) (hr : Go p l e R s m args below meth c n0 Q h k n (mkF m (pc + 2) Ls (.long v :: st))) : Go p l e R s m args below meth c n0 Q h k n (mkF m pc Ls st) :=
  go_step (fun T L X t S => XT.lload X.here K.1 rfl (hb K.2.2.2.1 hd) hl S) hr
theorem g_lloadN (K : Kx Z own nm bytes ml rt p s m meth c) (pc : Nat) {i : Fin 4} {v : Int64} (hd : decode bytes pc = .ok (.lload_n i, 1)) (hl : Ls[i.val]? = some (.val (.long v))) (hr : Go p l e R s m args below meth c n0 Q h k n (mkF m (pc + 1) Ls (.long v :: st))) : Go p l e R s m args below meth c n0 Q h k n (mkF m pc Ls st) :=
  go_step (fun T L X t S => XT.lloadN X.here K.1 rfl (hb K.2.2.2.1 hd) hl S) hr
theorem g_aload (K : Kx Z own nm bytes ml rt p s m meth c) (pc : Nat) {i : Nat} {v : Value} (hd : decode bytes pc = .ok (.aload i, 2)) (hl : Ls[i]? = some (.val v)) (hv : v.isRef = true) (hr : Go p l e R s m args below meth c n0 Q h k n (mkF m (pc + 2) Ls (v :: st))) : Go p l e R s m args below meth c n0 Q h k n (mkF m pc Ls st) :=
  go_step (fun T L X t S => XS.aload X.here K.1 rfl (hb K.2.2.2.1 hd) hl hv S) hr
theorem g_aloadN (K : Kx Z own nm bytes ml rt p s m meth c) (pc : Nat) {i : Fin 4} {v : Value} (hd : decode bytes pc = .ok (.aload_n i, 1)) (hl : Ls[i.val]? = some (.val v)) (hv : v.isRef = true) (hr : Go p l e R s m args below meth c n0 Q h k n (mkF m (pc + 1) Ls (v :: st))) : Go p l e R s m args below meth c n0 Q h k n (mkF m pc Ls st) :=
  go_step (fun T L X t S => XS.aloadN X.here K.1 rfl (hb K.2.2.2.1 hd) hl hv S) hr
theorem g_istore (K : Kx Z own nm bytes ml rt p s m meth c) (pc : Nat) {i : Nat} {v : Int32} (l' : Array Slot) (hd : decode bytes pc = .ok (.istore i, 2)) (hl : storeLocals Ls i (.int v) = some l') (hr : Go p l e R s m args below meth c n0 Q h k n (mkF m (pc + 2) l' st)) : Go p l e R s m args below meth c n0 Q h k n (mkF m pc Ls (.int v :: st)) :=
  go_step (fun T L X t S => XS.istore X.here K.1 rfl (hb K.2.2.2.1 hd) rfl hl S) hr
theorem g_istoreN (K : Kx Z own nm bytes ml rt p s m meth c) (pc : Nat) {i : Fin 4} {v : Int32} (l' : Array Slot) (hd : decode bytes pc = .ok (.istore_n i, 1)) (hl : storeLocals Ls i.val (.int v) = some l') (hr : Go p l e R s m args below meth c n0 Q h k n (mkF m (pc + 1) l' st)) : Go p l e R s m args below meth c n0 Q h k n (mkF m pc Ls (.int v :: st)) :=
  go_step (fun T L X t S => XS.istoreN X.here K.1 rfl (hb K.2.2.2.1 hd) rfl hl S) hr
theorem g_lstore (K : Kx Z own nm bytes ml rt p s m meth c) (pc : Nat) {i : Nat} {v : Int64} (l' : Array Slot) (hd : decode bytes pc = .ok (.lstore i, 2)) (hl : storeLocals Ls i (.long v) = some l') (hr : Go p l e R s m args below meth c n0 Q h k n (mkF m (pc + 2) l' st)) : Go p l e R s m args below meth c n0 Q h k n (mkF m pc Ls (.long v :: st)) :=
  go_step (fun T L X t S => XT.lstore X.here K.1 rfl (hb K.2.2.2.1 hd) rfl hl S) hr
theorem g_lstoreN (K : Kx Z own nm bytes ml rt p s m meth c) (pc : Nat) {i : Fin 4} {v : Int64} (l' : Array Slot) (hd : decode bytes pc = .ok (.lstore_n i, 1)) (hl : storeLocals Ls i.val (.long v) = some l') (hr : Go p l e R s m args below meth c n0 Q h k n (mkF m (pc + 1) l' st)) : Go p l e R s m args below meth c n0 Q h k n (mkF m pc Ls (.long v :: st)) :=
  go_step (fun T L X t S => XT.lstoreN X.here K.1 rfl (hb K.2.2.2.1 hd) rfl hl S) hr
theorem g_astore (K : Kx Z own nm bytes ml rt p s m meth c) (pc : Nat) {i : Nat} {v : Value} (l' : Array Slot) (hd : decode bytes pc = .ok (.astore i, 2)) (hv : v.isRef = true) (hl : storeLocals Ls i v = some l') (hr : Go p l e R s m args below meth c n0 Q h k n (mkF m (pc + 2) l' st)) : Go p l e R s m args below meth c n0 Q h k n (mkF m pc Ls (v :: st)) :=
  go_step (fun T L X t S => XS.astore X.here K.1 rfl (hb K.2.2.2.1 hd) rfl hv hl S) hr
theorem g_astoreN (K : Kx Z own nm bytes ml rt p s m meth c) (pc : Nat) {i : Fin 4} {v : Value} (l' : Array Slot) (hd : decode bytes pc = .ok (.astore_n i, 1)) (hv : v.isRef = true) (hl : storeLocals Ls i.val v = some l') (hr : Go p l e R s m args below meth c n0 Q h k n (mkF m (pc + 1) l' st)) : Go p l e R s m args below meth c n0 Q h k n (mkF m pc Ls (v :: st)) :=
  go_step (fun T L X t S => XS.astoreN X.here K.1 rfl (hb K.2.2.2.1 hd) rfl hv hl S) hr
theorem g_iconst (K : Kx Z own nm bytes ml rt p s m meth c) (pc : Nat) {i : Int} (v : Int32) (hd : decode bytes pc = .ok (.iconst i, 1)) (hv : Int32.ofInt i = v) (hr : Go p l e R s m args below meth c n0 Q h k n (mkF m (pc + 1) Ls (.int v :: st))) : Go p l e R s m args below meth c n0 Q h k n (mkF m pc Ls st) :=
  go_step (fun T L X t S => XT.iconstV X.here K.1 rfl v (hb K.2.2.2.1 hd) hv S) hr
theorem g_bipush (K : Kx Z own nm bytes ml rt p s m meth c) (pc : Nat) {i : Int} (v : Int32) (hd : decode bytes pc = .ok (.bipush i, 2)) (hv : (Int8.ofInt i).toInt32 = v) (hr : Go p l e R s m args below meth c n0 Q h k n (mkF m (pc + 2) Ls (.int v :: st))) : Go p l e R s m args below meth c n0 Q h k n (mkF m pc Ls st) :=
  go_step (fun T L X t S => XT.bipushV X.here K.1 rfl v (hb K.2.2.2.1 hd) hv S) hr
theorem g_sipush (K : Kx Z own nm bytes ml rt p s m meth c) (pc : Nat) {i : Int} (v : Int32) (hd : decode bytes pc = .ok (.sipush i, 3)) (hv : (Int16.ofInt i).toInt32 = v) (hr : Go p l e R s m args below meth c n0 Q h k n (mkF m (pc + 3) Ls (.int v :: st))) : Go p l e R s m args below meth c n0 Q h k n (mkF m pc Ls st) :=
  go_step (fun T L X t S => XT.sipushV X.here K.1 rfl v (hb K.2.2.2.1 hd) hv S) hr
theorem g_lconst (K : Kx Z own nm bytes ml rt p s m meth c) (pc : Nat) {i : Fin 2} (v : Int64) (hd : decode bytes pc = .ok (.lconst i, 1)) (hv : Int64.ofNat i = v) (hr : Go p l e R s m args below meth c n0 Q h k n (mkF m (pc + 1) Ls (.long v :: st))) : Go p l e R s m args below meth c n0 Q h k n (mkF m pc Ls st) :=
  go_step (fun T L X t S => XT.lconstV X.here K.1 rfl v (hb K.2.2.2.1 hd) hv S) hr
theorem g_aconst_null (K : Kx Z own nm bytes ml rt p s m meth c) (pc : Nat)  (hd : decode bytes pc = .ok (.aconst_null, 1))  (hr : Go p l e R s m args below meth c n0 Q h k n (mkF m (pc + 1) Ls (.null :: st))) : Go p l e R s m args below meth c n0 Q h k n (mkF m pc Ls st) :=
  go_step (fun T L X t S => XS.aconstNull X.here K.1 rfl (hb K.2.2.2.1 hd)  S) hr
theorem g_iinc (K : Kx Z own nm bytes ml rt p s m meth c) (pc : Nat) {i : Nat} {cst : Int} {x : Int32} (v : Int32) (l' : Array Slot) (hd : decode bytes pc = .ok (.iinc i cst, 3)) (hv : Int32.ofInt cst = v) (hl : Ls[i]? = some (.val (.int x))) (hl' : storeLocals Ls i (.int (x + v)) = some l') (hr : Go p l e R s m args below meth c n0 Q h k n (mkF m (pc + 3) l' st)) : Go p l e R s m args below meth c n0 Q h k n (mkF m pc Ls st) :=
  go_step (fun T L X t S => XT.iincV X.here K.1 rfl v (hb K.2.2.2.1 hd) hv hl hl' S) hr
theorem g_iadd (K : Kx Z own nm bytes ml rt p s m meth c) (pc : Nat) {x y : Int32} (hd : decode bytes pc = .ok (.iadd, 1))  (hr : Go p l e R s m args below meth c n0 Q h k n (mkF m (pc + 1) Ls (.int (x + y) :: st))) : Go p l e R s m args below meth c n0 Q h k n (mkF m pc Ls (.int y :: .int x :: st)) :=
  go_step (fun T L X t S => XS.iadd X.here K.1 rfl (hb K.2.2.2.1 hd) rfl S) hr
theorem g_isub (K : Kx Z own nm bytes ml rt p s m meth c) (pc : Nat) {x y : Int32} (hd : decode bytes pc = .ok (.isub, 1))  (hr : Go p l e R s m args below meth c n0 Q h k n (mkF m (pc + 1) Ls (.int (x - y) :: st))) : Go p l e R s m args below meth c n0 Q h k n (mkF m pc Ls (.int y :: .int x :: st)) :=
  go_step (fun T L X t S => XS.isub X.here K.1 rfl (hb K.2.2.2.1 hd) rfl S) hr
theorem g_imul (K : Kx Z own nm bytes ml rt p s m meth c) (pc : Nat) {x y : Int32} (hd : decode bytes pc = .ok (.imul, 1))  (hr : Go p l e R s m args below meth c n0 Q h k n (mkF m (pc + 1) Ls (.int (x * y) :: st))) : Go p l e R s m args below meth c n0 Q h k n (mkF m pc Ls (.int y :: .int x :: st)) :=
  go_step (fun T L X t S => XS.imul X.here K.1 rfl (hb K.2.2.2.1 hd) rfl S) hr
theorem g_iand (K : Kx Z own nm bytes ml rt p s m meth c) (pc : Nat) {x y : Int32} (hd : decode bytes pc = .ok (.iand, 1))  (hr : Go p l e R s m args below meth c n0 Q h k n (mkF m (pc + 1) Ls (.int (x &&& y) :: st))) : Go p l e R s m args below meth c n0 Q h k n (mkF m pc Ls (.int y :: .int x :: st)) :=
  go_step (fun T L X t S => XS.iand X.here K.1 rfl (hb K.2.2.2.1 hd) rfl S) hr
theorem g_ior (K : Kx Z own nm bytes ml rt p s m meth c) (pc : Nat) {x y : Int32} (hd : decode bytes pc = .ok (.ior, 1))  (hr : Go p l e R s m args below meth c n0 Q h k n (mkF m (pc + 1) Ls (.int (x ||| y) :: st))) : Go p l e R s m args below meth c n0 Q h k n (mkF m pc Ls (.int y :: .int x :: st)) :=
  go_step (fun T L X t S => XT.ior X.here K.1 rfl (hb K.2.2.2.1 hd) rfl S) hr
theorem g_ixor (K : Kx Z own nm bytes ml rt p s m meth c) (pc : Nat) {x y : Int32} (hd : decode bytes pc = .ok (.ixor, 1))  (hr : Go p l e R s m args below meth c n0 Q h k n (mkF m (pc + 1) Ls (.int (x ^^^ y) :: st))) : Go p l e R s m args below meth c n0 Q h k n (mkF m pc Ls (.int y :: .int x :: st)) :=
  go_step (fun T L X t S => XT.ixor X.here K.1 rfl (hb K.2.2.2.1 hd) rfl S) hr
theorem g_ishl (K : Kx Z own nm bytes ml rt p s m meth c) (pc : Nat) {x y : Int32} (hd : decode bytes pc = .ok (.ishl, 1))  (hr : Go p l e R s m args below meth c n0 Q h k n (mkF m (pc + 1) Ls (.int (x <<< (y &&& 31)) :: st))) : Go p l e R s m args below meth c n0 Q h k n (mkF m pc Ls (.int y :: .int x :: st)) :=
  go_step (fun T L X t S => XT.ishl X.here K.1 rfl (hb K.2.2.2.1 hd) rfl S) hr
theorem g_ishr (K : Kx Z own nm bytes ml rt p s m meth c) (pc : Nat) {x y : Int32} (hd : decode bytes pc = .ok (.ishr, 1))  (hr : Go p l e R s m args below meth c n0 Q h k n (mkF m (pc + 1) Ls (.int (x >>> (y &&& 31)) :: st))) : Go p l e R s m args below meth c n0 Q h k n (mkF m pc Ls (.int y :: .int x :: st)) :=
  go_step (fun T L X t S => XT.ishr X.here K.1 rfl (hb K.2.2.2.1 hd) rfl S) hr
theorem g_iushr (K : Kx Z own nm bytes ml rt p s m meth c) (pc : Nat) {x y : Int32} (hd : decode bytes pc = .ok (.iushr, 1))  (hr : Go p l e R s m args below meth c n0 Q h k n (mkF m (pc + 1) Ls (.int (XT.ushr x y) :: st))) : Go p l e R s m args below meth c n0 Q h k n (mkF m pc Ls (.int y :: .int x :: st)) :=
  go_step (fun T L X t S => XT.iushr X.here K.1 rfl (hb K.2.2.2.1 hd) rfl S) hr
theorem g_idiv (K : Kx Z own nm bytes ml rt p s m meth c) (pc : Nat) {x y : Int32} (hd : decode bytes pc = .ok (.idiv, 1)) (hy : y ≠ 0) (hr : Go p l e R s m args below meth c n0 Q h k n (mkF m (pc + 1) Ls (.int (x / y) :: st))) : Go p l e R s m args below meth c n0 Q h k n (mkF m pc Ls (.int y :: .int x :: st)) :=
  go_step (fun T L X t S => XS.idiv X.here K.1 rfl (hb K.2.2.2.1 hd) rfl hy S) hr
theorem g_irem (K : Kx Z own nm bytes ml rt p s m meth c) (pc : Nat) {x y : Int32} (hd : decode bytes pc = .ok (.irem, 1)) (hy : y ≠ 0) (hr : Go p l e R s m args below meth c n0 Q h k n (mkF m (pc + 1) Ls (.int (x % y) :: st))) : Go p l e R s m args below meth c n0 Q h k n (mkF m pc Ls (.int y :: .int x :: st)) :=
  go_step (fun T L X t S => iremM X K.1 rfl (hb K.2.2.2.1 hd) rfl hy S) hr
theorem g_ineg (K : Kx Z own nm bytes ml rt p s m meth c) (pc : Nat) {x : Int32} (hd : decode bytes pc = .ok (.ineg, 1))  (hr : Go p l e R s m args below meth c n0 Q h k n (mkF m (pc + 1) Ls (.int (-x) :: st))) : Go p l e R s m args below meth c n0 Q h k n (mkF m pc Ls (.int x :: st)) :=
  go_step (fun T L X t S => XS.ineg X.here K.1 rfl (hb K.2.2.2.1 hd) rfl S) hr
theorem g_ladd (K : Kx Z own nm bytes ml rt p s m meth c) (pc : Nat) {x y : Int64} (hd : decode bytes pc = .ok (.ladd, 1))  (hr : Go p l e R s m args below meth c n0 Q h k n (mkF m (pc + 1) Ls (.long (x + y) :: st))) : Go p l e R s m args below meth c n0 Q h k n (mkF m pc Ls (.long y :: .long x :: st)) :=
  go_step (fun T L X t S => XT.ladd X.here K.1 rfl (hb K.2.2.2.1 hd) rfl S) hr
theorem g_lsub (K : Kx Z own nm bytes ml rt p s m meth c) (pc : Nat) {x y : Int64} (hd : decode bytes pc = .ok (.lsub, 1))  (hr : Go p l e R s m args below meth c n0 Q h k n (mkF m (pc + 1) Ls (.long (x - y) :: st))) : Go p l e R s m args below meth c n0 Q h k n (mkF m pc Ls (.long y :: .long x :: st)) :=
  go_step (fun T L X t S => XT.lsub X.here K.1 rfl (hb K.2.2.2.1 hd) rfl S) hr
theorem g_lmul (K : Kx Z own nm bytes ml rt p s m meth c) (pc : Nat) {x y : Int64} (hd : decode bytes pc = .ok (.lmul, 1))  (hr : Go p l e R s m args below meth c n0 Q h k n (mkF m (pc + 1) Ls (.long (x * y) :: st))) : Go p l e R s m args below meth c n0 Q h k n (mkF m pc Ls (.long y :: .long x :: st)) :=
  go_step (fun T L X t S => XT.lmul X.here K.1 rfl (hb K.2.2.2.1 hd) rfl S) hr
theorem g_land (K : Kx Z own nm bytes ml rt p s m meth c) (pc : Nat) {x y : Int64} (hd : decode bytes pc = .ok (.land, 1))  (hr : Go p l e R s m args below meth c n0 Q h k n (mkF m (pc + 1) Ls (.long (x &&& y) :: st))) : Go p l e R s m args below meth c n0 Q h k n (mkF m pc Ls (.long y :: .long x :: st)) :=
  go_step (fun T L X t S => XT.land X.here K.1 rfl (hb K.2.2.2.1 hd) rfl S) hr
theorem g_lor (K : Kx Z own nm bytes ml rt p s m meth c) (pc : Nat) {x y : Int64} (hd : decode bytes pc = .ok (.lor, 1))  (hr : Go p l e R s m args below meth c n0 Q h k n (mkF m (pc + 1) Ls (.long (x ||| y) :: st))) : Go p l e R s m args below meth c n0 Q h k n (mkF m pc Ls (.long y :: .long x :: st)) :=
  go_step (fun T L X t S => XT.lor X.here K.1 rfl (hb K.2.2.2.1 hd) rfl S) hr
theorem g_lxor (K : Kx Z own nm bytes ml rt p s m meth c) (pc : Nat) {x y : Int64} (hd : decode bytes pc = .ok (.lxor, 1))  (hr : Go p l e R s m args below meth c n0 Q h k n (mkF m (pc + 1) Ls (.long (x ^^^ y) :: st))) : Go p l e R s m args below meth c n0 Q h k n (mkF m pc Ls (.long y :: .long x :: st)) :=
  go_step (fun T L X t S => XT.lxor X.here K.1 rfl (hb K.2.2.2.1 hd) rfl S) hr
theorem g_ldiv (K : Kx Z own nm bytes ml rt p s m meth c) (pc : Nat) {x y : Int64} (hd : decode bytes pc = .ok (.ldiv, 1)) (hy : y ≠ 0) (hr : Go p l e R s m args below meth c n0 Q h k n (mkF m (pc + 1) Ls (.long (x / y) :: st))) : Go p l e R s m args below meth c n0 Q h k n (mkF m pc Ls (.long y :: .long x :: st)) :=
  go_step (fun T L X t S => XT.ldiv X.here K.1 rfl (hb K.2.2.2.1 hd) rfl hy S) hr
theorem g_lshl (K : Kx Z own nm bytes ml rt p s m meth c) (pc : Nat) {x : Int64} {y : Int32} (hd : decode bytes pc = .ok (.lshl, 1))  (hr : Go p l e R s m args below meth c n0 Q h k n (mkF m (pc + 1) Ls (.long (x <<< (y.toInt64 &&& 63)) :: st))) : Go p l e R s m args below meth c n0 Q h k n (mkF m pc Ls (.int y :: .long x :: st)) :=
  go_step (fun T L X t S => XT.lshl X.here K.1 rfl (hb K.2.2.2.1 hd) rfl S) hr
theorem g_lshr (K : Kx Z own nm bytes ml rt p s m meth c) (pc : Nat) {x : Int64} {y : Int32} (hd : decode bytes pc = .ok (.lshr, 1))  (hr : Go p l e R s m args below meth c n0 Q h k n (mkF m (pc + 1) Ls (.long (x >>> (y.toInt64 &&& 63)) :: st))) : Go p l e R s m args below meth c n0 Q h k n (mkF m pc Ls (.int y :: .long x :: st)) :=
  go_step (fun T L X t S => XT.lshr X.here K.1 rfl (hb K.2.2.2.1 hd) rfl S) hr
theorem g_lushr (K : Kx Z own nm bytes ml rt p s m meth c) (pc : Nat) {x : Int64} {y : Int32} (hd : decode bytes pc = .ok (.lushr, 1))  (hr : Go p l e R s m args below meth c n0 Q h k n (mkF m (pc + 1) Ls (.long (XT.ushrL x y) :: st))) : Go p l e R s m args below meth c n0 Q h k n (mkF m pc Ls (.int y :: .long x :: st)) :=
  go_step (fun T L X t S => XT.lushr X.here K.1 rfl (hb K.2.2.2.1 hd) rfl S) hr
theorem g_lneg (K : Kx Z own nm bytes ml rt p s m meth c) (pc : Nat) {x : Int64} (hd : decode bytes pc = .ok (.lneg, 1))  (hr : Go p l e R s m args below meth c n0 Q h k n (mkF m (pc + 1) Ls (.long (-x) :: st))) : Go p l e R s m args below meth c n0 Q h k n (mkF m pc Ls (.long x :: st)) :=
  go_step (fun T L X t S => XT.lneg X.here K.1 rfl (hb K.2.2.2.1 hd) rfl S) hr
theorem g_i2l (K : Kx Z own nm bytes ml rt p s m meth c) (pc : Nat) {x : Int32} (hd : decode bytes pc = .ok (.i2l, 1))  (hr : Go p l e R s m args below meth c n0 Q h k n (mkF m (pc + 1) Ls (.long x.toInt64 :: st))) : Go p l e R s m args below meth c n0 Q h k n (mkF m pc Ls (.int x :: st)) :=
  go_step (fun T L X t S => XT.i2l X.here K.1 rfl (hb K.2.2.2.1 hd) rfl S) hr
theorem g_l2i (K : Kx Z own nm bytes ml rt p s m meth c) (pc : Nat) {x : Int64} (hd : decode bytes pc = .ok (.l2i, 1))  (hr : Go p l e R s m args below meth c n0 Q h k n (mkF m (pc + 1) Ls (.int x.toInt32 :: st))) : Go p l e R s m args below meth c n0 Q h k n (mkF m pc Ls (.long x :: st)) :=
  go_step (fun T L X t S => XT.l2i X.here K.1 rfl (hb K.2.2.2.1 hd) rfl S) hr
theorem g_i2b (K : Kx Z own nm bytes ml rt p s m meth c) (pc : Nat) {x : Int32} (hd : decode bytes pc = .ok (.i2b, 1))  (hr : Go p l e R s m args below meth c n0 Q h k n (mkF m (pc + 1) Ls (.int x.toInt8.toInt32 :: st))) : Go p l e R s m args below meth c n0 Q h k n (mkF m pc Ls (.int x :: st)) :=
  go_step (fun T L X t S => XT.i2b X.here K.1 rfl (hb K.2.2.2.1 hd) rfl S) hr
theorem g_i2s (K : Kx Z own nm bytes ml rt p s m meth c) (pc : Nat) {x : Int32} (hd : decode bytes pc = .ok (.i2s, 1))  (hr : Go p l e R s m args below meth c n0 Q h k n (mkF m (pc + 1) Ls (.int x.toInt16.toInt32 :: st))) : Go p l e R s m args below meth c n0 Q h k n (mkF m pc Ls (.int x :: st)) :=
  go_step (fun T L X t S => XT.i2s X.here K.1 rfl (hb K.2.2.2.1 hd) rfl S) hr
theorem g_lcmp (K : Kx Z own nm bytes ml rt p s m meth c) (pc : Nat) {x y : Int64} (hd : decode bytes pc = .ok (.lcmp, 1))  (hr : Go p l e R s m args below meth c n0 Q h k n (mkF m (pc + 1) Ls (.int (XT.cmpL x y) :: st))) : Go p l e R s m args below meth c n0 Q h k n (mkF m pc Ls (.long y :: .long x :: st)) :=
  go_step (fun T L X t S => XT.lcmp X.here K.1 rfl (hb K.2.2.2.1 hd) rfl S) hr
theorem g_dup (K : Kx Z own nm bytes ml rt p s m meth c) (pc : Nat) {v : Value} (hd : decode bytes pc = .ok (.dup, 1)) (hc : v.category = 1) (hr : Go p l e R s m args below meth c n0 Q h k n (mkF m (pc + 1) Ls (v :: v :: st))) : Go p l e R s m args below meth c n0 Q h k n (mkF m pc Ls (v :: st)) :=
  go_step (fun T L X t S => XS.dup X.here K.1 rfl (hb K.2.2.2.1 hd) rfl hc S) hr
theorem g_pop (K : Kx Z own nm bytes ml rt p s m meth c) (pc : Nat) {v : Value} (hd : decode bytes pc = .ok (.pop, 1)) (hc : v.category = 1) (hr : Go p l e R s m args below meth c n0 Q h k n (mkF m (pc + 1) Ls st)) : Go p l e R s m args below meth c n0 Q h k n (mkF m pc Ls (v :: st)) :=
  go_step (fun T L X t S => XT.pop X.here K.1 rfl (hb K.2.2.2.1 hd) rfl hc S) hr
theorem g_goto (K : Kx Z own nm bytes ml rt p s m meth c) (pc pc' : Nat) {o : Int} (hd : decode bytes pc = .ok (.goto o, 3)) (ho : 0 ≤ (pc : Int) + o) (hp : ((pc : Int) + o).toNat = pc') (hr : Go p l e R s m args below meth c n0 Q h k n (mkF m pc' Ls st)) : Go p l e R s m args below meth c n0 Q h k n (mkF m pc Ls st) :=
  go_step (fun T L X t S => XS.goto X.here K.1 rfl rfl (hb K.2.2.2.1 hd) ho hp S) hr
theorem g_if_eq (K : Kx Z own nm bytes ml rt p s m meth c) (pc pc' : Nat) {o : Int} {x : Int32} (hd : decode bytes pc = .ok (.ifCond .eq o, 3)) (ho : 0 ≤ (pc : Int) + o) (hp : ((pc : Int) + o).toNat = pc') (hT : x = 0 → Go p l e R s m args below meth c n0 Q h k n (mkF m pc' Ls st)) (hF : ¬ x = 0 → Go p l e R s m args below meth c n0 Q h k n (mkF m (pc + 3) Ls st)) : Go p l e R s m args below meth c n0 Q h k n (mkF m pc Ls (.int x :: st)) := by
  by_cases q : x = 0
  · exact go_step (fun T L X t S => XS.ifYes X.here K.1 rfl rfl (hb K.2.2.2.1 hd) rfl (XT.i0_eq_t q) ho hp S) (hT q)
  · exact go_step (fun T L X t S => XS.ifNo X.here K.1 rfl (hb K.2.2.2.1 hd) rfl (XT.i0_eq_f q) S) (hF q)
theorem g_ii_eq (K : Kx Z own nm bytes ml rt p s m meth c) (pc pc' : Nat) {o : Int} {x y : Int32} (hd : decode bytes pc = .ok (.if_icmp .eq o, 3)) (ho : 0 ≤ (pc : Int) + o) (hp : ((pc : Int) + o).toNat = pc') (hT : x = y → Go p l e R s m args below meth c n0 Q h k n (mkF m pc' Ls st)) (hF : ¬ x = y → Go p l e R s m args below meth c n0 Q h k n (mkF m (pc + 3) Ls st)) : Go p l e R s m args below meth c n0 Q h k n (mkF m pc Ls (.int y :: .int x :: st)) := by
  by_cases q : x = y
  · exact go_step (fun T L X t S => XS.icmpYes X.here K.1 rfl rfl (hb K.2.2.2.1 hd) rfl (XT.ii_eq_t q) ho hp S) (hT q)
  · exact go_step (fun T L X t S => XS.icmpNo X.here K.1 rfl (hb K.2.2.2.1 hd) rfl (XT.ii_eq_f q) S) (hF q)
theorem g_ll_eq (K : Kx Z own nm bytes ml rt p s m meth c) (pc pc' : Nat) {o : Int} {x y : Int64} (hd : decode bytes pc = .ok (.ifCond .eq o, 3)) (ho : 0 ≤ (pc : Int) + o) (hp : ((pc : Int) + o).toNat = pc') (hT : x = y → Go p l e R s m args below meth c n0 Q h k n (mkF m pc' Ls st)) (hF : ¬ x = y → Go p l e R s m args below meth c n0 Q h k n (mkF m (pc + 3) Ls st)) : Go p l e R s m args below meth c n0 Q h k n (mkF m pc Ls (.int (XT.cmpL x y) :: st)) := by
  by_cases q : x = y
  · exact go_step (fun T L X t S => XS.ifYes X.here K.1 rfl rfl (hb K.2.2.2.1 hd) rfl (XT.ll_eq_t q) ho hp S) (hT q)
  · exact go_step (fun T L X t S => XS.ifNo X.here K.1 rfl (hb K.2.2.2.1 hd) rfl (XT.ll_eq_f q) S) (hF q)
theorem g_if_ne (K : Kx Z own nm bytes ml rt p s m meth c) (pc pc' : Nat) {o : Int} {x : Int32} (hd : decode bytes pc = .ok (.ifCond .ne o, 3)) (ho : 0 ≤ (pc : Int) + o) (hp : ((pc : Int) + o).toNat = pc') (hT : ¬ x = 0 → Go p l e R s m args below meth c n0 Q h k n (mkF m pc' Ls st)) (hF : x = 0 → Go p l e R s m args below meth c n0 Q h k n (mkF m (pc + 3) Ls st)) : Go p l e R s m args below meth c n0 Q h k n (mkF m pc Ls (.int x :: st)) := by
  by_cases q : x = 0
  · exact go_step (fun T L X t S => XS.ifNo X.here K.1 rfl (hb K.2.2.2.1 hd) rfl (XT.i0_ne_f q) S) (hF q)
  · exact go_step (fun T L X t S => XS.ifYes X.here K.1 rfl rfl (hb K.2.2.2.1 hd) rfl (XT.i0_ne_t q) ho hp S) (hT q)
theorem g_ii_ne (K : Kx Z own nm bytes ml rt p s m meth c) (pc pc' : Nat) {o : Int} {x y : Int32} (hd : decode bytes pc = .ok (.if_icmp .ne o, 3)) (ho : 0 ≤ (pc : Int) + o) (hp : ((pc : Int) + o).toNat = pc') (hT : ¬ x = y → Go p l e R s m args below meth c n0 Q h k n (mkF m pc' Ls st)) (hF : x = y → Go p l e R s m args below meth c n0 Q h k n (mkF m (pc + 3) Ls st)) : Go p l e R s m args below meth c n0 Q h k n (mkF m pc Ls (.int y :: .int x :: st)) := by
  by_cases q : x = y
  · exact go_step (fun T L X t S => XS.icmpNo X.here K.1 rfl (hb K.2.2.2.1 hd) rfl (XT.ii_ne_f q) S) (hF q)
  · exact go_step (fun T L X t S => XS.icmpYes X.here K.1 rfl rfl (hb K.2.2.2.1 hd) rfl (XT.ii_ne_t q) ho hp S) (hT q)
theorem g_ll_ne (K : Kx Z own nm bytes ml rt p s m meth c) (pc pc' : Nat) {o : Int} {x y : Int64} (hd : decode bytes pc = .ok (.ifCond .ne o, 3)) (ho : 0 ≤ (pc : Int) + o) (hp : ((pc : Int) + o).toNat = pc') (hT : ¬ x = y → Go p l e R s m args below meth c n0 Q h k n (mkF m pc' Ls st)) (hF : x = y → Go p l e R s m args below meth c n0 Q h k n (mkF m (pc + 3) Ls st)) : Go p l e R s m args below meth c n0 Q h k n (mkF m pc Ls (.int (XT.cmpL x y) :: st)) := by
  by_cases q : x = y
  · exact go_step (fun T L X t S => XS.ifNo X.here K.1 rfl (hb K.2.2.2.1 hd) rfl (XT.ll_ne_f q) S) (hF q)
  · exact go_step (fun T L X t S => XS.ifYes X.here K.1 rfl rfl (hb K.2.2.2.1 hd) rfl (XT.ll_ne_t q) ho hp S) (hT q)
theorem g_if_lt (K : Kx Z own nm bytes ml rt p s m meth c) (pc pc' : Nat) {o : Int} {x : Int32} (hd : decode bytes pc = .ok (.ifCond .lt o, 3)) (ho : 0 ≤ (pc : Int) + o) (hp : ((pc : Int) + o).toNat = pc') (hT : x < 0 → Go p l e R s m args below meth c n0 Q h k n (mkF m pc' Ls st)) (hF : ¬ x < 0 → Go p l e R s m args below meth c n0 Q h k n (mkF m (pc + 3) Ls st)) : Go p l e R s m args below meth c n0 Q h k n (mkF m pc Ls (.int x :: st)) := by
  by_cases q : x < 0
  · exact go_step (fun T L X t S => XS.ifYes X.here K.1 rfl rfl (hb K.2.2.2.1 hd) rfl (XT.i0_lt_t q) ho hp S) (hT q)
  · exact go_step (fun T L X t S => XS.ifNo X.here K.1 rfl (hb K.2.2.2.1 hd) rfl (XT.i0_lt_f q) S) (hF q)
theorem g_ii_lt (K : Kx Z own nm bytes ml rt p s m meth c) (pc pc' : Nat) {o : Int} {x y : Int32} (hd : decode bytes pc = .ok (.if_icmp .lt o, 3)) (ho : 0 ≤ (pc : Int) + o) (hp : ((pc : Int) + o).toNat = pc') (hT : x < y → Go p l e R s m args below meth c n0 Q h k n (mkF m pc' Ls st)) (hF : ¬ x < y → Go p l e R s m args below meth c n0 Q h k n (mkF m (pc + 3) Ls st)) : Go p l e R s m args below meth c n0 Q h k n (mkF m pc Ls (.int y :: .int x :: st)) := by
  by_cases q : x < y
  · exact go_step (fun T L X t S => XS.icmpYes X.here K.1 rfl rfl (hb K.2.2.2.1 hd) rfl (XT.ii_lt_t q) ho hp S) (hT q)
  · exact go_step (fun T L X t S => XS.icmpNo X.here K.1 rfl (hb K.2.2.2.1 hd) rfl (XT.ii_lt_f q) S) (hF q)
theorem g_ll_lt (K : Kx Z own nm bytes ml rt p s m meth c) (pc pc' : Nat) {o : Int} {x y : Int64} (hd : decode bytes pc = .ok (.ifCond .lt o, 3)) (ho : 0 ≤ (pc : Int) + o) (hp : ((pc : Int) + o).toNat = pc') (hT : x < y → Go p l e R s m args below meth c n0 Q h k n (mkF m pc' Ls st)) (hF : ¬ x < y → Go p l e R s m args below meth c n0 Q h k n (mkF m (pc + 3) Ls st)) : Go p l e R s m args below meth c n0 Q h k n (mkF m pc Ls (.int (XT.cmpL x y) :: st)) := by
  by_cases q : x < y
  · exact go_step (fun T L X t S => XS.ifYes X.here K.1 rfl rfl (hb K.2.2.2.1 hd) rfl (XT.ll_lt_t q) ho hp S) (hT q)
  · exact go_step (fun T L X t S => XS.ifNo X.here K.1 rfl (hb K.2.2.2.1 hd) rfl (XT.ll_lt_f q) S) (hF q)
theorem g_if_ge (K : Kx Z own nm bytes ml rt p s m meth c) (pc pc' : Nat) {o : Int} {x : Int32} (hd : decode bytes pc = .ok (.ifCond .ge o, 3)) (ho : 0 ≤ (pc : Int) + o) (hp : ((pc : Int) + o).toNat = pc') (hT : ¬ x < 0 → Go p l e R s m args below meth c n0 Q h k n (mkF m pc' Ls st)) (hF : x < 0 → Go p l e R s m args below meth c n0 Q h k n (mkF m (pc + 3) Ls st)) : Go p l e R s m args below meth c n0 Q h k n (mkF m pc Ls (.int x :: st)) := by
  by_cases q : x < 0
  · exact go_step (fun T L X t S => XS.ifNo X.here K.1 rfl (hb K.2.2.2.1 hd) rfl (XT.i0_ge_f q) S) (hF q)
  · exact go_step (fun T L X t S => XS.ifYes X.here K.1 rfl rfl (hb K.2.2.2.1 hd) rfl (XT.i0_ge_t q) ho hp S) (hT q)
theorem g_ii_ge (K : Kx Z own nm bytes ml rt p s m meth c) (pc pc' : Nat) {o : Int} {x y : Int32} (hd : decode bytes pc = .ok (.if_icmp .ge o, 3)) (ho : 0 ≤ (pc : Int) + o) (hp : ((pc : Int) + o).toNat = pc') (hT : ¬ x < y → Go p l e R s m args below meth c n0 Q h k n (mkF m pc' Ls st)) (hF : x < y → Go p l e R s m args below meth c n0 Q h k n (mkF m (pc + 3) Ls st)) : Go p l e R s m args below meth c n0 Q h k n (mkF m pc Ls (.int y :: .int x :: st)) := by
  by_cases q : x < y
  · exact go_step (fun T L X t S => XS.icmpNo X.here K.1 rfl (hb K.2.2.2.1 hd) rfl (XT.ii_ge_f q) S) (hF q)
  · exact go_step (fun T L X t S => XS.icmpYes X.here K.1 rfl rfl (hb K.2.2.2.1 hd) rfl (XT.ii_ge_t q) ho hp S) (hT q)
theorem g_ll_ge (K : Kx Z own nm bytes ml rt p s m meth c) (pc pc' : Nat) {o : Int} {x y : Int64} (hd : decode bytes pc = .ok (.ifCond .ge o, 3)) (ho : 0 ≤ (pc : Int) + o) (hp : ((pc : Int) + o).toNat = pc') (hT : ¬ x < y → Go p l e R s m args below meth c n0 Q h k n (mkF m pc' Ls st)) (hF : x < y → Go p l e R s m args below meth c n0 Q h k n (mkF m (pc + 3) Ls st)) : Go p l e R s m args below meth c n0 Q h k n (mkF m pc Ls (.int (XT.cmpL x y) :: st)) := by
  by_cases q : x < y
  · exact go_step (fun T L X t S => XS.ifNo X.here K.1 rfl (hb K.2.2.2.1 hd) rfl (XT.ll_ge_f q) S) (hF q)
  · exact go_step (fun T L X t S => XS.ifYes X.here K.1 rfl rfl (hb K.2.2.2.1 hd) rfl (XT.ll_ge_t q) ho hp S) (hT q)
theorem g_if_gt (K : Kx Z own nm bytes ml rt p s m meth c) (pc pc' : Nat) {o : Int} {x : Int32} (hd : decode bytes pc = .ok (.ifCond .gt o, 3)) (ho : 0 ≤ (pc : Int) + o) (hp : ((pc : Int) + o).toNat = pc') (hT : 0 < x → Go p l e R s m args below meth c n0 Q h k n (mkF m pc' Ls st)) (hF : ¬ 0 < x → Go p l e R s m args below meth c n0 Q h k n (mkF m (pc + 3) Ls st)) : Go p l e R s m args below meth c n0 Q h k n (mkF m pc Ls (.int x :: st)) := by
  by_cases q : 0 < x
  · exact go_step (fun T L X t S => XS.ifYes X.here K.1 rfl rfl (hb K.2.2.2.1 hd) rfl (XT.i0_gt_t q) ho hp S) (hT q)
  · exact go_step (fun T L X t S => XS.ifNo X.here K.1 rfl (hb K.2.2.2.1 hd) rfl (XT.i0_gt_f q) S) (hF q)
theorem g_ii_gt (K : Kx Z own nm bytes ml rt p s m meth c) (pc pc' : Nat) {o : Int} {x y : Int32} (hd : decode bytes pc = .ok (.if_icmp .gt o, 3)) (ho : 0 ≤ (pc : Int) + o) (hp : ((pc : Int) + o).toNat = pc') (hT : y < x → Go p l e R s m args below meth c n0 Q h k n (mkF m pc' Ls st)) (hF : ¬ y < x → Go p l e R s m args below meth c n0 Q h k n (mkF m (pc + 3) Ls st)) : Go p l e R s m args below meth c n0 Q h k n (mkF m pc Ls (.int y :: .int x :: st)) := by
  by_cases q : y < x
  · exact go_step (fun T L X t S => XS.icmpYes X.here K.1 rfl rfl (hb K.2.2.2.1 hd) rfl (XT.ii_gt_t q) ho hp S) (hT q)
  · exact go_step (fun T L X t S => XS.icmpNo X.here K.1 rfl (hb K.2.2.2.1 hd) rfl (XT.ii_gt_f q) S) (hF q)
theorem g_ll_gt (K : Kx Z own nm bytes ml rt p s m meth c) (pc pc' : Nat) {o : Int} {x y : Int64} (hd : decode bytes pc = .ok (.ifCond .gt o, 3)) (ho : 0 ≤ (pc : Int) + o) (hp : ((pc : Int) + o).toNat = pc') (hT : y < x → Go p l e R s m args below meth c n0 Q h k n (mkF m pc' Ls st)) (hF : ¬ y < x → Go p l e R s m args below meth c n0 Q h k n (mkF m (pc + 3) Ls st)) : Go p l e R s m args below meth c n0 Q h k n (mkF m pc Ls (.int (XT.cmpL x y) :: st)) := by
  by_cases q : y < x
  · exact go_step (fun T L X t S => XS.ifYes X.here K.1 rfl rfl (hb K.2.2.2.1 hd) rfl (XT.ll_gt_t q) ho hp S) (hT q)
  · exact go_step (fun T L X t S => XS.ifNo X.here K.1 rfl (hb K.2.2.2.1 hd) rfl (XT.ll_gt_f q) S) (hF q)
theorem g_if_le (K : Kx Z own nm bytes ml rt p s m meth c) (pc pc' : Nat) {o : Int} {x : Int32} (hd : decode bytes pc = .ok (.ifCond .le o, 3)) (ho : 0 ≤ (pc : Int) + o) (hp : ((pc : Int) + o).toNat = pc') (hT : ¬ 0 < x → Go p l e R s m args below meth c n0 Q h k n (mkF m pc' Ls st)) (hF : 0 < x → Go p l e R s m args below meth c n0 Q h k n (mkF m (pc + 3) Ls st)) : Go p l e R s m args below meth c n0 Q h k n (mkF m pc Ls (.int x :: st)) := by
  by_cases q : 0 < x
  · exact go_step (fun T L X t S => XS.ifNo X.here K.1 rfl (hb K.2.2.2.1 hd) rfl (XT.i0_le_f q) S) (hF q)
  · exact go_step (fun T L X t S => XS.ifYes X.here K.1 rfl rfl (hb K.2.2.2.1 hd) rfl (XT.i0_le_t q) ho hp S) (hT q)
theorem g_ii_le (K : Kx Z own nm bytes ml rt p s m meth c) (pc pc' : Nat) {o : Int} {x y : Int32} (hd : decode bytes pc = .ok (.if_icmp .le o, 3)) (ho : 0 ≤ (pc : Int) + o) (hp : ((pc : Int) + o).toNat = pc') (hT : ¬ y < x → Go p l e R s m args below meth c n0 Q h k n (mkF m pc' Ls st)) (hF : y < x → Go p l e R s m args below meth c n0 Q h k n (mkF m (pc + 3) Ls st)) : Go p l e R s m args below meth c n0 Q h k n (mkF m pc Ls (.int y :: .int x :: st)) := by
  by_cases q : y < x
  · exact go_step (fun T L X t S => XS.icmpNo X.here K.1 rfl (hb K.2.2.2.1 hd) rfl (XT.ii_le_f q) S) (hF q)
  · exact go_step (fun T L X t S => XS.icmpYes X.here K.1 rfl rfl (hb K.2.2.2.1 hd) rfl (XT.ii_le_t q) ho hp S) (hT q)
theorem g_ll_le (K : Kx Z own nm bytes ml rt p s m meth c) (pc pc' : Nat) {o : Int} {x y : Int64} (hd : decode bytes pc = .ok (.ifCond .le o, 3)) (ho : 0 ≤ (pc : Int) + o) (hp : ((pc : Int) + o).toNat = pc') (hT : ¬ y < x → Go p l e R s m args below meth c n0 Q h k n (mkF m pc' Ls st)) (hF : y < x → Go p l e R s m args below meth c n0 Q h k n (mkF m (pc + 3) Ls st)) : Go p l e R s m args below meth c n0 Q h k n (mkF m pc Ls (.int (XT.cmpL x y) :: st)) := by
  by_cases q : y < x
  · exact go_step (fun T L X t S => XS.ifNo X.here K.1 rfl (hb K.2.2.2.1 hd) rfl (XT.ll_le_f q) S) (hF q)
  · exact go_step (fun T L X t S => XS.ifYes X.here K.1 rfl rfl (hb K.2.2.2.1 hd) rfl (XT.ll_le_t q) ho hp S) (hT q)
theorem g_aa_eq (K : Kx Z own nm bytes ml rt p s m meth c) (pc pc' : Nat) {o : Int} {x y : Value} (hx' : x.isRef = true) (hy' : y.isRef = true) (hd : decode bytes pc = .ok (.if_acmp .eq o, 3)) (ho : 0 ≤ (pc : Int) + o) (hp : ((pc : Int) + o).toNat = pc') (hT : x = y → Go p l e R s m args below meth c n0 Q h k n (mkF m pc' Ls st)) (hF : ¬ x = y → Go p l e R s m args below meth c n0 Q h k n (mkF m (pc + 3) Ls st)) : Go p l e R s m args below meth c n0 Q h k n (mkF m pc Ls (y :: x :: st)) := by
  by_cases q : x = y
  · exact go_step (fun T L X t S => XT.acmpYes X.here K.1 rfl rfl (hb K.2.2.2.1 hd) rfl hx' hy' (XT.aa_eq_t q) ho hp S) (hT q)
  · exact go_step (fun T L X t S => XT.acmpNo X.here K.1 rfl (hb K.2.2.2.1 hd) rfl hx' hy' (XT.aa_eq_f q) S) (hF q)
theorem g_aa_ne (K : Kx Z own nm bytes ml rt p s m meth c) (pc pc' : Nat) {o : Int} {x y : Value} (hx' : x.isRef = true) (hy' : y.isRef = true) (hd : decode bytes pc = .ok (.if_acmp .ne o, 3)) (ho : 0 ≤ (pc : Int) + o) (hp : ((pc : Int) + o).toNat = pc') (hT : ¬ x = y → Go p l e R s m args below meth c n0 Q h k n (mkF m pc' Ls st)) (hF : x = y → Go p l e R s m args below meth c n0 Q h k n (mkF m (pc + 3) Ls st)) : Go p l e R s m args below meth c n0 Q h k n (mkF m pc Ls (y :: x :: st)) := by
  by_cases q : x = y
  · exact go_step (fun T L X t S => XT.acmpNo X.here K.1 rfl (hb K.2.2.2.1 hd) rfl hx' hy' (XT.aa_ne_f q) S) (hF q)
  · exact go_step (fun T L X t S => XT.acmpYes X.here K.1 rfl rfl (hb K.2.2.2.1 hd) rfl hx' hy' (XT.aa_ne_t q) ho hp S) (hT q)
theorem g_ifnull_ref (K : Kx Z own nm bytes ml rt p s m meth c) (pc : Nat) {o : Int} {b : Addr} (hd : decode bytes pc = .ok (.ifnull o, 3)) (hr : Go p l e R s m args below meth c n0 Q h k n (mkF m (pc + 3) Ls st)) : Go p l e R s m args below meth c n0 Q h k n (mkF m pc Ls (.ref b :: st)) :=
  go_step (fun T L X t S => XS.ifnullNo X.here K.1 rfl (hb K.2.2.2.1 hd) rfl S) hr
theorem g_ifnull_null (K : Kx Z own nm bytes ml rt p s m meth c) (pc pc' : Nat) {o : Int} (hd : decode bytes pc = .ok (.ifnull o, 3)) (ho : 0 ≤ (pc : Int) + o) (hp : ((pc : Int) + o).toNat = pc') (hr : Go p l e R s m args below meth c n0 Q h k n (mkF m pc' Ls st)) : Go p l e R s m args below meth c n0 Q h k n (mkF m pc Ls (.null :: st)) :=
  go_step (fun T L X t S => XS.ifnullYes X.here K.1 rfl rfl (hb K.2.2.2.1 hd) rfl ho hp S) hr
theorem g_ldc (K : Kx Z own nm bytes ml rt p s m meth c) (pc : Nat) {i : Nat} {v : Int32} (hd : decode bytes pc = .ok (.ldc i, 2)) (w : (Jvm.Cond.constant own i v).before a0 Z = true) (hr : Go p l e R s m args below meth c n0 Q h k n (mkF m (pc + 2) Ls (.int v :: st))) : Go p l e R s m args below meth c n0 Q h k n (mkF m pc Ls st) :=
  go_step (fun T L X t S => X.ldcI K.1 K.2.2.1 (mvT K.2.1 w) rfl (hb K.2.2.2.1 hd) S) hr
theorem g_ldc_w (K : Kx Z own nm bytes ml rt p s m meth c) (pc : Nat) {i : Nat} {v : Int32} (hd : decode bytes pc = .ok (.ldc_w i, 3)) (w : (Jvm.Cond.constant own i v).before a0 Z = true) (hr : Go p l e R s m args below meth c n0 Q h k n (mkF m (pc + 3) Ls (.int v :: st))) : Go p l e R s m args below meth c n0 Q h k n (mkF m pc Ls st) :=
  go_step (fun T L X t S => X.ldcWI K.1 K.2.2.1 (mvT K.2.1 w) rfl (hb K.2.2.2.1 hd) S) hr
theorem g_ldc2_w (K : Kx Z own nm bytes ml rt p s m meth c) (pc : Nat) {i : Nat} {v : Int64} (hd : decode bytes pc = .ok (.ldc2_w i, 3)) (w : (Jvm.Cond.constantLong own i v).before a0 Z = true) (hr : Go p l e R s m args below meth c n0 Q h k n (mkF m (pc + 3) Ls (.long v :: st))) : Go p l e R s m args below meth c n0 Q h k n (mkF m pc Ls st) :=
  go_step (fun T L X t S => X.ldc2J K.1 K.2.2.1 (mvT K.2.1 w) rfl (hb K.2.2.2.1 hd) S) hr
theorem g_ireturn (K : Kx Z own nm bytes ml rt p s m meth c) (pc : Nat) {z : Int32} (hd : decode bytes pc = .ok (.ireturn, 1)) (hrt : rt = some .int)  (hk : k ≤ R.cells) (hn : n ≤ R.slots) (hq : Q (some (.int z)) h) : Go p l e R s m args below meth c n0 Q h k n (mkF m pc Ls [.int z]) := by
  intro T L X eT N
  obtain ⟨fs, hr, hrun, hended, hW, hsame⟩ := X.leave (v := some (.int z)) (fun hh => by first | rfl | (rw [K.2.2.2.2.2.1, hrt] at hh; cases hh)) K.2.2.2.2.2.2.1
  refine ⟨_, _, X.ireturnOut K.1 (K.2.2.2.2.2.1.trans hrt) rfl (Or.inl rfl) (hb K.2.2.2.1 hd) hr, hrun, hended, _, L, rfl, ⟨?_, N⟩, ⟨_, rfl⟩, hW, hsame.mono hk hn⟩
  show Q _ T.heap
  rw [eT]; exact hq
theorem g_retN (K : Kx Z own nm bytes ml rt p s m meth c) (pc : Nat) {z : Int32} (t : FieldType) (hd : decode bytes pc = .ok (.ireturn, 1)) (hrt : rt = some t) (ht : t = .boolean ∨ t = .byte ∨ t = .char ∨ t = .short) (hk : k ≤ R.cells) (hn : n ≤ R.slots) (hq : Q (some (.int (nar t z))) h) : Go p l e R s m args below meth c n0 Q h k n (mkF m pc Ls (.int z :: st)) := by
  intro T L X eT N
  obtain ⟨fs, hr, hrun, hended, hW, hsame⟩ := X.leave (v := some (.int (nar t z))) (fun hh => by first | rfl | (rw [K.2.2.2.2.2.1, hrt] at hh; cases hh)) K.2.2.2.2.2.2.1
  refine ⟨_, _, retN X K.1 (K.2.2.2.2.2.1.trans hrt) ht (hb K.2.2.2.1 hd) hr, hrun, hended, _, L, rfl, ⟨?_, N⟩, ⟨_, rfl⟩, hW, hsame.mono hk hn⟩
  show Q _ T.heap
  rw [eT]; exact hq
theorem g_lreturn (K : Kx Z own nm bytes ml rt p s m meth c) (pc : Nat) {z : Int64} (hd : decode bytes pc = .ok (.lreturn, 1)) (hrt : rt = some .long)  (hk : k ≤ R.cells) (hn : n ≤ R.slots) (hq : Q (some (.long z)) h) : Go p l e R s m args below meth c n0 Q h k n (mkF m pc Ls [.long z]) := by
  intro T L X eT N
  obtain ⟨fs, hr, hrun, hended, hW, hsame⟩ := X.leave (v := some (.long z)) (fun hh => by first | rfl | (rw [K.2.2.2.2.2.1, hrt] at hh; cases hh)) K.2.2.2.2.2.2.1
  refine ⟨_, _, X.lreturnOut K.1 (K.2.2.2.2.2.1.trans hrt) (hb K.2.2.2.1 hd) hr, hrun, hended, _, L, rfl, ⟨?_, N⟩, ⟨_, rfl⟩, hW, hsame.mono hk hn⟩
  show Q _ T.heap
  rw [eT]; exact hq
theorem g_areturn (K : Kx Z own nm bytes ml rt p s m meth c) (pc : Nat) {w : Value} (t : FieldType) (hd : decode bytes pc = .ok (.areturn, 1)) (hrt : rt = some t) (hw : w.isRef = true) (ht : t.isReference = true) (hk : k ≤ R.cells) (hn : n ≤ R.slots) (hq : Q (some w) h) : Go p l e R s m args below meth c n0 Q h k n (mkF m pc Ls [w]) := by
  intro T L X eT N
  obtain ⟨fs, hr, hrun, hended, hW, hsame⟩ := X.leave (v := some w) (fun hh => by first | rfl | (rw [K.2.2.2.2.2.1, hrt] at hh; cases hh)) K.2.2.2.2.2.2.1
  refine ⟨_, _, X.areturnOut K.1 hw (K.2.2.2.2.2.1.trans hrt) ht (hb K.2.2.2.1 hd) hr, hrun, hended, _, L, rfl, ⟨?_, N⟩, ⟨_, rfl⟩, hW, hsame.mono hk hn⟩
  show Q _ T.heap
  rw [eT]; exact hq
theorem g_return (K : Kx Z own nm bytes ml rt p s m meth c) (pc : Nat)  (hd : decode bytes pc = .ok (.return_, 1)) (hrt : rt = none)  (hk : k ≤ R.cells) (hn : n ≤ R.slots) (hq : Q none h) : Go p l e R s m args below meth c n0 Q h k n (mkF m pc Ls []) := by
  intro T L X eT N
  obtain ⟨fs, hr, hrun, hended, hW, hsame⟩ := X.leave (v := none) (fun hh => by first | rfl | (rw [K.2.2.2.2.2.1, hrt] at hh; cases hh)) K.2.2.2.2.2.2.1
  refine ⟨_, _, X.returnOut K.1 (K.2.2.2.2.2.1.trans hrt) (hb K.2.2.2.1 hd) hr, hrun, hended, _, L, rfl, ⟨?_, N⟩, ⟨_, rfl⟩, hW, hsame.mono hk hn⟩
  show Q _ T.heap
  rw [eT]; exact hq
theorem g_getfield (K : Kx Z own nm bytes ml rt p s m meth c) (pc : Nat) {i : Nat} {C f d : String} {a : Addr} {v : Value} (hd : decode bytes pc = .ok (.getfield i, 3)) (w : (Jvm.Cond.fieldLink own i C f d).before a0 Z = true) (F : Fld Z h a C f d v) (hr : Go p l e R s m args below meth c n0 Q h k n (mkF m (pc + 3) Ls (v :: st))) : Go p l e R s m args below meth c n0 Q h k n (mkF m pc Ls (.ref a :: st)) := by
  intro T L X eT N
  obtain ⟨T', X', e', stp⟩ := getF X K.1 K.2.1 K.2.2.1 (host := "") (Or.inl w) Via.refl eT F (g := mkF m pc Ls (.ref a :: st)) rfl rfl (hb K.2.2.2.1 hd)
  obtain ⟨s₂, o, S, r⟩ := hr T' L X' e' N
  exact ⟨s₂, o, stp _ S, r⟩
theorem g_putfield (K : Kx Z own nm bytes ml rt p s m meth c) (pc : Nat) {i kk : Nat} {C f d : String} {a : Addr} {v old : Value} (ty : FieldType) (hd : decode bytes pc = .ok (.putfield i, 3)) (w : (Jvm.Cond.fieldLink own i C f d).before a0 Z = true) (F : Fld Z h a C f d old) (E : Exa Z h a C) (Lw : (Jvm.Cond.lays C C f d).before a0 Z = true ∨ ((Jvm.Cond.laysFinal C C f d).before a0 Z = true ∧ own = C ∧ nm = "<init>")) (wi : (Jvm.Cond.instantiable C kk).before a0 Z = true) (hty : parseFieldDescriptor d = some ty) (hnv : narrow ty v = v) (hfv : fits ty v = true) (ha : n0 ≤ a) (hr : ∀ h', Wr h h' a (Jvm.RoadKit.slotOf Z C f d) v → Keep h h' [a] → Go p l e R s m args below meth c n0 Q h' k n (mkF m (pc + 3) Ls st)) : Go p l e R s m args below meth c n0 Q h k n (mkF m pc Ls (v :: .ref a :: st)) := by
  intro T L X eT N
  obtain ⟨T', h', X', e', W, stp⟩ := putF X K.1 K.2.1 K.2.2.1 (host := "") (Or.inl w) Via.refl eT F E (Lw.imp id fun q => ⟨q.1, q.2.1, K.2.2.2.2.2.2.2.trans q.2.2⟩) wi hty hnv hfv (g := mkF m pc Ls (v :: .ref a :: st)) rfl rfl (hb K.2.2.2.1 hd)
  obtain ⟨s₂, o, S, r⟩ := hr h' W (Keep.of_wr W) T' _ X' e' (Fr.snoc X' N ha)
  exact ⟨s₂, o, stp _ S, r⟩
theorem g_new (K : Kx Z own nm bytes ml rt p s m meth c) (pc : Nat) {i kk : Nat} {C : String} (hd : decode bytes pc = .ok (.new i, 3)) (w : (Jvm.Cond.classLink own i C).before a0 Z = true) (wi : (Jvm.Cond.instantiable C kk).before a0 Z = true) (wz : (Jvm.Cond.initialized C).before a0 Z = true) (hk : k + 1 ≤ R.cells) (hn : n + kk ≤ R.slots) (hr : ∀ h' a, a = h.size → Keep h h' [] → Exa Z h' a C → (∀ {O f d : String} {ty : FieldType}, Laid Z a0 C O f d → parseFieldDescriptor d = some ty → Fld Z h' a O f d (defaultValue ty)) → Go p l e R s m args below meth c n0 Q h' (k + 1) (n + kk) (mkF m (pc + 3) Ls (.ref a :: st))) : Go p l e R s m args below meth c n0 Q h k n (mkF m pc Ls st) := by
  intro T L X eT N
  obtain ⟨T', h', X', e', E, A, D, -, stp⟩ := newO X K.1 K.2.1 K.2.2.1 w wi wz eT (g := mkF m pc Ls st) rfl (hb K.2.2.2.1 hd) hk hn
  obtain ⟨s₂, o, S, r⟩ := hr h' h.size rfl (keep_ext E) A D T' L X' e' N
  exact ⟨s₂, o, stp _ S, r⟩
theorem g_initO (K : Kx Z own nm bytes ml rt p s m meth c) (pc : Nat) {i : Nat} {a : Addr} (hd : decode bytes pc = .ok (.invokespecial i, 3)) (w1 : (Jvm.Cond.methodLink own i Lib.objectInit).before a0 Z = true) (w2 : (Jvm.Cond.instanceMethod Lib.objectInit).before a0 Z = true) (w3 : (Jvm.Cond.code Lib.objectInit ⟨#[0xb1]⟩ 1 none).before a0 Z = true) (hls : Ls.size = ml) (hf : 1 ≤ R.frames) (W : Nat) (hW : (st.map fun v => v.category).sum ≤ W) (hlo : W + 12 ≤ R.locals) (hr : Go p l e R s m args below meth c n0 Q h k n (mkF m (pc + 3) Ls st)) : Go p l e R s m args below meth c n0 Q h k n (mkF m pc Ls (.ref a :: st)) := by
  intro T L X eT N
  obtain ⟨T', X', e', stp⟩ := initO X K.1 K.2.1 K.2.2.1 w1 w2 w3 eT (g := mkF m pc Ls (.ref a :: st)) rfl (hls.trans K.2.2.2.2.1.symm) rfl (hb K.2.2.2.1 hd) hf (W := W) (by show 2 * 0 + _ ≤ _; omega) hlo
  obtain ⟨s₂, o, S, r⟩ := hr T' L X' e' N
  exact ⟨s₂, o, stp _ S, r⟩
theorem g_newI (K : Kx Z own nm bytes ml rt p s m meth c) (pc : Nat) {aty : ArrayType} {z : Int32} (ty : FieldType) (hd : decode bytes pc = .ok (.newarray aty, 2)) (hty : newarray.typeOf aty = ty) (hdef : defaultValue ty = .int 0) (w : (Jvm.Cond.arrayClass ty).before a0 Z = true) (hz : ¬ z < 0) (cap : Nat) (hcap : z.toNatClampNeg ≤ cap) (hb8 : cap * 8 ≤ 536870912) (hk : k + 1 ≤ R.cells) (hn : n + cap ≤ R.slots) (hr : ∀ h' a, a = h.size → Keep h h' [] → IA Z h' a ty (List.replicate z.toNatClampNeg 0) → Go p l e R s m args below meth c n0 Q h' (k + 1) (n + cap) (mkF m (pc + 2) Ls (.ref a :: st))) : Go p l e R s m args below meth c n0 Q h k n (mkF m pc Ls (.int z :: st)) := by
  subst hty
  intro T L X eT N
  obtain ⟨T', h', cA, X', e', E, A, stp⟩ := newP X K.1 K.2.1 w eT (g := mkF m pc Ls (.int z :: st)) rfl (hb K.2.2.2.1 hd) rfl hz hcap hb8 hk hn
  obtain ⟨s₂, o, S, r⟩ := hr h' h.size rfl (keep_ext E) ⟨_, A, by simp [newA, hdef]⟩ T' L X' e' N
  exact ⟨s₂, o, stp _ S, r⟩
theorem g_newJ (K : Kx Z own nm bytes ml rt p s m meth c) (pc : Nat) {z : Int32} (hd : decode bytes pc = .ok (.newarray .long, 2)) (w : (Jvm.Cond.arrayClass .long).before a0 Z = true) (hz : ¬ z < 0) (cap : Nat) (hcap : z.toNatClampNeg ≤ cap) (hb8 : cap * 8 ≤ 536870912) (hk : k + 1 ≤ R.cells) (hn : n + cap ≤ R.slots) (hr : ∀ h' a, a = h.size → Keep h h' [] → LA Z h' a (List.replicate z.toNatClampNeg 0) → Go p l e R s m args below meth c n0 Q h' (k + 1) (n + cap) (mkF m (pc + 2) Ls (.ref a :: st))) : Go p l e R s m args below meth c n0 Q h k n (mkF m pc Ls (.int z :: st)) := by
  intro T L X eT N
  obtain ⟨T', h', cA, X', e', E, A, stp⟩ := newP X K.1 K.2.1 (aty := .long) w eT (g := mkF m pc Ls (.int z :: st)) rfl (hb K.2.2.2.1 hd) rfl hz hcap hb8 hk hn
  obtain ⟨s₂, o, S, r⟩ := hr h' h.size rfl (keep_ext E) ⟨_, A, by simp [newA, defaultValue, newarray.typeOf]⟩ T' L X' e' N
  exact ⟨s₂, o, stp _ S, r⟩
theorem g_iaload (K : Kx Z own nm bytes ml rt p s m meth c) (pc : Nat) {a : Addr} {xs : List Int32} {j : Int32} (v : Int32) (hd : decode bytes pc = .ok (.iaload, 1)) (F : IA Z h a .int xs) (hj : ¬ j < 0) (hv : xs[j.toNatClampNeg]? = some v) (hr : Go p l e R s m args below meth c n0 Q h k n (mkF m (pc + 1) Ls (.int v :: st))) : Go p l e R s m args below meth c n0 Q h k n (mkF m pc Ls (.int j :: .ref a :: st)) := by
  intro T L X eT N
  obtain ⟨cl, A, es⟩ := F
  obtain ⟨s₂, o, S, r⟩ := hr T L X eT N
  have hlt : j.toNatClampNeg < xs.length := (List.getElem?_eq_some_iff.mp hv).1
  refine ⟨s₂, o, X.iaload K.1 (j := j) (v := (.int v)) (by rw [eT]; exact A.1) (State.isArrayOf_alike K.2.1.alike A.2.1) A.2.2 (own_clamp hj hlt (by simp [es])) (by rw [es]; simp [hv]) (g := mkF m pc Ls (.int j :: .ref a :: st)) rfl rfl (hb K.2.2.2.1 hd) _ S, r⟩
theorem g_baload (K : Kx Z own nm bytes ml rt p s m meth c) (pc : Nat) {a : Addr} {xs : List Int32} {j : Int32} (v : Int32) (hd : decode bytes pc = .ok (.baload, 1)) (F : IA Z h a .byte xs) (hj : ¬ j < 0) (hv : xs[j.toNatClampNeg]? = some v) (hr : Go p l e R s m args below meth c n0 Q h k n (mkF m (pc + 1) Ls (.int v :: st))) : Go p l e R s m args below meth c n0 Q h k n (mkF m pc Ls (.int j :: .ref a :: st)) := by
  intro T L X eT N
  obtain ⟨cl, A, es⟩ := F
  obtain ⟨s₂, o, S, r⟩ := hr T L X eT N
  have hlt : j.toNatClampNeg < xs.length := (List.getElem?_eq_some_iff.mp hv).1
  refine ⟨s₂, o, X.baloadBytes K.1 (j := j) (v := (.int v)) (by rw [eT]; exact A.1) (State.isArrayOf_alike K.2.1.alike A.2.1) A.2.2 (own_clamp hj hlt (by simp [es])) (by rw [es]; simp [hv]) (g := mkF m pc Ls (.int j :: .ref a :: st)) rfl rfl (hb K.2.2.2.1 hd) _ S, r⟩
theorem g_zaload (K : Kx Z own nm bytes ml rt p s m meth c) (pc : Nat) {a : Addr} {xs : List Int32} {j : Int32} (v : Int32) (hd : decode bytes pc = .ok (.baload, 1)) (F : IA Z h a .boolean xs) (hj : ¬ j < 0) (hv : xs[j.toNatClampNeg]? = some v) (hr : Go p l e R s m args below meth c n0 Q h k n (mkF m (pc + 1) Ls (.int v :: st))) : Go p l e R s m args below meth c n0 Q h k n (mkF m pc Ls (.int j :: .ref a :: st)) := by
  intro T L X eT N
  obtain ⟨cl, A, es⟩ := F
  obtain ⟨s₂, o, S, r⟩ := hr T L X eT N
  have hlt : j.toNatClampNeg < xs.length := (List.getElem?_eq_some_iff.mp hv).1
  refine ⟨s₂, o, X.baloadBooleans K.1 (j := j) (v := (.int v)) (by rw [eT]; exact A.1) (State.isArrayOf_alike K.2.1.alike A.2.1) A.2.2 (own_clamp hj hlt (by simp [es])) (by rw [es]; simp [hv]) (g := mkF m pc Ls (.int j :: .ref a :: st)) rfl rfl (hb K.2.2.2.1 hd) _ S, r⟩
theorem g_saload (K : Kx Z own nm bytes ml rt p s m meth c) (pc : Nat) {a : Addr} {xs : List Int32} {j : Int32} (v : Int32) (hd : decode bytes pc = .ok (.saload, 1)) (F : IA Z h a .short xs) (hj : ¬ j < 0) (hv : xs[j.toNatClampNeg]? = some v) (hr : Go p l e R s m args below meth c n0 Q h k n (mkF m (pc + 1) Ls (.int v :: st))) : Go p l e R s m args below meth c n0 Q h k n (mkF m pc Ls (.int j :: .ref a :: st)) := by
  intro T L X eT N
  obtain ⟨cl, A, es⟩ := F
  obtain ⟨s₂, o, S, r⟩ := hr T L X eT N
  have hlt : j.toNatClampNeg < xs.length := (List.getElem?_eq_some_iff.mp hv).1
  refine ⟨s₂, o, X.saload K.1 (j := j) (v := (.int v)) (by rw [eT]; exact A.1) (State.isArrayOf_alike K.2.1.alike A.2.1) A.2.2 (own_clamp hj hlt (by simp [es])) (by rw [es]; simp [hv]) (g := mkF m pc Ls (.int j :: .ref a :: st)) rfl rfl (hb K.2.2.2.1 hd) _ S, r⟩
theorem g_laload (K : Kx Z own nm bytes ml rt p s m meth c) (pc : Nat) {a : Addr} {xs : List Int64} {j : Int32} (v : Int64) (hd : decode bytes pc = .ok (.laload, 1)) (F : LA Z h a xs) (hj : ¬ j < 0) (hv : xs[j.toNatClampNeg]? = some v) (hr : Go p l e R s m args below meth c n0 Q h k n (mkF m (pc + 1) Ls (.long v :: st))) : Go p l e R s m args below meth c n0 Q h k n (mkF m pc Ls (.int j :: .ref a :: st)) := by
  intro T L X eT N
  obtain ⟨cl, A, es⟩ := F
  obtain ⟨s₂, o, S, r⟩ := hr T L X eT N
  have hlt : j.toNatClampNeg < xs.length := (List.getElem?_eq_some_iff.mp hv).1
  refine ⟨s₂, o, X.laload K.1 (j := j) (v := (.long v)) (by rw [eT]; exact A.1) (State.isArrayOf_alike K.2.1.alike A.2.1) A.2.2 (own_clamp hj hlt (by simp [es])) (by rw [es]; simp [hv]) (g := mkF m pc Ls (.int j :: .ref a :: st)) rfl rfl (hb K.2.2.2.1 hd) _ S, r⟩
theorem g_iastore (K : Kx Z own nm bytes ml rt p s m meth c) (pc : Nat) {a : Addr} {xs : List Int32} {j : Int32} {x : Int32} (hd : decode bytes pc = .ok (.iastore, 1)) (F : IA Z h a .int xs) (hj : ¬ j < 0) (hlt : j.toNatClampNeg < xs.length) (ha : n0 ≤ a) (hr : ∀ h', Keep h h' [a] → IA Z h' a .int (xs.set j.toNatClampNeg (x)) → Go p l e R s m args below meth c n0 Q h' k n (mkF m (pc + 1) Ls st)) : Go p l e R s m args below meth c n0 Q h k n (mkF m pc Ls (.int x :: .int j :: .ref a :: st)) := by
  intro T L X eT N
  have F' := F
  obtain ⟨cl, A, es⟩ := F
  obtain ⟨T', h', X', e', W, stp⟩ := stI X K.1 K.2.1 eT A (j := j) (x := x) (own_clamp hj hlt (by simp [es])) (g := mkF m pc Ls (.int x :: .int j :: .ref a :: st)) rfl rfl (hb K.2.2.2.1 hd)
  obtain ⟨s₂, o, S, r⟩ := hr h' (Keep.of_wr W) (F'.set W) T' _ X' e' (Fr.snoc X' N ha)
  exact ⟨s₂, o, stp _ S, r⟩
theorem g_bastore (K : Kx Z own nm bytes ml rt p s m meth c) (pc : Nat) {a : Addr} {xs : List Int32} {j : Int32} {x : Int32} (hd : decode bytes pc = .ok (.bastore, 1)) (F : IA Z h a .byte xs) (hj : ¬ j < 0) (hlt : j.toNatClampNeg < xs.length) (ha : n0 ≤ a) (hr : ∀ h', Keep h h' [a] → IA Z h' a .byte (xs.set j.toNatClampNeg (nar .byte x)) → Go p l e R s m args below meth c n0 Q h' k n (mkF m (pc + 1) Ls st)) : Go p l e R s m args below meth c n0 Q h k n (mkF m pc Ls (.int x :: .int j :: .ref a :: st)) := by
  intro T L X eT N
  have F' := F
  obtain ⟨cl, A, es⟩ := F
  obtain ⟨T', h', X', e', W, stp⟩ := stB X K.1 K.2.1 eT A (j := j) (x := x) (own_clamp hj hlt (by simp [es])) (g := mkF m pc Ls (.int x :: .int j :: .ref a :: st)) rfl rfl (hb K.2.2.2.1 hd)
  obtain ⟨s₂, o, S, r⟩ := hr h' (Keep.of_wr W) (F'.set W) T' _ X' e' (Fr.snoc X' N ha)
  exact ⟨s₂, o, stp _ S, r⟩
theorem g_zastore (K : Kx Z own nm bytes ml rt p s m meth c) (pc : Nat) {a : Addr} {xs : List Int32} {j : Int32} {x : Int32} (hd : decode bytes pc = .ok (.bastore, 1)) (F : IA Z h a .boolean xs) (hj : ¬ j < 0) (hlt : j.toNatClampNeg < xs.length) (ha : n0 ≤ a) (hr : ∀ h', Keep h h' [a] → IA Z h' a .boolean (xs.set j.toNatClampNeg (nar .boolean x)) → Go p l e R s m args below meth c n0 Q h' k n (mkF m (pc + 1) Ls st)) : Go p l e R s m args below meth c n0 Q h k n (mkF m pc Ls (.int x :: .int j :: .ref a :: st)) := by
  intro T L X eT N
  have F' := F
  obtain ⟨cl, A, es⟩ := F
  obtain ⟨T', h', X', e', W, stp⟩ := stZ X K.1 K.2.1 eT A (j := j) (x := x) (own_clamp hj hlt (by simp [es])) (g := mkF m pc Ls (.int x :: .int j :: .ref a :: st)) rfl rfl (hb K.2.2.2.1 hd)
  obtain ⟨s₂, o, S, r⟩ := hr h' (Keep.of_wr W) (F'.set W) T' _ X' e' (Fr.snoc X' N ha)
  exact ⟨s₂, o, stp _ S, r⟩
theorem g_sastore (K : Kx Z own nm bytes ml rt p s m meth c) (pc : Nat) {a : Addr} {xs : List Int32} {j : Int32} {x : Int32} (hd : decode bytes pc = .ok (.sastore, 1)) (F : IA Z h a .short xs) (hj : ¬ j < 0) (hlt : j.toNatClampNeg < xs.length) (ha : n0 ≤ a) (hr : ∀ h', Keep h h' [a] → IA Z h' a .short (xs.set j.toNatClampNeg (nar .short x)) → Go p l e R s m args below meth c n0 Q h' k n (mkF m (pc + 1) Ls st)) : Go p l e R s m args below meth c n0 Q h k n (mkF m pc Ls (.int x :: .int j :: .ref a :: st)) := by
  intro T L X eT N
  have F' := F
  obtain ⟨cl, A, es⟩ := F
  obtain ⟨T', h', X', e', W, stp⟩ := stS X K.1 K.2.1 eT A (j := j) (x := x) (own_clamp hj hlt (by simp [es])) (g := mkF m pc Ls (.int x :: .int j :: .ref a :: st)) rfl rfl (hb K.2.2.2.1 hd)
  obtain ⟨s₂, o, S, r⟩ := hr h' (Keep.of_wr W) (F'.set W) T' _ X' e' (Fr.snoc X' N ha)
  exact ⟨s₂, o, stp _ S, r⟩
theorem g_lastore (K : Kx Z own nm bytes ml rt p s m meth c) (pc : Nat) {a : Addr} {xs : List Int64} {j : Int32} {x : Int64} (hd : decode bytes pc = .ok (.lastore, 1)) (F : LA Z h a xs) (hj : ¬ j < 0) (hlt : j.toNatClampNeg < xs.length) (ha : n0 ≤ a) (hr : ∀ h', Keep h h' [a] → LA Z h' a (xs.set j.toNatClampNeg (x)) → Go p l e R s m args below meth c n0 Q h' k n (mkF m (pc + 1) Ls st)) : Go p l e R s m args below meth c n0 Q h k n (mkF m pc Ls (.long x :: .int j :: .ref a :: st)) := by
  intro T L X eT N
  have F' := F
  obtain ⟨cl, A, es⟩ := F
  obtain ⟨T', h', X', e', W, stp⟩ := stJ X K.1 K.2.1 eT A (j := j) (x := x) (own_clamp hj hlt (by simp [es])) (g := mkF m pc Ls (.long x :: .int j :: .ref a :: st)) rfl rfl (hb K.2.2.2.1 hd)
  obtain ⟨s₂, o, S, r⟩ := hr h' (Keep.of_wr W) (F'.set W) T' _ X' e' (Fr.snoc X' N ha)
  exact ⟨s₂, o, stp _ S, r⟩
theorem g_alen (K : Kx Z own nm bytes ml rt p s m meth c) (pc : Nat) {a : Addr} {ty : FieldType} {xs : List Int32} (v : Int32) (hd : decode bytes pc = .ok (.arraylength, 1)) (F : IA Z h a ty xs) (hv : xs.length.toInt32 = v) (hr : Go p l e R s m args below meth c n0 Q h k n (mkF m (pc + 1) Ls (.int v :: st))) : Go p l e R s m args below meth c n0 Q h k n (mkF m pc Ls (.ref a :: st)) := by
  intro T L X eT N
  obtain ⟨cl, A, es⟩ := F
  obtain ⟨s₂, o, S, r⟩ := hr T L X eT N
  have hq : cl.slots.size.toInt32 = v := by rw [es]; simpa using hv
  refine ⟨s₂, o, X.arraylength K.1 (cell := cl) (by rw [eT]; exact A.1) (State.isArrayOf_alike K.2.1.alike A.2.1) (g := mkF m pc Ls (.ref a :: st)) rfl (rest := st) rfl (hb K.2.2.2.1 hd) _ ?_, r⟩
  rw [hq]; exact S
theorem g_callS (K : Kx Z own nm bytes ml rt p s m meth c) (pc : Nat) {i : Nat} {y : MethodName} {b2 : ByteArray} {ml2 : Nat} {rt2 : Option FieldType} {rm : Room} {Q' : Option Value → Heap → Prop} {sig : MethodDescriptor} {S0 : List Value} (argsL : List Value) (W : Nat) (hd : decode bytes pc = .ok (.invokestatic i, 3))
    (M : Meets l y b2 ml2 rt2 rm Z argsL.toArray h n0 Q') (wl : (Jvm.Cond.methodLink own i y).before a0 Z = true) (ws : (Jvm.Cond.static y).before a0 Z = true) (wz : (Jvm.Cond.initialized y.cls).before a0 Z = true) (wc : (Jvm.Cond.code y b2 ml2 rt2).before a0 Z = true) (hy : y.cls ≠ "java/lang/invoke/MethodHandle" ∧ y.cls ≠ "java/lang/invoke/VarHandle")
    (hpd : parseMethodDescriptor y.desc = some sig) (hlen : argsL.length = sig.parameters.length) (hS : S0 = argsL.reverse ++ st) (hW : (st.map fun v => v.category).sum ≤ W) (hls : Ls.size = ml) (hf : rm.frames + 1 ≤ R.frames) (hlo : W + (ml2 + 11) + rm.locals ≤ R.locals) (hk : k + rm.cells ≤ R.cells) (hn : n + rm.slots ≤ R.slots)
    (hr : ∀ v h', Q' v h' → Go p l e R s m args below meth c n0 Q h' (k + rm.cells) (n + rm.slots) (mkF m (pc + 3) Ls (v.toList ++ st))) : Go p l e R s m args below meth c n0 Q h k n (mkF m pc Ls S0) := by
  subst hS
  intro T L X eT N
  obtain ⟨v, vm₁, ⟨T', L', k', n'⟩, -, X', ⟨L2, hQ, l1, y1, z1⟩, stp⟩ := Jvm.LawKit.callS X K.1 (y := y) K.2.2.1 (mvT K.2.1 wl) (mvT K.2.1 ws) (mvT K.2.1 wz) (mvT K.2.1 wc) hy (backOf (W := W) (Q := fun v h L => Q' v h ∧ Fr n0 L) (M []) K.2.1 wc wz hf hlo) (g := mkF m pc Ls (argsL.reverse ++ st)) rfl (hls.trans K.2.2.2.2.1.symm) (argsL := argsL) (rest := st) (fun sg h => by cases hpd.symm.trans h; exact hlen) rfl (by show 2 * 0 + _ ≤ _; omega) (hb K.2.2.2.1 hd) (fun _ _ => ⟨rfl, eT, hk, hn⟩)
  dsimp only [Pt.U, Pt.locs, Pt.cells, Pt.slots] at X' l1 y1 z1 stp hQ
  subst l1 y1 z1
  obtain ⟨s₂, o, S, r⟩ := hr v _ hQ.1 T' _ X' rfl (Fr.app N hQ.2)
  exact ⟨s₂, o, stp _ S, r⟩
theorem g_callN (K : Kx Z own nm bytes ml rt p s m meth c) (pc : Nat) {i : Nat} {y : MethodName} {b2 : ByteArray} {ml2 : Nat} {rm : Room} {Q' : Option Value → Heap → Prop} {sig : MethodDescriptor} {S0 : List Value} {a : Addr} (argsL : List Value) (W : Nat) (hd : decode bytes pc = .ok (.invokespecial i, 3))
    (M : Meets l y b2 ml2 none rm Z (.ref a :: argsL).toArray h n0 Q') (hy1 : y.name = "<init>") (wl : (Jvm.Cond.methodLink own i y).before a0 Z = true) (wi : (Jvm.Cond.instanceMethod y).before a0 Z = true) (wz : (Jvm.Cond.initialized y.cls).before a0 Z = true) (wc : (Jvm.Cond.code y b2 ml2 none).before a0 Z = true) (hy : y.cls ≠ "java/lang/invoke/MethodHandle" ∧ y.cls ≠ "java/lang/invoke/VarHandle")
    (hpd : parseMethodDescriptor y.desc = some sig) (hlen : argsL.length = sig.parameters.length) (hS : S0 = argsL.reverse ++ .ref a :: st) (hW : (st.map fun v => v.category).sum ≤ W) (hls : Ls.size = ml) (hf : rm.frames + 1 ≤ R.frames) (hlo : W + (ml2 + 11) + rm.locals ≤ R.locals) (hk : k + rm.cells ≤ R.cells) (hn : n + rm.slots ≤ R.slots)
    (hr : ∀ v h', Q' v h' → Go p l e R s m args below meth c n0 Q h' (k + rm.cells) (n + rm.slots) (mkF m (pc + 3) Ls (v.toList ++ st))) : Go p l e R s m args below meth c n0 Q h k n (mkF m pc Ls S0) := by
  subst hS
  intro T L X eT N
  obtain ⟨v, vm₁, ⟨T', L', k', n'⟩, -, X', ⟨L2, hQ, l1, y1, z1⟩, stp⟩ := X.specialBack K.1 (y := y) hy1 K.2.2.1 (mvT K.2.1 wl) (mvT K.2.1 wi) (mvT K.2.1 wc) hy (backOf (W := W) (Q := fun v h L => Q' v h ∧ Fr n0 L) (M []) K.2.1 wc wz hf hlo) (g := mkF m pc Ls (argsL.reverse ++ .ref a :: st)) rfl (hls.trans K.2.2.2.2.1.symm) (Steps.refl _) (a := a) (argsL := argsL) (rest := st) (fun sg h => by cases hpd.symm.trans h; exact hlen) rfl (by show 2 * 0 + _ ≤ _; omega) (hb K.2.2.2.1 hd) (fun _ _ => ⟨rfl, eT, hk, hn⟩)
  dsimp only [Pt.U, Pt.locs, Pt.cells, Pt.slots] at X' l1 y1 z1 stp hQ
  subst l1 y1 z1
  obtain ⟨s₂, o, S, r⟩ := hr v _ hQ.1 T' _ X' rfl (Fr.app N hQ.2)
  exact ⟨s₂, o, stp.trans S, r⟩
theorem g_callV (K : Kx Z own nm bytes ml rt p s m meth c) (pc : Nat) {i : Nat} {y z : MethodName} {C : String} {b2 : ByteArray} {ml2 : Nat} {rt2 : Option FieldType} {rm : Room} {Q' : Option Value → Heap → Prop} {sig : MethodDescriptor} {S0 : List Value} {a : Addr} (argsL : List Value) (W : Nat) (hd : decode bytes pc = .ok (.invokevirtual i, 3))
    (M : Meets l z b2 ml2 rt2 rm Z (.ref a :: argsL).toArray h n0 Q') (E : Exa Z h a C) (wl : (Jvm.Cond.methodLink own i y).before a0 Z = true) (wd : (Jvm.Cond.declares y).before a0 Z = true) (wsel : (Jvm.Cond.selects C y z).before a0 Z = true) (wself : (Jvm.Cond.selects y.cls y y).before a0 Z = true) (wi : (Jvm.Cond.instanceMethod z).before a0 Z = true) (wz : (Jvm.Cond.initialized z.cls).before a0 Z = true) (wc : (Jvm.Cond.code z b2 ml2 rt2).before a0 Z = true) (hy : y.cls ≠ "java/lang/invoke/MethodHandle" ∧ y.cls ≠ "java/lang/invoke/VarHandle")
    (hpd : parseMethodDescriptor y.desc = some sig) (hlen : argsL.length = sig.parameters.length) (hS : S0 = argsL.reverse ++ .ref a :: st) (hW : (st.map fun v => v.category).sum ≤ W) (hls : Ls.size = ml) (hf : rm.frames + 1 ≤ R.frames) (hlo : W + (ml2 + 11) + rm.locals ≤ R.locals) (hk : k + rm.cells ≤ R.cells) (hn : n + rm.slots ≤ R.slots)
    (hr : ∀ v h', Q' v h' → Go p l e R s m args below meth c n0 Q h' (k + rm.cells) (n + rm.slots) (mkF m (pc + 3) Ls (v.toList ++ st))) : Go p l e R s m args below meth c n0 Q h k n (mkF m pc Ls S0) := by
  subst hS
  intro T L X eT N
  obtain ⟨cB, kB, q1, q2, q3⟩ := isOf K.2.1 eT E
  obtain ⟨v, vm₁, ⟨T', L', k', n'⟩, -, X', ⟨L2, hQ, l1, y1, z1⟩, stp⟩ := X.virtualBack K.1 (y := y) (z := z) K.2.2.1 (mvT K.2.1 wl) (mvT K.2.1 wd) (notFace_of_selects (args := #[]) (mvT K.2.1 wself)) (mvT K.2.1 wsel) (mvT K.2.1 wi) hy (backOf (W := W) (Q := fun v h L => Q' v h ∧ Fr n0 L) (M []) K.2.1 wc wz hf hlo) q1 q3 (g := mkF m pc Ls (argsL.reverse ++ .ref a :: st)) rfl (hls.trans K.2.2.2.2.1.symm) (Steps.refl _) (argsL := argsL) (rest := st) (fun sg h => by cases hpd.symm.trans h; exact hlen) rfl (by show 2 * 0 + _ ≤ _; omega) (hb K.2.2.2.1 hd) (fun _ _ => ⟨rfl, eT, hk, hn⟩)
  dsimp only [Pt.U, Pt.locs, Pt.cells, Pt.slots] at X' l1 y1 z1 stp hQ
  subst l1 y1 z1
  obtain ⟨s₂, o, S, r⟩ := hr v _ hQ.1 T' _ X' rfl (Fr.app N hQ.2)
  exact ⟨s₂, o, stp.trans S, r⟩
end GoSteps
theorem meets_of {l : Launch} {y : MethodName} {bytes : ByteArray} {ml : Nat} {rt : Option FieldType} {rm : Room} {Z : State} {as : Array Value} {h0 : Heap} {n0 : Nat} {Q : Option Value → Heap → Prop} (hx : plainFor y = true) {Ls : Array Slot} (hef : ∀ m, entryFrame m as ml = mkF m 0 Ls [])
    (body : ∀ p e s m below meth c, Kx Z y.cls y.name bytes ml rt p s m meth c → Go p l e rm s m as below meth c n0 Q h0 0 0 (mkF m 0 Ls [])) : Meets l y bytes ml rt rm Z as h0 n0 Q := by
  intro ws
  refine MetFree.of_bodySF hx hisR ?_
  intro p e s m args below meth c s₁ Bd hml0 hP hK
  obtain ⟨rfl, hZ, hh⟩ := hP
  have X0 : Stand p l e rm s m args below meth c s₁ [] 0 0 := Stand.of_body Bd
  have e0 : s₁.heap = h0 := by rw [← hh, Bd.state]; rfl
  obtain ⟨s₂, o, S, r1, r2, r3⟩ := body p e s m below meth c ⟨Bd.exec, hZ, findClass_of_methodNamed Bd.named, Bd.bytes, hml0, Bd.returns, Bd.notSynchronized, (name_of_methodNamed Bd.named Bd.method).1⟩ s₁ [] X0 e0 (Fr.nil n0)
  exact ⟨s₂, o, castTop (hef m) S, r1, r2, r3⟩
theorem tw {a0 : Array Value} {Z : State} {ts : List Jvm.Cond} (hw : ∀ d ∈ ts, d.before a0 Z = true) (i : Nat) {d : Jvm.Cond} (q : ts[i]? = some d) : d.before a0 Z = true := hw _ (List.mem_of_getElem? q)
theorem pn0 : plainName "com/example/zedcube/zedcube/engine/NodesOccupiedAddressFromPinLaw" = true := by first | (simp [plainName, overriddenIn]; done) | decide +kernel
theorem pd0 : parseMethodDescriptor "(JII)J" = some ⟨[.long, .int, .int], some .long⟩ := by decide +kernel
theorem pn1 : plainName "com/example/zedcube/zedcube/engine/Nodes" = true := by first | (simp [plainName, overriddenIn]; done) | decide +kernel
theorem pd1 : parseMethodDescriptor "(IZ)V" = some ⟨[.int, .boolean], none⟩ := by decide +kernel
theorem pd2 : parseMethodDescriptor "()V" = some ⟨[], none⟩ := by decide +kernel
theorem pn2 : plainName "com/example/zedcube/zedcube/engine/SlotList" = true := by first | (simp [plainName, overriddenIn]; done) | decide +kernel
theorem pd3 : parseMethodDescriptor "(IIZ)V" = some ⟨[.int, .int, .boolean], none⟩ := by decide +kernel
theorem pd4 : parseMethodDescriptor "(II)I" = some ⟨[.int, .int], some .int⟩ := by decide +kernel
theorem pd5 : parseMethodDescriptor "([JI)I" = some ⟨[(.array .long), .int], some .int⟩ := by decide +kernel
theorem pd6 : parseMethodDescriptor "([ZII)I" = some ⟨[(.array .boolean), .int, .int], some .int⟩ := by decide +kernel
theorem pd7 : parseMethodDescriptor "(IIJJJJ)Z" = some ⟨[.int, .int, .long, .long, .long, .long], some .boolean⟩ := by decide +kernel
theorem d1_0 : decode method_3_code 0 = .ok (.ldc2_w 27, 3) := by decide +kernel
theorem d1_3 : decode method_3_code 3 = .ok (.lstore 4, 2) := by decide +kernel
theorem d1_5 : decode method_3_code 5 = .ok (.iload_n 2, 1) := by decide +kernel
theorem d1_6 : decode method_3_code 6 = .ok (.iconst 2, 1) := by decide +kernel
theorem d1_7 : decode method_3_code 7 = .ok (.iload_n 3, 1) := by decide +kernel
theorem d1_8 : decode method_3_code 8 = .ok (.imul, 1) := by decide +kernel
theorem d1_9 : decode method_3_code 9 = .ok (.iushr, 1) := by decide +kernel
theorem d1_10 : decode method_3_code 10 = .ok (.iconst 1, 1) := by decide +kernel
theorem d1_11 : decode method_3_code 11 = .ok (.iand, 1) := by decide +kernel
theorem d1_12 : decode method_3_code 12 = .ok (.ifCond .eq 11, 3) := by decide +kernel
theorem d1_15 : decode method_3_code 15 = .ok (.lload 4, 2) := by decide +kernel
theorem d1_17 : decode method_3_code 17 = .ok (.ldc2_w 29, 3) := by decide +kernel
theorem d1_20 : decode method_3_code 20 = .ok (.land, 1) := by decide +kernel
theorem d1_21 : decode method_3_code 21 = .ok (.lstore 4, 2) := by decide +kernel
theorem d1_23 : decode method_3_code 23 = .ok (.iload_n 2, 1) := by decide +kernel
theorem d1_24 : decode method_3_code 24 = .ok (.iconst 2, 1) := by decide +kernel
theorem d1_25 : decode method_3_code 25 = .ok (.iload_n 3, 1) := by decide +kernel
theorem d1_26 : decode method_3_code 26 = .ok (.imul, 1) := by decide +kernel
theorem d1_27 : decode method_3_code 27 = .ok (.iconst 1, 1) := by decide +kernel
theorem d1_28 : decode method_3_code 28 = .ok (.iadd, 1) := by decide +kernel
theorem d1_29 : decode method_3_code 29 = .ok (.iushr, 1) := by decide +kernel
theorem d1_30 : decode method_3_code 30 = .ok (.iconst 1, 1) := by decide +kernel
theorem d1_31 : decode method_3_code 31 = .ok (.iand, 1) := by decide +kernel
theorem d1_32 : decode method_3_code 32 = .ok (.ifCond .eq 11, 3) := by decide +kernel
theorem d1_35 : decode method_3_code 35 = .ok (.lload 4, 2) := by decide +kernel
theorem d1_37 : decode method_3_code 37 = .ok (.ldc2_w 31, 3) := by decide +kernel
theorem d1_40 : decode method_3_code 40 = .ok (.land, 1) := by decide +kernel
theorem d1_41 : decode method_3_code 41 = .ok (.lstore 4, 2) := by decide +kernel
theorem d1_43 : decode method_3_code 43 = .ok (.lload_n 0, 1) := by decide +kernel
theorem d1_44 : decode method_3_code 44 = .ok (.lload 4, 2) := by decide +kernel
theorem d1_46 : decode method_3_code 46 = .ok (.land, 1) := by decide +kernel
theorem d1_47 : decode method_3_code 47 = .ok (.lreturn, 1) := by decide +kernel
theorem d2_0 : decode prog_13_method_1_code 0 = .ok (.aload_n 0, 1) := by decide +kernel
theorem d2_1 : decode prog_13_method_1_code 1 = .ok (.invokespecial 3, 3) := by decide +kernel
theorem d2_4 : decode prog_13_method_1_code 4 = .ok (.aload_n 0, 1) := by decide +kernel
theorem d2_5 : decode prog_13_method_1_code 5 = .ok (.iload_n 1, 1) := by decide +kernel
theorem d2_6 : decode prog_13_method_1_code 6 = .ok (.putfield 9, 3) := by decide +kernel
theorem d2_9 : decode prog_13_method_1_code 9 = .ok (.aload_n 0, 1) := by decide +kernel
theorem d2_10 : decode prog_13_method_1_code 10 = .ok (.iload_n 2, 1) := by decide +kernel
theorem d2_11 : decode prog_13_method_1_code 11 = .ok (.putfield 15, 3) := by decide +kernel
theorem d2_14 : decode prog_13_method_1_code 14 = .ok (.aload_n 0, 1) := by decide +kernel
theorem d2_15 : decode prog_13_method_1_code 15 = .ok (.new 1, 3) := by decide +kernel
theorem d2_18 : decode prog_13_method_1_code 18 = .ok (.dup, 1) := by decide +kernel
theorem d2_19 : decode prog_13_method_1_code 19 = .ok (.iconst 1, 1) := by decide +kernel
theorem d2_20 : decode prog_13_method_1_code 20 = .ok (.iload_n 1, 1) := by decide +kernel
theorem d2_21 : decode prog_13_method_1_code 21 = .ok (.iconst 0, 1) := by decide +kernel
theorem d2_22 : decode prog_13_method_1_code 22 = .ok (.invokespecial 19, 3) := by decide +kernel
theorem d2_25 : decode prog_13_method_1_code 25 = .ok (.putfield 22, 3) := by decide +kernel
theorem d2_28 : decode prog_13_method_1_code 28 = .ok (.aload_n 0, 1) := by decide +kernel
theorem d2_29 : decode prog_13_method_1_code 29 = .ok (.new 1, 3) := by decide +kernel
theorem d2_32 : decode prog_13_method_1_code 32 = .ok (.dup, 1) := by decide +kernel
theorem d2_33 : decode prog_13_method_1_code 33 = .ok (.iconst 1, 1) := by decide +kernel
theorem d2_34 : decode prog_13_method_1_code 34 = .ok (.iload_n 1, 1) := by decide +kernel
theorem d2_35 : decode prog_13_method_1_code 35 = .ok (.iconst 1, 1) := by decide +kernel
theorem d2_36 : decode prog_13_method_1_code 36 = .ok (.invokespecial 19, 3) := by decide +kernel
theorem d2_39 : decode prog_13_method_1_code 39 = .ok (.putfield 26, 3) := by decide +kernel
theorem d2_42 : decode prog_13_method_1_code 42 = .ok (.aload_n 0, 1) := by decide +kernel
theorem d2_43 : decode prog_13_method_1_code 43 = .ok (.new 1, 3) := by decide +kernel
theorem d2_46 : decode prog_13_method_1_code 46 = .ok (.dup, 1) := by decide +kernel
theorem d2_47 : decode prog_13_method_1_code 47 = .ok (.iconst 2, 1) := by decide +kernel
theorem d2_48 : decode prog_13_method_1_code 48 = .ok (.iconst 0, 1) := by decide +kernel
theorem d2_49 : decode prog_13_method_1_code 49 = .ok (.iconst 0, 1) := by decide +kernel
theorem d2_50 : decode prog_13_method_1_code 50 = .ok (.invokespecial 19, 3) := by decide +kernel
theorem d2_53 : decode prog_13_method_1_code 53 = .ok (.putfield 29, 3) := by decide +kernel
theorem d2_56 : decode prog_13_method_1_code 56 = .ok (.aload_n 0, 1) := by decide +kernel
theorem d2_57 : decode prog_13_method_1_code 57 = .ok (.iload_n 1, 1) := by decide +kernel
theorem d2_58 : decode prog_13_method_1_code 58 = .ok (.bipush 30, 2) := by decide +kernel
theorem d2_60 : decode prog_13_method_1_code 60 = .ok (.if_icmp .gt 17, 3) := by decide +kernel
theorem d2_63 : decode prog_13_method_1_code 63 = .ok (.iconst 1, 1) := by decide +kernel
theorem d2_64 : decode prog_13_method_1_code 64 = .ok (.iconst 1, 1) := by decide +kernel
theorem d2_65 : decode prog_13_method_1_code 65 = .ok (.iconst 1, 1) := by decide +kernel
theorem d2_66 : decode prog_13_method_1_code 66 = .ok (.iload_n 1, 1) := by decide +kernel
theorem d2_67 : decode prog_13_method_1_code 67 = .ok (.iconst 1, 1) := by decide +kernel
theorem d2_68 : decode prog_13_method_1_code 68 = .ok (.isub, 1) := by decide +kernel
theorem d2_69 : decode prog_13_method_1_code 69 = .ok (.ishl, 1) := by decide +kernel
theorem d2_70 : decode prog_13_method_1_code 70 = .ok (.invokestatic 32, 3) := by decide +kernel
theorem d2_73 : decode prog_13_method_1_code 73 = .ok (.iadd, 1) := by decide +kernel
theorem d2_74 : decode prog_13_method_1_code 74 = .ok (.goto 4, 3) := by decide +kernel
theorem d2_77 : decode prog_13_method_1_code 77 = .ok (.iconst 0, 1) := by decide +kernel
theorem d2_78 : decode prog_13_method_1_code 78 = .ok (.putfield 38, 3) := by decide +kernel
theorem d2_81 : decode prog_13_method_1_code 81 = .ok (.return_, 1) := by decide +kernel
theorem d3_0 : decode object_method_1_code 0 = .ok (.return_, 1) := by decide +kernel
theorem d4_0 : decode prog_17_method_1_code 0 = .ok (.aload_n 0, 1) := by decide +kernel
theorem d4_1 : decode prog_17_method_1_code 1 = .ok (.invokespecial 3, 3) := by decide +kernel
theorem d4_4 : decode prog_17_method_1_code 4 = .ok (.aload_n 0, 1) := by decide +kernel
theorem d4_5 : decode prog_17_method_1_code 5 = .ok (.iload_n 1, 1) := by decide +kernel
theorem d4_6 : decode prog_17_method_1_code 6 = .ok (.putfield 9, 3) := by decide +kernel
theorem d4_9 : decode prog_17_method_1_code 9 = .ok (.aload_n 0, 1) := by decide +kernel
theorem d4_10 : decode prog_17_method_1_code 10 = .ok (.iload_n 2, 1) := by decide +kernel
theorem d4_11 : decode prog_17_method_1_code 11 = .ok (.putfield 13, 3) := by decide +kernel
theorem d4_14 : decode prog_17_method_1_code 14 = .ok (.aload_n 0, 1) := by decide +kernel
theorem d4_15 : decode prog_17_method_1_code 15 = .ok (.iload_n 3, 1) := by decide +kernel
theorem d4_16 : decode prog_17_method_1_code 16 = .ok (.putfield 16, 3) := by decide +kernel
theorem d4_19 : decode prog_17_method_1_code 19 = .ok (.aload_n 0, 1) := by decide +kernel
theorem d4_20 : decode prog_17_method_1_code 20 = .ok (.iload_n 3, 1) := by decide +kernel
theorem d4_21 : decode prog_17_method_1_code 21 = .ok (.ifCond .eq 7, 3) := by decide +kernel
theorem d4_24 : decode prog_17_method_1_code 24 = .ok (.iconst 1, 1) := by decide +kernel
theorem d4_25 : decode prog_17_method_1_code 25 = .ok (.goto 6, 3) := by decide +kernel
theorem d4_28 : decode prog_17_method_1_code 28 = .ok (.iload_n 2, 1) := by decide +kernel
theorem d4_29 : decode prog_17_method_1_code 29 = .ok (.iconst 1, 1) := by decide +kernel
theorem d4_30 : decode prog_17_method_1_code 30 = .ok (.iadd, 1) := by decide +kernel
theorem d4_31 : decode prog_17_method_1_code 31 = .ok (.putfield 20, 3) := by decide +kernel
theorem d4_34 : decode prog_17_method_1_code 34 = .ok (.aload_n 0, 1) := by decide +kernel
theorem d4_35 : decode prog_17_method_1_code 35 = .ok (.iload_n 3, 1) := by decide +kernel
theorem d4_36 : decode prog_17_method_1_code 36 = .ok (.ifCond .eq 7, 3) := by decide +kernel
theorem d4_39 : decode prog_17_method_1_code 39 = .ok (.iconst 3, 1) := by decide +kernel
theorem d4_40 : decode prog_17_method_1_code 40 = .ok (.goto 4, 3) := by decide +kernel
theorem d4_43 : decode prog_17_method_1_code 43 = .ok (.iconst 2, 1) := by decide +kernel
theorem d4_44 : decode prog_17_method_1_code 44 = .ok (.putfield 23, 3) := by decide +kernel
theorem d4_47 : decode prog_17_method_1_code 47 = .ok (.aload_n 0, 1) := by decide +kernel
theorem d4_48 : decode prog_17_method_1_code 48 = .ok (.iconst 0, 1) := by decide +kernel
theorem d4_49 : decode prog_17_method_1_code 49 = .ok (.bipush 7, 2) := by decide +kernel
theorem d4_51 : decode prog_17_method_1_code 51 = .ok (.iload_n 2, 1) := by decide +kernel
theorem d4_52 : decode prog_17_method_1_code 52 = .ok (.iconst 1, 1) := by decide +kernel
theorem d4_53 : decode prog_17_method_1_code 53 = .ok (.isub, 1) := by decide +kernel
theorem d4_54 : decode prog_17_method_1_code 54 = .ok (.invokestatic 26, 3) := by decide +kernel
theorem d4_57 : decode prog_17_method_1_code 57 = .ok (.invokestatic 32, 3) := by decide +kernel
theorem d4_60 : decode prog_17_method_1_code 60 = .ok (.putfield 35, 3) := by decide +kernel
theorem d4_63 : decode prog_17_method_1_code 63 = .ok (.aload_n 0, 1) := by decide +kernel
theorem d4_64 : decode prog_17_method_1_code 64 = .ok (.sipush 1024, 3) := by decide +kernel
theorem d4_67 : decode prog_17_method_1_code 67 = .ok (.sipush 20480, 3) := by decide +kernel
theorem d4_70 : decode prog_17_method_1_code 70 = .ok (.bipush 8, 2) := by decide +kernel
theorem d4_72 : decode prog_17_method_1_code 72 = .ok (.aload_n 0, 1) := by decide +kernel
theorem d4_73 : decode prog_17_method_1_code 73 = .ok (.getfield 20, 3) := by decide +kernel
theorem d4_76 : decode prog_17_method_1_code 76 = .ok (.imul, 1) := by decide +kernel
theorem d4_77 : decode prog_17_method_1_code 77 = .ok (.iconst 4, 1) := by decide +kernel
theorem d4_78 : decode prog_17_method_1_code 78 = .ok (.aload_n 0, 1) := by decide +kernel
theorem d4_79 : decode prog_17_method_1_code 79 = .ok (.getfield 23, 3) := by decide +kernel
theorem d4_82 : decode prog_17_method_1_code 82 = .ok (.imul, 1) := by decide +kernel
theorem d4_83 : decode prog_17_method_1_code 83 = .ok (.iadd, 1) := by decide +kernel
theorem d4_84 : decode prog_17_method_1_code 84 = .ok (.idiv, 1) := by decide +kernel
theorem d4_85 : decode prog_17_method_1_code 85 = .ok (.invokestatic 26, 3) := by decide +kernel
theorem d4_88 : decode prog_17_method_1_code 88 = .ok (.putfield 42, 3) := by decide +kernel
theorem d4_91 : decode prog_17_method_1_code 91 = .ok (.return_, 1) := by decide +kernel
theorem d5_0 : decode jdk_29_method_69_code 0 = .ok (.iload_n 0, 1) := by decide +kernel
theorem d5_1 : decode jdk_29_method_69_code 1 = .ok (.iload_n 1, 1) := by decide +kernel
theorem d5_2 : decode jdk_29_method_69_code 2 = .ok (.if_icmp .gt 7, 3) := by decide +kernel
theorem d5_5 : decode jdk_29_method_69_code 5 = .ok (.iload_n 0, 1) := by decide +kernel
theorem d5_6 : decode jdk_29_method_69_code 6 = .ok (.goto 4, 3) := by decide +kernel
theorem d5_9 : decode jdk_29_method_69_code 9 = .ok (.iload_n 1, 1) := by decide +kernel
theorem d5_10 : decode jdk_29_method_69_code 10 = .ok (.ireturn, 1) := by decide +kernel
theorem d6_0 : decode jdk_29_method_65_code 0 = .ok (.iload_n 0, 1) := by decide +kernel
theorem d6_1 : decode jdk_29_method_65_code 1 = .ok (.iload_n 1, 1) := by decide +kernel
theorem d6_2 : decode jdk_29_method_65_code 2 = .ok (.if_icmp .lt 7, 3) := by decide +kernel
theorem d6_5 : decode jdk_29_method_65_code 5 = .ok (.iload_n 0, 1) := by decide +kernel
theorem d6_6 : decode jdk_29_method_65_code 6 = .ok (.goto 4, 3) := by decide +kernel
theorem d6_9 : decode jdk_29_method_65_code 9 = .ok (.iload_n 1, 1) := by decide +kernel
theorem d6_10 : decode jdk_29_method_65_code 10 = .ok (.ireturn, 1) := by decide +kernel
theorem d7_0 : decode prog_13_method_9_code 0 = .ok (.iconst 1, 1) := by decide +kernel
theorem d7_1 : decode prog_13_method_9_code 1 = .ok (.aload_n 0, 1) := by decide +kernel
theorem d7_2 : decode prog_13_method_9_code 2 = .ok (.getfield 9, 3) := by decide +kernel
theorem d7_5 : decode prog_13_method_9_code 5 = .ok (.ishl, 1) := by decide +kernel
theorem d7_6 : decode prog_13_method_9_code 6 = .ok (.istore_n 3, 1) := by decide +kernel
theorem d7_7 : decode prog_13_method_9_code 7 = .ok (.iload_n 2, 1) := by decide +kernel
theorem d7_8 : decode prog_13_method_9_code 8 = .ok (.istore 4, 2) := by decide +kernel
theorem d7_10 : decode prog_13_method_9_code 10 = .ok (.iload 4, 2) := by decide +kernel
theorem d7_12 : decode prog_13_method_9_code 12 = .ok (.iload_n 3, 1) := by decide +kernel
theorem d7_13 : decode prog_13_method_9_code 13 = .ok (.if_icmp .ge 53, 3) := by decide +kernel
theorem d7_16 : decode prog_13_method_9_code 16 = .ok (.aload_n 1, 1) := by decide +kernel
theorem d7_17 : decode prog_13_method_9_code 17 = .ok (.iconst 1, 1) := by decide +kernel
theorem d7_18 : decode prog_13_method_9_code 18 = .ok (.iload 4, 2) := by decide +kernel
theorem d7_20 : decode prog_13_method_9_code 20 = .ok (.iconst 1, 1) := by decide +kernel
theorem d7_21 : decode prog_13_method_9_code 21 = .ok (.iushr, 1) := by decide +kernel
theorem d7_22 : decode prog_13_method_9_code 22 = .ok (.iadd, 1) := by decide +kernel
theorem d7_23 : decode prog_13_method_9_code 23 = .ok (.laload, 1) := by decide +kernel
theorem d7_24 : decode prog_13_method_9_code 24 = .ok (.lstore 5, 2) := by decide +kernel
theorem d7_26 : decode prog_13_method_9_code 26 = .ok (.lload 5, 2) := by decide +kernel
theorem d7_28 : decode prog_13_method_9_code 28 = .ok (.lconst 0, 1) := by decide +kernel
theorem d7_29 : decode prog_13_method_9_code 29 = .ok (.lcmp, 1) := by decide +kernel
theorem d7_30 : decode prog_13_method_9_code 30 = .ok (.ifCond .ne 14, 3) := by decide +kernel
theorem d7_33 : decode prog_13_method_9_code 33 = .ok (.iload 4, 2) := by decide +kernel
theorem d7_35 : decode prog_13_method_9_code 35 = .ok (.iconst 1, 1) := by decide +kernel
theorem d7_36 : decode prog_13_method_9_code 36 = .ok (.ior, 1) := by decide +kernel
theorem d7_37 : decode prog_13_method_9_code 37 = .ok (.iconst 1, 1) := by decide +kernel
theorem d7_38 : decode prog_13_method_9_code 38 = .ok (.iadd, 1) := by decide +kernel
theorem d7_39 : decode prog_13_method_9_code 39 = .ok (.istore 4, 2) := by decide +kernel
theorem d7_41 : decode prog_13_method_9_code 41 = .ok (.goto 22, 3) := by decide +kernel
theorem d7_44 : decode prog_13_method_9_code 44 = .ok (.lload 5, 2) := by decide +kernel
theorem d7_46 : decode prog_13_method_9_code 46 = .ok (.iload 4, 2) := by decide +kernel
theorem d7_48 : decode prog_13_method_9_code 48 = .ok (.iconst 1, 1) := by decide +kernel
theorem d7_49 : decode prog_13_method_9_code 49 = .ok (.iand, 1) := by decide +kernel
theorem d7_50 : decode prog_13_method_9_code 50 = .ok (.iconst 5, 1) := by decide +kernel
theorem d7_51 : decode prog_13_method_9_code 51 = .ok (.ishl, 1) := by decide +kernel
theorem d7_52 : decode prog_13_method_9_code 52 = .ok (.lushr, 1) := by decide +kernel
theorem d7_53 : decode prog_13_method_9_code 53 = .ok (.l2i, 1) := by decide +kernel
theorem d7_54 : decode prog_13_method_9_code 54 = .ok (.ifCond .eq 6, 3) := by decide +kernel
theorem d7_57 : decode prog_13_method_9_code 57 = .ok (.iload 4, 2) := by decide +kernel
theorem d7_59 : decode prog_13_method_9_code 59 = .ok (.ireturn, 1) := by decide +kernel
theorem d7_60 : decode prog_13_method_9_code 60 = .ok (.iinc 4 1, 3) := by decide +kernel
theorem d7_63 : decode prog_13_method_9_code 63 = .ok (.goto (-53), 3) := by decide +kernel
theorem d7_66 : decode prog_13_method_9_code 66 = .ok (.iload_n 3, 1) := by decide +kernel
theorem d7_67 : decode prog_13_method_9_code 67 = .ok (.ireturn, 1) := by decide +kernel
theorem d8_0 : decode method_4_code 0 = .ok (.iload_n 1, 1) := by decide +kernel
theorem d8_1 : decode method_4_code 1 = .ok (.ifCond .gt 16, 3) := by decide +kernel
theorem d8_4 : decode method_4_code 4 = .ok (.iconst 0, 1) := by decide +kernel
theorem d8_5 : decode method_4_code 5 = .ok (.iload_n 2, 1) := by decide +kernel
theorem d8_6 : decode method_4_code 6 = .ok (.if_icmp .ge 11, 3) := by decide +kernel
theorem d8_9 : decode method_4_code 9 = .ok (.aload_n 0, 1) := by decide +kernel
theorem d8_10 : decode method_4_code 10 = .ok (.iconst 0, 1) := by decide +kernel
theorem d8_11 : decode method_4_code 11 = .ok (.baload, 1) := by decide +kernel
theorem d8_12 : decode method_4_code 12 = .ok (.ifCond .eq 5, 3) := by decide +kernel
theorem d8_15 : decode method_4_code 15 = .ok (.iconst 0, 1) := by decide +kernel
theorem d8_16 : decode method_4_code 16 = .ok (.ireturn, 1) := by decide +kernel
theorem d8_17 : decode method_4_code 17 = .ok (.iload_n 1, 1) := by decide +kernel
theorem d8_18 : decode method_4_code 18 = .ok (.iconst 1, 1) := by decide +kernel
theorem d8_19 : decode method_4_code 19 = .ok (.if_icmp .gt 16, 3) := by decide +kernel
theorem d8_22 : decode method_4_code 22 = .ok (.iconst 1, 1) := by decide +kernel
theorem d8_23 : decode method_4_code 23 = .ok (.iload_n 2, 1) := by decide +kernel
theorem d8_24 : decode method_4_code 24 = .ok (.if_icmp .ge 11, 3) := by decide +kernel
theorem d8_27 : decode method_4_code 27 = .ok (.aload_n 0, 1) := by decide +kernel
theorem d8_28 : decode method_4_code 28 = .ok (.iconst 1, 1) := by decide +kernel
theorem d8_29 : decode method_4_code 29 = .ok (.baload, 1) := by decide +kernel
theorem d8_30 : decode method_4_code 30 = .ok (.ifCond .eq 5, 3) := by decide +kernel
theorem d8_33 : decode method_4_code 33 = .ok (.iconst 1, 1) := by decide +kernel
theorem d8_34 : decode method_4_code 34 = .ok (.ireturn, 1) := by decide +kernel
theorem d8_35 : decode method_4_code 35 = .ok (.iload_n 1, 1) := by decide +kernel
theorem d8_36 : decode method_4_code 36 = .ok (.iconst 2, 1) := by decide +kernel
theorem d8_37 : decode method_4_code 37 = .ok (.if_icmp .gt 16, 3) := by decide +kernel
theorem d8_40 : decode method_4_code 40 = .ok (.iconst 2, 1) := by decide +kernel
theorem d8_41 : decode method_4_code 41 = .ok (.iload_n 2, 1) := by decide +kernel
theorem d8_42 : decode method_4_code 42 = .ok (.if_icmp .ge 11, 3) := by decide +kernel
theorem d8_45 : decode method_4_code 45 = .ok (.aload_n 0, 1) := by decide +kernel
theorem d8_46 : decode method_4_code 46 = .ok (.iconst 2, 1) := by decide +kernel
theorem d8_47 : decode method_4_code 47 = .ok (.baload, 1) := by decide +kernel
theorem d8_48 : decode method_4_code 48 = .ok (.ifCond .eq 5, 3) := by decide +kernel
theorem d8_51 : decode method_4_code 51 = .ok (.iconst 2, 1) := by decide +kernel
theorem d8_52 : decode method_4_code 52 = .ok (.ireturn, 1) := by decide +kernel
theorem d8_53 : decode method_4_code 53 = .ok (.iload_n 1, 1) := by decide +kernel
theorem d8_54 : decode method_4_code 54 = .ok (.iconst 3, 1) := by decide +kernel
theorem d8_55 : decode method_4_code 55 = .ok (.if_icmp .gt 16, 3) := by decide +kernel
theorem d8_58 : decode method_4_code 58 = .ok (.iconst 3, 1) := by decide +kernel
theorem d8_59 : decode method_4_code 59 = .ok (.iload_n 2, 1) := by decide +kernel
theorem d8_60 : decode method_4_code 60 = .ok (.if_icmp .ge 11, 3) := by decide +kernel
theorem d8_63 : decode method_4_code 63 = .ok (.aload_n 0, 1) := by decide +kernel
theorem d8_64 : decode method_4_code 64 = .ok (.iconst 3, 1) := by decide +kernel
theorem d8_65 : decode method_4_code 65 = .ok (.baload, 1) := by decide +kernel
theorem d8_66 : decode method_4_code 66 = .ok (.ifCond .eq 5, 3) := by decide +kernel
theorem d8_69 : decode method_4_code 69 = .ok (.iconst 3, 1) := by decide +kernel
theorem d8_70 : decode method_4_code 70 = .ok (.ireturn, 1) := by decide +kernel
theorem d8_71 : decode method_4_code 71 = .ok (.iload_n 1, 1) := by decide +kernel
theorem d8_72 : decode method_4_code 72 = .ok (.iconst 4, 1) := by decide +kernel
theorem d8_73 : decode method_4_code 73 = .ok (.if_icmp .gt 16, 3) := by decide +kernel
theorem d8_76 : decode method_4_code 76 = .ok (.iconst 4, 1) := by decide +kernel
theorem d8_77 : decode method_4_code 77 = .ok (.iload_n 2, 1) := by decide +kernel
theorem d8_78 : decode method_4_code 78 = .ok (.if_icmp .ge 11, 3) := by decide +kernel
theorem d8_81 : decode method_4_code 81 = .ok (.aload_n 0, 1) := by decide +kernel
theorem d8_82 : decode method_4_code 82 = .ok (.iconst 4, 1) := by decide +kernel
theorem d8_83 : decode method_4_code 83 = .ok (.baload, 1) := by decide +kernel
theorem d8_84 : decode method_4_code 84 = .ok (.ifCond .eq 5, 3) := by decide +kernel
theorem d8_87 : decode method_4_code 87 = .ok (.iconst 4, 1) := by decide +kernel
theorem d8_88 : decode method_4_code 88 = .ok (.ireturn, 1) := by decide +kernel
theorem d8_89 : decode method_4_code 89 = .ok (.iload_n 1, 1) := by decide +kernel
theorem d8_90 : decode method_4_code 90 = .ok (.iconst 5, 1) := by decide +kernel
theorem d8_91 : decode method_4_code 91 = .ok (.if_icmp .gt 16, 3) := by decide +kernel
theorem d8_94 : decode method_4_code 94 = .ok (.iconst 5, 1) := by decide +kernel
theorem d8_95 : decode method_4_code 95 = .ok (.iload_n 2, 1) := by decide +kernel
theorem d8_96 : decode method_4_code 96 = .ok (.if_icmp .ge 11, 3) := by decide +kernel
theorem d8_99 : decode method_4_code 99 = .ok (.aload_n 0, 1) := by decide +kernel
theorem d8_100 : decode method_4_code 100 = .ok (.iconst 5, 1) := by decide +kernel
theorem d8_101 : decode method_4_code 101 = .ok (.baload, 1) := by decide +kernel
theorem d8_102 : decode method_4_code 102 = .ok (.ifCond .eq 5, 3) := by decide +kernel
theorem d8_105 : decode method_4_code 105 = .ok (.iconst 5, 1) := by decide +kernel
theorem d8_106 : decode method_4_code 106 = .ok (.ireturn, 1) := by decide +kernel
theorem d8_107 : decode method_4_code 107 = .ok (.iload_n 1, 1) := by decide +kernel
theorem d8_108 : decode method_4_code 108 = .ok (.bipush 6, 2) := by decide +kernel
theorem d8_110 : decode method_4_code 110 = .ok (.if_icmp .gt 19, 3) := by decide +kernel
theorem d8_113 : decode method_4_code 113 = .ok (.bipush 6, 2) := by decide +kernel
theorem d8_115 : decode method_4_code 115 = .ok (.iload_n 2, 1) := by decide +kernel
theorem d8_116 : decode method_4_code 116 = .ok (.if_icmp .ge 13, 3) := by decide +kernel
theorem d8_119 : decode method_4_code 119 = .ok (.aload_n 0, 1) := by decide +kernel
theorem d8_120 : decode method_4_code 120 = .ok (.bipush 6, 2) := by decide +kernel
theorem d8_122 : decode method_4_code 122 = .ok (.baload, 1) := by decide +kernel
theorem d8_123 : decode method_4_code 123 = .ok (.ifCond .eq 6, 3) := by decide +kernel
theorem d8_126 : decode method_4_code 126 = .ok (.bipush 6, 2) := by decide +kernel
theorem d8_128 : decode method_4_code 128 = .ok (.ireturn, 1) := by decide +kernel
theorem d8_129 : decode method_4_code 129 = .ok (.iload_n 1, 1) := by decide +kernel
theorem d8_130 : decode method_4_code 130 = .ok (.bipush 7, 2) := by decide +kernel
theorem d8_132 : decode method_4_code 132 = .ok (.if_icmp .gt 19, 3) := by decide +kernel
theorem d8_135 : decode method_4_code 135 = .ok (.bipush 7, 2) := by decide +kernel
theorem d8_137 : decode method_4_code 137 = .ok (.iload_n 2, 1) := by decide +kernel
theorem d8_138 : decode method_4_code 138 = .ok (.if_icmp .ge 13, 3) := by decide +kernel
theorem d8_141 : decode method_4_code 141 = .ok (.aload_n 0, 1) := by decide +kernel
theorem d8_142 : decode method_4_code 142 = .ok (.bipush 7, 2) := by decide +kernel
theorem d8_144 : decode method_4_code 144 = .ok (.baload, 1) := by decide +kernel
theorem d8_145 : decode method_4_code 145 = .ok (.ifCond .eq 6, 3) := by decide +kernel
theorem d8_148 : decode method_4_code 148 = .ok (.bipush 7, 2) := by decide +kernel
theorem d8_150 : decode method_4_code 150 = .ok (.ireturn, 1) := by decide +kernel
theorem d8_151 : decode method_4_code 151 = .ok (.iload_n 2, 1) := by decide +kernel
theorem d8_152 : decode method_4_code 152 = .ok (.ireturn, 1) := by decide +kernel
theorem own_and63 (y : Int32) : (y.toInt64 &&& 63).toBitVec = BitVec.ofNat 64 (y.toBitVec.toNat % 64) := by
  apply BitVec.eq_of_getLsbD_eq
  intro i hi
  have h63 : (63 : Int64).toBitVec = BitVec.ofNat 64 (2 ^ 6 - 1) := by decide
  have hm : (y.toBitVec.toNat % 64) = y.toBitVec.toNat % 2 ^ 6 := rfl
  rw [Int64.toBitVec_and, Int32.toBitVec_toInt64, BitVec.getLsbD_and, BitVec.getLsbD_signExtend, h63, BitVec.getLsbD_ofNat, Nat.testBit_two_pow_sub_one, BitVec.getLsbD_ofNat, hm, Nat.testBit_mod_two_pow]
  by_cases h6 : i < 6
  · have h32 : i < 32 := by omega
    simp [hi, h6, h32, BitVec.getLsbD]
  · simp [h6]
theorem bv_lshl (x : Int64) (y : Int32) : (x <<< (y.toInt64 &&& 63)).toBitVec = x.toBitVec <<< (y.toBitVec.toNat % 64) := by
  show x.toBitVec <<< ((y.toInt64 &&& 63).toBitVec.smod 64) = _
  rw [BitVec.shiftLeft_eq', own_and63, smod64 _ (Nat.mod_lt _ (by decide))]
theorem bv_lshr (x : Int64) (y : Int32) : (x >>> (y.toInt64 &&& 63)).toBitVec = x.toBitVec.sshiftRight (y.toBitVec.toNat % 64) := by
  show x.toBitVec.sshiftRight' ((y.toInt64 &&& 63).toBitVec.smod 64) = _
  rw [BitVec.sshiftRight_eq', own_and63, smod64 _ (Nat.mod_lt _ (by decide))]
theorem bv_lushr (x : Int64) (y : Int32) : (XT.ushrL x y).toBitVec = x.toBitVec >>> (y.toBitVec.toNat % 64) := by
  show x.toBitVec >>> ((y.toInt64 &&& 63).toBitVec % 64) = _
  rw [BitVec.ushiftRight_eq', own_and63, BitVec.toNat_umod, BitVec.toNat_ofNat]
  congr 1
  show y.toBitVec.toNat % 64 % 2 ^ 64 % 64 = _
  omega
theorem bv_ishl (x y : Int32) : (x <<< (y &&& 31)).toBitVec = x.toBitVec <<< (y.toBitVec.toNat % 32) := by
  show x.toBitVec <<< ((y &&& 31).toBitVec.smod 32) = _
  rw [BitVec.shiftLeft_eq', sm32 y _ rfl]
theorem bv_ishr (x y : Int32) : (x >>> (y &&& 31)).toBitVec = x.toBitVec.sshiftRight (y.toBitVec.toNat % 32) := by
  show x.toBitVec.sshiftRight' ((y &&& 31).toBitVec.smod 32) = _
  rw [BitVec.sshiftRight_eq', sm32 y _ rfl]
theorem bv_iushr (x y : Int32) : (XT.ushr x y).toBitVec = x.toBitVec >>> (y.toBitVec.toNat % 32) := by
  show x.toBitVec >>> ((y &&& 31).toBitVec % 32) = _
  have h1 : (y &&& 31).toBitVec.toNat = y.toBitVec.toNat % 32 := by
    show (y.toBitVec &&& (31 : Int32).toBitVec).toNat = _
    rw [BitVec.toNat_and, show (31 : Int32).toBitVec.toNat = 2 ^ 5 - 1 from by decide, Nat.and_two_pow_sub_one_eq_mod]
  rw [BitVec.ushiftRight_eq', BitVec.toNat_umod, h1]
  congr 1
  show y.toBitVec.toNat % 32 % 32 = _
  omega
theorem u64 (x : Int64) : (x.toBitVec.toNat : Int) = x.toInt % 18446744073709551616 := by
  have h := x.toBitVec.isLt
  show _ = x.toBitVec.toInt % _
  rw [BitVec.toInt_eq_toNat_cond]; split <;> omega
theorem u32 (x : Int32) : (x.toBitVec.toNat : Int) = x.toInt % 4294967296 := by
  have h := x.toBitVec.isLt
  show _ = x.toBitVec.toInt % _
  rw [BitVec.toInt_eq_toNat_cond]; split <;> omega
theorem i64 (x : Int64) : x.toInt = if x.toBitVec.toNat < 9223372036854775808 then (x.toBitVec.toNat : Int) else (x.toBitVec.toNat : Int) - 18446744073709551616 := by
  have h := x.toBitVec.isLt
  show x.toBitVec.toInt = _
  rw [BitVec.toInt_eq_toNat_cond]; split <;> split <;> omega
/-- a logical shift by a known count, as a number -/
theorem n_lushr (x : Int64) (y : Int32) (k : Nat) (hk : y.toBitVec.toNat % 64 = k) : (XT.ushrL x y).toBitVec.toNat = x.toBitVec.toNat / 2 ^ k := by
  rw [bv_lushr, hk, BitVec.toNat_ushiftRight, Nat.shiftRight_eq_div_pow]
theorem n_iushr (x y : Int32) (k : Nat) (hk : y.toBitVec.toNat % 32 = k) : (XT.ushr x y).toBitVec.toNat = x.toBitVec.toNat / 2 ^ k := by
  rw [bv_iushr, hk, BitVec.toNat_ushiftRight, Nat.shiftRight_eq_div_pow]
theorem nn32 (y : Int32) (h : 0 ≤ y.toInt) : y.toBitVec.toNat = y.toInt.toNat := by
  have h1 := u32 y
  have := y.toInt_lt
  omega
theorem nn64 (y : Int64) (h : 0 ≤ y.toInt) : y.toBitVec.toNat = y.toInt.toNat := by
  have h1 := u64 y
  have := y.toInt_lt
  omega
theorem own_mask (y : Int32) (hy : 0 ≤ y.toInt ∧ y.toInt < 64) (K : Nat) (hK : K < 64) : (((1 : Int64) <<< (y.toInt64 &&& 63)) - 1).toBitVec.getLsbD K = decide (K < y.toInt.toNat) := by
  have hW : y.toBitVec.toNat % 64 = y.toInt.toNat := by rw [nn32 y hy.1]; omega
  rw [Int64.toBitVec_sub, bv_lshl, hW]
  have h2 : y.toInt.toNat < 64 := by omega
  generalize y.toInt.toNat = W at *
  have e : (1 : Int64).toBitVec <<< W - (1 : Int64).toBitVec = BitVec.ofNat 64 (2 ^ W - 1) := by
    apply BitVec.eq_of_toNat_eq
    have p1 : 2 ^ W < 2 ^ 64 := Nat.pow_lt_pow_right (by decide) h2
    have p2 : 0 < 2 ^ W := Nat.two_pow_pos W
    rw [BitVec.toNat_sub, BitVec.toNat_shiftLeft, Nat.shiftLeft_eq, BitVec.toNat_ofNat, show (1 : Int64).toBitVec.toNat = 1 from by decide, Nat.one_mul]
    generalize 2 ^ W = P at *
    omega
  rw [e, BitVec.getLsbD_ofNat, Nat.testBit_two_pow_sub_one]
  simp [hK]
theorem own_bit (x : Int64) (y : Int32) : (XT.ushrL x y &&& (1 : Int64)) = if x.toBitVec.getLsbD (y.toBitVec.toNat % 64) then 1 else 0 := by
  apply Int64.toBitVec_inj.mp
  apply BitVec.eq_of_getLsbD_eq
  intro i hi
  rw [Int64.toBitVec_and, bv_lushr, BitVec.getLsbD_and, BitVec.getLsbD_ushiftRight]
  generalize y.toBitVec.toNat % 64 = k
  have h1 : (1 : Int64).toBitVec.getLsbD i = decide (i = 0) := by
    show (1#64).getLsbD i = _
    rw [BitVec.getLsbD_one]; simp
  rw [h1]
  by_cases q : i = 0
  · subst q
    cases h : x.toBitVec.getLsbD k <;> simp [h]
  · cases h : x.toBitVec.getLsbD k
    · simp [q]
    · simp [q, h1]
def rd (xs : List Int64) (j : Int32) : Int64 := xs.getD j.toNatClampNeg 0
theorem rd_some {xs : List Int64} {j : Int32} (h : j.toNatClampNeg < xs.length) : xs[j.toNatClampNeg]? = some (rd xs j) := by
  simp [rd, List.getD, h]
def rdI (xs : List Int32) (j : Int32) : Int32 := xs.getD j.toNatClampNeg 0
theorem rdI_some {xs : List Int32} {j : Int32} (h : j.toNatClampNeg < xs.length) : xs[j.toNatClampNeg]? = some (rdI xs j) := by
  simp [rdI, List.getD, h]
/-- the loop of occupiedAddressFrom, at most so many turns -/
def occ (ds : List Int64) (en : Int32) : Nat → Int32 → Int32
  | 0, _ => en
  | d + 1, i => if i < en then (if (rd ds ((1 : Int32) + (XT.ushr i (1 : Int32)))) = (0 : Int64) then occ ds en d ((i ||| (1 : Int32)) + (1 : Int32)) else (if ((XT.ushrL (rd ds ((1 : Int32) + (XT.ushr i (1 : Int32)))) ((i &&& (1 : Int32)) <<< ((5 : Int32) &&& 31))).toInt32) = 0 then occ ds en d (i + (1 : Int32)) else i)) else en
def No (xs : List Int32) (fr nn : Int32) (m : Nat) : Prop := ∀ j : Nat, j < m → ¬ (fr.toInt ≤ j ∧ (j : Int) < nn.toInt ∧ ¬ rdI xs (Int32.ofNat j) = 0)
/-- what 'expected' answers -/
def Ex (xs : List Int32) (fr nn r : Int32) : Prop := (r = nn ∧ No xs fr nn 8) ∨ ∃ k : Nat, k < 8 ∧ r.toInt = k ∧ fr.toInt ≤ k ∧ (k : Int) < nn.toInt ∧ ¬ rdI xs (Int32.ofNat k) = 0 ∧ No xs fr nn k
theorem own_small (x : Int32) (n : Nat) (hn : n ≤ 256) (h : 0 ≤ x.toInt ∧ x.toInt < n) : ∃ k : Fin n, x = Int32.ofNat k.val := by
  refine ⟨⟨x.toInt.toNat, by omega⟩, ?_⟩
  apply Int32.toInt_inj.mp
  show _ = (Int32.ofNat x.toInt.toNat).toInt
  rw [Int32.toInt_ofNat_of_lt (by omega)]
  omega
theorem own_nz1 {kl : Int32} (h : 0 ≤ kl.toInt ∧ kl.toInt ≤ 3) : ((8 : Int32) * (kl + (1 : Int32))) + ((4 : Int32) * (2 : Int32)) ≠ 0 := by
  obtain ⟨k, rfl⟩ := own_small kl 4 (by decide) (by omega)
  have : ∀ k : Fin 4, ((8 : Int32) * (Int32.ofNat k.val + (1 : Int32))) + ((4 : Int32) * (2 : Int32)) ≠ 0 := by decide +kernel
  exact this k
theorem own_nz2 {kl : Int32} (h : 0 ≤ kl.toInt ∧ kl.toInt ≤ 3) : ((8 : Int32) * (kl + (1 : Int32))) + ((4 : Int32) * (3 : Int32)) ≠ 0 := by
  obtain ⟨k, rfl⟩ := own_small kl 4 (by decide) (by omega)
  have : ∀ k : Fin 4, ((8 : Int32) * (Int32.ofNat k.val + (1 : Int32))) + ((4 : Int32) * (3 : Int32)) ≠ 0 := by decide +kernel
  exact this k
theorem own_ix (i en : Int32) (hi : 0 ≤ i.toInt) (he : 0 ≤ en.toInt ∧ en.toInt ≤ 8) (h : i < en) : ¬ ((1 : Int32) + (XT.ushr i (1 : Int32))) < 0 ∧ ((1 : Int32) + (XT.ushr i (1 : Int32))).toNatClampNeg < 5 := by
  rw [Int32.lt_iff_toInt_lt] at h
  obtain ⟨k, rfl⟩ := own_small i 8 (by decide) (by omega)
  have : ∀ k : Fin 8, ¬ ((1 : Int32) + (XT.ushr (Int32.ofNat k.val) (1 : Int32))) < 0 ∧ ((1 : Int32) + (XT.ushr (Int32.ofNat k.val) (1 : Int32))).toNatClampNeg < 5 := by decide +kernel
  exact this k
theorem own_nx (i en : Int32) (hi : 0 ≤ i.toInt) (he : 0 ≤ en.toInt ∧ en.toInt ≤ 8) (h : i < en) : (i.toInt < ((i ||| (1 : Int32)) + (1 : Int32)).toInt ∧ ((i ||| (1 : Int32)) + (1 : Int32)).toInt ≤ 10) ∧ ((i + (1 : Int32)).toInt = i.toInt + 1 ∧ i.toInt < 8) := by
  rw [Int32.lt_iff_toInt_lt] at h
  obtain ⟨k, rfl⟩ := own_small i 8 (by decide) (by omega)
  have : ∀ k : Fin 8, ((Int32.ofNat k.val).toInt < ((Int32.ofNat k.val ||| (1 : Int32)) + (1 : Int32)).toInt ∧ ((Int32.ofNat k.val ||| (1 : Int32)) + (1 : Int32)).toInt ≤ 10) ∧ ((Int32.ofNat k.val + (1 : Int32)).toInt = (Int32.ofNat k.val).toInt + 1 ∧ (Int32.ofNat k.val).toInt < 8) := by decide +kernel
  exact this k
theorem own_ofN (k : Nat) (hk : k < 8) : (Int32.ofNat k).toInt = k := Int32.toInt_ofNat_of_lt (by omega)
theorem own_no1 {xs : List Int32} {fr nn : Int32} {k : Nat} (H : No xs fr nn k) (c : Int32.ofNat k < fr) (hk : k < 8 := by decide) : No xs fr nn (k + 1) := by
  intro j hj
  rw [Int32.lt_iff_toInt_lt, own_ofN k hk] at c
  by_cases e : j = k
  · subst e; omega
  · exact H j (by omega)
theorem own_no2 {xs : List Int32} {fr nn : Int32} {k : Nat} (H : No xs fr nn k) (c : ¬ Int32.ofNat k < nn) (hk : k < 8 := by decide) : No xs fr nn (k + 1) := by
  intro j hj
  rw [Int32.lt_iff_toInt_lt, own_ofN k hk] at c
  by_cases e : j = k
  · subst e; omega
  · exact H j (by omega)
theorem own_no3 {xs : List Int32} {fr nn : Int32} {k : Nat} (H : No xs fr nn k) (c : rdI xs (Int32.ofNat k) = 0) (hk : k < 8 := by decide) : No xs fr nn (k + 1) := by
  intro j hj
  by_cases e : j = k
  · subst e; intro h; exact h.2.2 c
  · exact H j (by omega)
theorem own_y1 {fr : Int32} {k : Nat} (c : ¬ Int32.ofNat k < fr) (hk : k < 8 := by decide) : fr.toInt ≤ k := by
  rw [Int32.lt_iff_toInt_lt, own_ofN k hk] at c; omega
theorem own_y2 {nn : Int32} {k : Nat} (c : Int32.ofNat k < nn) (hk : k < 8 := by decide) : (k : Int) < nn.toInt := by
  rw [Int32.lt_iff_toInt_lt, own_ofN k hk] at c; omega
theorem own_d {p v : Int32} (h : (1 : Int32) + ((p &&& (255 : Int32)) % (3 : Int32)) = v) : 1 ≤ v.toInt ∧ v.toInt ≤ 3 := by
  have hm := c_mask p 255 8 (by decide) (by decide)
  have hw := (c_irem (p &&& 255) 3 3 (by decide)).1 (by omega)
  generalize (p &&& 255) % 3 = u at *
  have h1 := c_iadd 1 u
  have r1 := rng32 (1 + u)
  rw [show (1 : Int32).toInt = 1 from by decide, h] at h1
  rw [h] at r1
  omega
theorem own_e {p v : Int32} (h : (1 : Int32) + ((p &&& (255 : Int32)) % (3 : Int32)) = v) : 0 ≤ ((1 : Int32) <<< (v &&& 31)).toInt ∧ ((1 : Int32) <<< (v &&& 31)).toInt ≤ 8 := by
  have hd := own_d h
  obtain ⟨k, rfl⟩ := own_small v 4 (by decide) (by omega)
  have : ∀ k : Fin 4, 0 ≤ ((1 : Int32) <<< (Int32.ofNat k.val &&& 31)).toInt ∧ ((1 : Int32) <<< (Int32.ofNat k.val &&& 31)).toInt ≤ 8 := by decide +kernel
  exact this k
theorem own_nv {v n : Int32} (h : n = (if v = (1 : Int32) then (2 : Int32) else (if v = (2 : Int32) then (4 : Int32) else (8 : Int32)))) : n.toInt = 2 ∨ n.toInt = 4 ∨ n.toInt = 8 := by
  subst h
  split
  · left; decide
  · split
    · right; left; decide
    · right; right; decide
theorem own_n1 {v n : Int32} (h : n = (if v = (1 : Int32) then (2 : Int32) else (if v = (2 : Int32) then (4 : Int32) else (8 : Int32)))) : n + (1 : Int32) ≠ 0 := by
  subst h
  split
  · decide
  · split <;> decide
theorem own_f {p v n f : Int32} (h : n = (if v = (1 : Int32) then (2 : Int32) else (if v = (2 : Int32) then (4 : Int32) else (8 : Int32)))) (hf : (((XT.ushr p (8 : Int32)) &&& (8388607 : Int32)) % (n + (1 : Int32))) = f) : 0 ≤ f.toInt ∧ f.toInt ≤ 8 := by
  have hm := c_mask (XT.ushr p 8) 8388607 23 (by decide) (by decide)
  have hn : n = 2 ∨ n = 4 ∨ n = 8 := by
    subst h; split
    · left; rfl
    · split
      · right; left; rfl
      · right; right; rfl
  rcases hn with e | e | e
  · subst e
    have hw := (c_irem (XT.ushr p 8 &&& 8388607) ((2 : Int32) + 1) 3 (by decide)).1 (by omega)
    rw [hf] at hw; omega
  · subst e
    have hw := (c_irem (XT.ushr p 8 &&& 8388607) ((4 : Int32) + 1) 5 (by decide)).1 (by omega)
    rw [hf] at hw; omega
  · subst e
    have hw := (c_irem (XT.ushr p 8 &&& 8388607) ((8 : Int32) + 1) 9 (by decide)).1 (by omega)
    rw [hf] at hw; omega
def f_keep (x : Int64) (zz : Int32) (ix : Int32) : Int64 := (x &&& (if ((XT.ushr zz (((2 : Int32) * ix) + (1 : Int32))) &&& (1 : Int32)) = 0 then (if ((XT.ushr zz ((2 : Int32) * ix)) &&& (1 : Int32)) = 0 then (-1 : Int64) else ((-1 : Int64) &&& (-4294967296 : Int64))) else ((if ((XT.ushr zz ((2 : Int32) * ix)) &&& (1 : Int32)) = 0 then (-1 : Int64) else ((-1 : Int64) &&& (-4294967296 : Int64))) &&& (4294967295 : Int64))))
set_option maxRecDepth 65536 in
set_option maxHeartbeats 40000000 in
theorem rm_keep (l : Launch) (Z : State) (a0 : Array Value) (hw : ∀ d ∈ tables_1, d.before a0 Z = true) (x : Int64) (zz : Int32) (ix : Int32) (h0 : Heap) (n0 : Nat) (Z0 : n0 ≤ h0.size)   :
    Meets l (⟨"com/example/zedcube/zedcube/engine/NodesOccupiedAddressFromPinLaw", "keep", "(JII)J"⟩ : MethodName) method_3_code 6 (some .long) ({ frames := 0, cells := 0, slots := 0, locals := 0 } : Room) Z #[(.long x), (.int zz), (.int ix)] h0 n0 (fun v h => v = some (Value.long (f_keep x zz ix)) ∧ h = h0) := by
  refine meets_of (plainFor_of_name pn0) (Ls := #[.val (.long x), .second, .val (.int zz), .val (.int ix), .unset, .unset]) (fun m => by first | (simp [entryFrame, mkF, argsToLocals, Value.category]; done) | rfl) ?_
  intro p e s m below meth c K
  replace K : Kx Z "com/example/zedcube/zedcube/engine/NodesOccupiedAddressFromPinLaw" "keep" method_3_code 6 (some .long) p s m meth c := K
  obtain ⟨Q, hQ⟩ : ∃ Q : Option Value → Heap → Prop, Q = (fun v h => v = some (Value.long (f_keep x zz ix)) ∧ h = h0) := ⟨_, rfl⟩
  rw [← hQ]
  refine g_ldc2_w K 0 (v := (-1 : Int64)) d1_0 (tw hw 6 rfl) ?_
  refine g_lstore K 3 #[.val (.long x), .second, .val (.int zz), .val (.int ix), .val (.long (-1 : Int64)), .second] d1_3 rfl ?_
  refine g_iloadN K 5 d1_5 rfl ?_
  refine g_iconst K 6 (2 : Int32) d1_6 (by decide) ?_
  refine g_iloadN K 7 d1_7 rfl ?_
  refine g_imul K 8 d1_8 ?_
  refine g_iushr K 9 d1_9 ?_
  refine g_iconst K 10 (1 : Int32) d1_10 (by decide) ?_
  refine g_iand K 11 d1_11 ?_
  have J2 : ∀ (z1 : Int64), z1 = (if ((XT.ushr zz ((2 : Int32) * ix)) &&& (1 : Int32)) = 0 then (-1 : Int64) else ((-1 : Int64) &&& (-4294967296 : Int64))) → Go p l e ({ frames := 0, cells := 0, slots := 0, locals := 0 } : Room) s m #[(.long x), (.int zz), (.int ix)] below meth c n0 Q h0 0 0 (mkF m 23 #[.val (.long x), .second, .val (.int zz), .val (.int ix), .val (.long z1), .second] []) := by
    intro z1 hz1
    subst hz1
    refine g_iloadN K 23 d1_23 rfl ?_
    refine g_iconst K 24 (2 : Int32) d1_24 (by decide) ?_
    refine g_iloadN K 25 d1_25 rfl ?_
    refine g_imul K 26 d1_26 ?_
    refine g_iconst K 27 (1 : Int32) d1_27 (by decide) ?_
    refine g_iadd K 28 d1_28 ?_
    refine g_iushr K 29 d1_29 ?_
    refine g_iconst K 30 (1 : Int32) d1_30 (by decide) ?_
    refine g_iand K 31 d1_31 ?_
    have J4 : ∀ (z3 : Int64), z3 = (if ((XT.ushr zz (((2 : Int32) * ix) + (1 : Int32))) &&& (1 : Int32)) = 0 then (if ((XT.ushr zz ((2 : Int32) * ix)) &&& (1 : Int32)) = 0 then (-1 : Int64) else ((-1 : Int64) &&& (-4294967296 : Int64))) else ((if ((XT.ushr zz ((2 : Int32) * ix)) &&& (1 : Int32)) = 0 then (-1 : Int64) else ((-1 : Int64) &&& (-4294967296 : Int64))) &&& (4294967295 : Int64))) → Go p l e ({ frames := 0, cells := 0, slots := 0, locals := 0 } : Room) s m #[(.long x), (.int zz), (.int ix)] below meth c n0 Q h0 0 0 (mkF m 43 #[.val (.long x), .second, .val (.int zz), .val (.int ix), .val (.long z3), .second] []) := by
      intro z3 hz3
      subst hz3
      refine g_lloadN K 43 d1_43 rfl ?_
      refine g_lload K 44 d1_44 rfl ?_
      refine g_land K 46 d1_46 ?_
      refine g_lreturn K 47 d1_47 rfl (by decide) (by decide) ?_
      rw [hQ]
      refine ⟨?_, rfl⟩
      show some (Value.long _) = some (Value.long (f_keep x zz ix))
      unfold f_keep
      rfl
    refine g_if_eq K 32 43 d1_32 (by decide) (by decide) ?_ ?_
    · intro c5
      exact J4 _ (by rw [if_pos c5])
    · intro c5
      refine g_lload K 35 d1_35 rfl ?_
      refine g_ldc2_w K 37 (v := (4294967295 : Int64)) d1_37 (tw hw 8 rfl) ?_
      refine g_land K 40 d1_40 ?_
      refine g_lstore K 41 #[.val (.long x), .second, .val (.int zz), .val (.int ix), .val (.long ((if ((XT.ushr zz ((2 : Int32) * ix)) &&& (1 : Int32)) = 0 then (-1 : Int64) else ((-1 : Int64) &&& (-4294967296 : Int64))) &&& (4294967295 : Int64))), .second] d1_41 rfl ?_
      exact J4 _ (by rw [if_neg c5])
  refine g_if_eq K 12 23 d1_12 (by decide) (by decide) ?_ ?_
  · intro c6
    exact J2 _ (by rw [if_pos c6])
  · intro c6
    refine g_lload K 15 d1_15 rfl ?_
    refine g_ldc2_w K 17 (v := (-4294967296 : Int64)) d1_17 (tw hw 7 rfl) ?_
    refine g_land K 20 d1_20 ?_
    refine g_lstore K 21 #[.val (.long x), .second, .val (.int zz), .val (.int ix), .val (.long ((-1 : Int64) &&& (-4294967296 : Int64))), .second] d1_21 rfl ?_
    exact J2 _ (by rw [if_neg c6])
def f_min (x : Int32) (y : Int32) : Int32 := if y < x then y else x
set_option maxRecDepth 65536 in
set_option maxHeartbeats 40000000 in
theorem rm_min (l : Launch) (Z : State) (a0 : Array Value) (hw : ∀ d ∈ tables_1, d.before a0 Z = true) (x : Int32) (y : Int32) (h0 : Heap) (n0 : Nat) (Z0 : n0 ≤ h0.size)   :
    Meets l (⟨"java/lang/Math", "min", "(II)I"⟩ : MethodName) jdk_29_method_69_code 2 (some .int) ({ frames := 0, cells := 0, slots := 0, locals := 0 } : Room) Z #[(.int x), (.int y)] h0 n0 (fun v h => v = some (Value.int (f_min x y)) ∧ h = h0) := by
  refine meets_of (by decide +kernel) (Ls := #[.val (.int x), .val (.int y)]) (fun m => by first | (simp [entryFrame, mkF, argsToLocals, Value.category]; done) | rfl) ?_
  intro p e s m below meth c K
  replace K : Kx Z "java/lang/Math" "min" jdk_29_method_69_code 2 (some .int) p s m meth c := K
  obtain ⟨Q, hQ⟩ : ∃ Q : Option Value → Heap → Prop, Q = (fun v h => v = some (Value.int (f_min x y)) ∧ h = h0) := ⟨_, rfl⟩
  rw [← hQ]
  refine g_iloadN K 0 d5_0 rfl ?_
  refine g_iloadN K 1 d5_1 rfl ?_
  refine g_ii_gt K 2 9 d5_2 (by decide) (by decide) ?_ ?_
  · intro c1
    refine g_iloadN K 9 d5_9 rfl ?_
    refine g_ireturn K 10 d5_10 rfl (by decide) (by decide) ?_
    rw [hQ]
    refine ⟨?_, rfl⟩
    show some (Value.int _) = some (Value.int (f_min x y))
    unfold f_min
    first | (rw [if_pos c1]; done) | (rw [if_pos c1]; rfl)
  · intro c1
    refine g_iloadN K 5 d5_5 rfl ?_
    refine g_goto K 6 10 d5_6 (by decide) (by decide) ?_
    refine g_ireturn K 10 d5_10 rfl (by decide) (by decide) ?_
    rw [hQ]
    refine ⟨?_, rfl⟩
    show some (Value.int _) = some (Value.int (f_min x y))
    unfold f_min
    first | (rw [if_neg c1]; done) | (rw [if_neg c1]; rfl)
def f_max (x : Int32) (y : Int32) : Int32 := if x < y then y else x
set_option maxRecDepth 65536 in
set_option maxHeartbeats 40000000 in
theorem rm_max (l : Launch) (Z : State) (a0 : Array Value) (hw : ∀ d ∈ tables_1, d.before a0 Z = true) (x : Int32) (y : Int32) (h0 : Heap) (n0 : Nat) (Z0 : n0 ≤ h0.size)   :
    Meets l (⟨"java/lang/Math", "max", "(II)I"⟩ : MethodName) jdk_29_method_65_code 2 (some .int) ({ frames := 0, cells := 0, slots := 0, locals := 0 } : Room) Z #[(.int x), (.int y)] h0 n0 (fun v h => v = some (Value.int (f_max x y)) ∧ h = h0) := by
  refine meets_of (by decide +kernel) (Ls := #[.val (.int x), .val (.int y)]) (fun m => by first | (simp [entryFrame, mkF, argsToLocals, Value.category]; done) | rfl) ?_
  intro p e s m below meth c K
  replace K : Kx Z "java/lang/Math" "max" jdk_29_method_65_code 2 (some .int) p s m meth c := K
  obtain ⟨Q, hQ⟩ : ∃ Q : Option Value → Heap → Prop, Q = (fun v h => v = some (Value.int (f_max x y)) ∧ h = h0) := ⟨_, rfl⟩
  rw [← hQ]
  refine g_iloadN K 0 d6_0 rfl ?_
  refine g_iloadN K 1 d6_1 rfl ?_
  refine g_ii_lt K 2 9 d6_2 (by decide) (by decide) ?_ ?_
  · intro c1
    refine g_iloadN K 9 d6_9 rfl ?_
    refine g_ireturn K 10 d6_10 rfl (by decide) (by decide) ?_
    rw [hQ]
    refine ⟨?_, rfl⟩
    show some (Value.int _) = some (Value.int (f_max x y))
    unfold f_max
    first | (rw [if_pos c1]; done) | (rw [if_pos c1]; rfl)
  · intro c1
    refine g_iloadN K 5 d6_5 rfl ?_
    refine g_goto K 6 10 d6_6 (by decide) (by decide) ?_
    refine g_ireturn K 10 d6_10 rfl (by decide) (by decide) ?_
    rw [hQ]
    refine ⟨?_, rfl⟩
    show some (Value.int _) = some (Value.int (f_max x y))
    unfold f_max
    first | (rw [if_neg c1]; done) | (rw [if_neg c1]; rfl)
set_option maxRecDepth 65536 in
set_option maxHeartbeats 40000000 in
theorem rm_slot (l : Launch) (Z : State) (a0 : Array Value) (hw : ∀ d ∈ tables_1, d.before a0 Z = true) (o : Addr) (bs : Int32) (kl : Int32) (ka : Int32) (h0 : Heap) (n0 : Nat) (Z0 : n0 ≤ h0.size)  (E_o : Exa Z h0 o "com/example/zedcube/zedcube/engine/SlotList") (g_o : n0 ≤ o) (F_o_base : Fld Z h0 o "com/example/zedcube/zedcube/engine/SlotList" "base" "I" (.int (0 : Int32))) (F_o_keyLength : Fld Z h0 o "com/example/zedcube/zedcube/engine/SlotList" "keyLength" "I" (.int (0 : Int32))) (F_o_keysApart : Fld Z h0 o "com/example/zedcube/zedcube/engine/SlotList" "keysApart" "Z" (.int (0 : Int32))) (F_o_stride : Fld Z h0 o "com/example/zedcube/zedcube/engine/SlotList" "stride" "I" (.int (0 : Int32))) (F_o_refsPerSlot : Fld Z h0 o "com/example/zedcube/zedcube/engine/SlotList" "refsPerSlot" "I" (.int (0 : Int32))) (F_o_secondRead : Fld Z h0 o "com/example/zedcube/zedcube/engine/SlotList" "secondRead" "I" (.int (0 : Int32))) (F_o_maxSlots : Fld Z h0 o "com/example/zedcube/zedcube/engine/SlotList" "maxSlots" "I" (.int (0 : Int32))) (hkl : 0 ≤ kl.toInt ∧ kl.toInt ≤ 3) (hka : ka = 0 ∨ ka = 1) :
    Meets l (⟨"com/example/zedcube/zedcube/engine/SlotList", "<init>", "(IIZ)V"⟩ : MethodName) prog_17_method_1_code 4 none ({ frames := 1, cells := 0, slots := 0, locals := 17 } : Room) Z #[(.ref o), (.int bs), (.int kl), (.int ka)] h0 n0 (fun v h => v = none ∧ Keep h0 h [o] ∧ Exa Z h o "com/example/zedcube/zedcube/engine/SlotList") := by
  refine meets_of (plainFor_of_name pn2) (Ls := #[.val (.ref o), .val (.int bs), .val (.int kl), .val (.int ka)]) (fun m => by first | (simp [entryFrame, mkF, argsToLocals, Value.category]; done) | rfl) ?_
  intro p e s m below meth c K
  replace K : Kx Z "com/example/zedcube/zedcube/engine/SlotList" "<init>" prog_17_method_1_code 4 none p s m meth c := K
  obtain ⟨Q, hQ⟩ : ∃ Q : Option Value → Heap → Prop, Q = (fun v h => v = none ∧ Keep h0 h [o] ∧ Exa Z h o "com/example/zedcube/zedcube/engine/SlotList") := ⟨_, rfl⟩
  rw [← hQ]
  have KC0 := Keep.refl h0 [o]
  refine g_aloadN K 0 d4_0 rfl rfl ?_
  refine g_initO K 1 d4_1 (tw hw 29 rfl) (tw hw 17 rfl) (tw hw 18 rfl) rfl (by decide) 0 (Nat.le_of_eq rfl) (by decide) ?_
  refine g_aloadN K 4 d4_4 rfl rfl ?_
  refine g_iloadN K 5 d4_5 rfl ?_
  refine g_putfield K 6 .int d4_6 (tw hw 30 rfl) F_o_base E_o (Or.inr ⟨(tw hw 31 rfl), rfl, rfl⟩) (tw hw 24 rfl) (by decide) (rfl) (rfl) g_o ?_
  intro h1 W2 Kp3
  have F4 := F_o_base.same W2
  have F5 := F_o_keyLength.other W2 (Or.inr (slot_ne (C := "com/example/zedcube/zedcube/engine/SlotList") (Or.inr (tw hw 33 rfl)) (Or.inr (tw hw 31 rfl)) (by decide) (t := .int) (t' := .int) (by decide) (by decide)))
  have F6 := F_o_keysApart.other W2 (Or.inr (slot_ne (C := "com/example/zedcube/zedcube/engine/SlotList") (Or.inr (tw hw 35 rfl)) (Or.inr (tw hw 31 rfl)) (by decide) (t := .boolean) (t' := .int) (by decide) (by decide)))
  have F7 := F_o_stride.other W2 (Or.inr (slot_ne (C := "com/example/zedcube/zedcube/engine/SlotList") (Or.inr (tw hw 37 rfl)) (Or.inr (tw hw 31 rfl)) (by decide) (t := .int) (t' := .int) (by decide) (by decide)))
  have F8 := F_o_refsPerSlot.other W2 (Or.inr (slot_ne (C := "com/example/zedcube/zedcube/engine/SlotList") (Or.inr (tw hw 39 rfl)) (Or.inr (tw hw 31 rfl)) (by decide) (t := .int) (t' := .int) (by decide) (by decide)))
  have F9 := F_o_secondRead.other W2 (Or.inr (slot_ne (C := "com/example/zedcube/zedcube/engine/SlotList") (Or.inr (tw hw 48 rfl)) (Or.inr (tw hw 31 rfl)) (by decide) (t := .int) (t' := .int) (by decide) (by decide)))
  have F10 := F_o_maxSlots.other W2 (Or.inr (slot_ne (C := "com/example/zedcube/zedcube/engine/SlotList") (Or.inr (tw hw 50 rfl)) (Or.inr (tw hw 31 rfl)) (by decide) (t := .int) (t' := .int) (by decide) (by decide)))
  have E11 := E_o.keep Kp3
  have KC12 := KC0.trans Kp3 (allS (Or.inl (by simp)) all0)
  have Z13 := Nat.le_trans Z0 Kp3.1
  refine g_aloadN K 9 d4_9 rfl rfl ?_
  refine g_iloadN K 10 d4_10 rfl ?_
  refine g_putfield K 11 .int d4_11 (tw hw 32 rfl) F5 E11 (Or.inr ⟨(tw hw 33 rfl), rfl, rfl⟩) (tw hw 24 rfl) (by decide) (rfl) (rfl) g_o ?_
  intro h14 W15 Kp16
  have F17 := F5.same W15
  have F18 := F6.other W15 (Or.inr (slot_ne (C := "com/example/zedcube/zedcube/engine/SlotList") (Or.inr (tw hw 35 rfl)) (Or.inr (tw hw 33 rfl)) (by decide) (t := .boolean) (t' := .int) (by decide) (by decide)))
  have F19 := F7.other W15 (Or.inr (slot_ne (C := "com/example/zedcube/zedcube/engine/SlotList") (Or.inr (tw hw 37 rfl)) (Or.inr (tw hw 33 rfl)) (by decide) (t := .int) (t' := .int) (by decide) (by decide)))
  have F20 := F8.other W15 (Or.inr (slot_ne (C := "com/example/zedcube/zedcube/engine/SlotList") (Or.inr (tw hw 39 rfl)) (Or.inr (tw hw 33 rfl)) (by decide) (t := .int) (t' := .int) (by decide) (by decide)))
  have F21 := F9.other W15 (Or.inr (slot_ne (C := "com/example/zedcube/zedcube/engine/SlotList") (Or.inr (tw hw 48 rfl)) (Or.inr (tw hw 33 rfl)) (by decide) (t := .int) (t' := .int) (by decide) (by decide)))
  have F22 := F10.other W15 (Or.inr (slot_ne (C := "com/example/zedcube/zedcube/engine/SlotList") (Or.inr (tw hw 50 rfl)) (Or.inr (tw hw 33 rfl)) (by decide) (t := .int) (t' := .int) (by decide) (by decide)))
  have F23 := F4.other W15 (Or.inr (slot_ne (C := "com/example/zedcube/zedcube/engine/SlotList") (Or.inr (tw hw 31 rfl)) (Or.inr (tw hw 33 rfl)) (by decide) (t := .int) (t' := .int) (by decide) (by decide)))
  have E24 := E11.keep Kp16
  have KC25 := KC12.trans Kp16 (allS (Or.inl (by simp)) all0)
  have Z26 := Nat.le_trans Z13 Kp16.1
  refine g_aloadN K 14 d4_14 rfl rfl ?_
  refine g_iloadN K 15 d4_15 rfl ?_
  refine g_putfield K 16 .boolean d4_16 (tw hw 34 rfl) F18 E24 (Or.inr ⟨(tw hw 35 rfl), rfl, rfl⟩) (tw hw 24 rfl) (by decide) (by rcases hka with h | h <;> rw [h] <;> rfl) (by rcases hka with h | h <;> rw [h] <;> rfl) g_o ?_
  intro h27 W28 Kp29
  have F30 := F18.same W28
  have F31 := F19.other W28 (Or.inr (slot_ne (C := "com/example/zedcube/zedcube/engine/SlotList") (Or.inr (tw hw 37 rfl)) (Or.inr (tw hw 35 rfl)) (by decide) (t := .int) (t' := .boolean) (by decide) (by decide)))
  have F32 := F20.other W28 (Or.inr (slot_ne (C := "com/example/zedcube/zedcube/engine/SlotList") (Or.inr (tw hw 39 rfl)) (Or.inr (tw hw 35 rfl)) (by decide) (t := .int) (t' := .boolean) (by decide) (by decide)))
  have F33 := F21.other W28 (Or.inr (slot_ne (C := "com/example/zedcube/zedcube/engine/SlotList") (Or.inr (tw hw 48 rfl)) (Or.inr (tw hw 35 rfl)) (by decide) (t := .int) (t' := .boolean) (by decide) (by decide)))
  have F34 := F22.other W28 (Or.inr (slot_ne (C := "com/example/zedcube/zedcube/engine/SlotList") (Or.inr (tw hw 50 rfl)) (Or.inr (tw hw 35 rfl)) (by decide) (t := .int) (t' := .boolean) (by decide) (by decide)))
  have F35 := F23.other W28 (Or.inr (slot_ne (C := "com/example/zedcube/zedcube/engine/SlotList") (Or.inr (tw hw 31 rfl)) (Or.inr (tw hw 35 rfl)) (by decide) (t := .int) (t' := .boolean) (by decide) (by decide)))
  have F36 := F17.other W28 (Or.inr (slot_ne (C := "com/example/zedcube/zedcube/engine/SlotList") (Or.inr (tw hw 33 rfl)) (Or.inr (tw hw 35 rfl)) (by decide) (t := .int) (t' := .boolean) (by decide) (by decide)))
  have E37 := E24.keep Kp29
  have KC38 := KC25.trans Kp29 (allS (Or.inl (by simp)) all0)
  have Z39 := Nat.le_trans Z26 Kp29.1
  refine g_aloadN K 19 d4_19 rfl rfl ?_
  refine g_iloadN K 20 d4_20 rfl ?_
  refine g_if_eq K 21 28 d4_21 (by decide) (by decide) ?_ ?_
  · intro c40
    refine g_iloadN K 28 d4_28 rfl ?_
    refine g_iconst K 29 (1 : Int32) d4_29 (by decide) ?_
    refine g_iadd K 30 d4_30 ?_
    refine g_putfield K 31 .int d4_31 (tw hw 36 rfl) F31 E37 (Or.inr ⟨(tw hw 37 rfl), rfl, rfl⟩) (tw hw 24 rfl) (by decide) (rfl) (rfl) g_o ?_
    intro h41 W42 Kp43
    have F44 := F31.same W42
    have F45 := F32.other W42 (Or.inr (slot_ne (C := "com/example/zedcube/zedcube/engine/SlotList") (Or.inr (tw hw 39 rfl)) (Or.inr (tw hw 37 rfl)) (by decide) (t := .int) (t' := .int) (by decide) (by decide)))
    have F46 := F33.other W42 (Or.inr (slot_ne (C := "com/example/zedcube/zedcube/engine/SlotList") (Or.inr (tw hw 48 rfl)) (Or.inr (tw hw 37 rfl)) (by decide) (t := .int) (t' := .int) (by decide) (by decide)))
    have F47 := F34.other W42 (Or.inr (slot_ne (C := "com/example/zedcube/zedcube/engine/SlotList") (Or.inr (tw hw 50 rfl)) (Or.inr (tw hw 37 rfl)) (by decide) (t := .int) (t' := .int) (by decide) (by decide)))
    have F48 := F35.other W42 (Or.inr (slot_ne (C := "com/example/zedcube/zedcube/engine/SlotList") (Or.inr (tw hw 31 rfl)) (Or.inr (tw hw 37 rfl)) (by decide) (t := .int) (t' := .int) (by decide) (by decide)))
    have F49 := F36.other W42 (Or.inr (slot_ne (C := "com/example/zedcube/zedcube/engine/SlotList") (Or.inr (tw hw 33 rfl)) (Or.inr (tw hw 37 rfl)) (by decide) (t := .int) (t' := .int) (by decide) (by decide)))
    have F50 := F30.other W42 (Or.inr (slot_ne (C := "com/example/zedcube/zedcube/engine/SlotList") (Or.inr (tw hw 35 rfl)) (Or.inr (tw hw 37 rfl)) (by decide) (t := .boolean) (t' := .int) (by decide) (by decide)))
    have E51 := E37.keep Kp43
    have KC52 := KC38.trans Kp43 (allS (Or.inl (by simp)) all0)
    have Z53 := Nat.le_trans Z39 Kp43.1
    refine g_aloadN K 34 d4_34 rfl rfl ?_
    refine g_iloadN K 35 d4_35 rfl ?_
    refine g_if_eq K 36 43 d4_36 (by decide) (by decide) ?_ ?_
    · intro c54
      refine g_iconst K 43 (2 : Int32) d4_43 (by decide) ?_
      refine g_putfield K 44 .int d4_44 (tw hw 38 rfl) F45 E51 (Or.inr ⟨(tw hw 39 rfl), rfl, rfl⟩) (tw hw 24 rfl) (by decide) (rfl) (rfl) g_o ?_
      intro h55 W56 Kp57
      have F58 := F45.same W56
      have F59 := F46.other W56 (Or.inr (slot_ne (C := "com/example/zedcube/zedcube/engine/SlotList") (Or.inr (tw hw 48 rfl)) (Or.inr (tw hw 39 rfl)) (by decide) (t := .int) (t' := .int) (by decide) (by decide)))
      have F60 := F47.other W56 (Or.inr (slot_ne (C := "com/example/zedcube/zedcube/engine/SlotList") (Or.inr (tw hw 50 rfl)) (Or.inr (tw hw 39 rfl)) (by decide) (t := .int) (t' := .int) (by decide) (by decide)))
      have F61 := F48.other W56 (Or.inr (slot_ne (C := "com/example/zedcube/zedcube/engine/SlotList") (Or.inr (tw hw 31 rfl)) (Or.inr (tw hw 39 rfl)) (by decide) (t := .int) (t' := .int) (by decide) (by decide)))
      have F62 := F49.other W56 (Or.inr (slot_ne (C := "com/example/zedcube/zedcube/engine/SlotList") (Or.inr (tw hw 33 rfl)) (Or.inr (tw hw 39 rfl)) (by decide) (t := .int) (t' := .int) (by decide) (by decide)))
      have F63 := F50.other W56 (Or.inr (slot_ne (C := "com/example/zedcube/zedcube/engine/SlotList") (Or.inr (tw hw 35 rfl)) (Or.inr (tw hw 39 rfl)) (by decide) (t := .boolean) (t' := .int) (by decide) (by decide)))
      have F64 := F44.other W56 (Or.inr (slot_ne (C := "com/example/zedcube/zedcube/engine/SlotList") (Or.inr (tw hw 37 rfl)) (Or.inr (tw hw 39 rfl)) (by decide) (t := .int) (t' := .int) (by decide) (by decide)))
      have E65 := E51.keep Kp57
      have KC66 := KC52.trans Kp57 (allS (Or.inl (by simp)) all0)
      have Z67 := Nat.le_trans Z53 Kp57.1
      refine g_aloadN K 47 d4_47 rfl rfl ?_
      refine g_iconst K 48 (0 : Int32) d4_48 (by decide) ?_
      refine g_bipush K 49 (7 : Int32) d4_49 (by decide) ?_
      refine g_iloadN K 51 d4_51 rfl ?_
      refine g_iconst K 52 (1 : Int32) d4_52 (by decide) ?_
      refine g_isub K 53 d4_53 ?_
      refine g_callS K 54 [(.int (7 : Int32)), (.int (kl - (1 : Int32)))] 2 d4_54 (rm_min l Z a0 hw (7 : Int32) (kl - (1 : Int32)) h55 n0 Z67  ) (tw hw 40 rfl) (tw hw 41 rfl) (tw hw 42 rfl) (tw hw 43 rfl) (by decide) pd4 rfl (st := [(.int (0 : Int32)), (.ref o)]) rfl (Nat.le_of_eq rfl) rfl (by decide) (by decide) (by decide) (by decide) ?_
      rintro _ _ ⟨hv, hh⟩
      rw [hv, hh]
      clear hv hh
      refine go_cast (k' := 0) (n' := 0) (st' := [(.int (f_min (7 : Int32) (kl - (1 : Int32)))), (.int (0 : Int32)), (.ref o)]) rfl rfl rfl ?_
      refine g_callS K 57 [(.int (0 : Int32)), (.int (f_min (7 : Int32) (kl - (1 : Int32))))] 1 d4_57 (rm_max l Z a0 hw (0 : Int32) (f_min (7 : Int32) (kl - (1 : Int32))) h55 n0 Z67  ) (tw hw 44 rfl) (tw hw 45 rfl) (tw hw 42 rfl) (tw hw 46 rfl) (by decide) pd4 rfl (st := [(.ref o)]) rfl (Nat.le_of_eq rfl) rfl (by decide) (by decide) (by decide) (by decide) ?_
      rintro _ _ ⟨hv, hh⟩
      rw [hv, hh]
      clear hv hh
      refine go_cast (k' := 0) (n' := 0) (st' := [(.int (f_max (0 : Int32) (f_min (7 : Int32) (kl - (1 : Int32))))), (.ref o)]) rfl rfl rfl ?_
      refine g_putfield K 60 .int d4_60 (tw hw 47 rfl) F59 E65 (Or.inr ⟨(tw hw 48 rfl), rfl, rfl⟩) (tw hw 24 rfl) (by decide) (rfl) (rfl) g_o ?_
      intro h68 W69 Kp70
      have F71 := F59.same W69
      have F72 := F60.other W69 (Or.inr (slot_ne (C := "com/example/zedcube/zedcube/engine/SlotList") (Or.inr (tw hw 50 rfl)) (Or.inr (tw hw 48 rfl)) (by decide) (t := .int) (t' := .int) (by decide) (by decide)))
      have F73 := F61.other W69 (Or.inr (slot_ne (C := "com/example/zedcube/zedcube/engine/SlotList") (Or.inr (tw hw 31 rfl)) (Or.inr (tw hw 48 rfl)) (by decide) (t := .int) (t' := .int) (by decide) (by decide)))
      have F74 := F62.other W69 (Or.inr (slot_ne (C := "com/example/zedcube/zedcube/engine/SlotList") (Or.inr (tw hw 33 rfl)) (Or.inr (tw hw 48 rfl)) (by decide) (t := .int) (t' := .int) (by decide) (by decide)))
      have F75 := F63.other W69 (Or.inr (slot_ne (C := "com/example/zedcube/zedcube/engine/SlotList") (Or.inr (tw hw 35 rfl)) (Or.inr (tw hw 48 rfl)) (by decide) (t := .boolean) (t' := .int) (by decide) (by decide)))
      have F76 := F64.other W69 (Or.inr (slot_ne (C := "com/example/zedcube/zedcube/engine/SlotList") (Or.inr (tw hw 37 rfl)) (Or.inr (tw hw 48 rfl)) (by decide) (t := .int) (t' := .int) (by decide) (by decide)))
      have F77 := F58.other W69 (Or.inr (slot_ne (C := "com/example/zedcube/zedcube/engine/SlotList") (Or.inr (tw hw 39 rfl)) (Or.inr (tw hw 48 rfl)) (by decide) (t := .int) (t' := .int) (by decide) (by decide)))
      have E78 := E65.keep Kp70
      have KC79 := KC66.trans Kp70 (allS (Or.inl (by simp)) all0)
      have Z80 := Nat.le_trans Z67 Kp70.1
      refine g_aloadN K 63 d4_63 rfl rfl ?_
      refine g_sipush K 64 (1024 : Int32) d4_64 (by decide) ?_
      refine g_sipush K 67 (20480 : Int32) d4_67 (by decide) ?_
      refine g_bipush K 70 (8 : Int32) d4_70 (by decide) ?_
      refine g_aloadN K 72 d4_72 rfl rfl ?_
      refine g_getfield K 73 d4_73 (tw hw 36 rfl) F76 ?_
      refine g_imul K 76 d4_76 ?_
      refine g_iconst K 77 (4 : Int32) d4_77 (by decide) ?_
      refine g_aloadN K 78 d4_78 rfl rfl ?_
      refine g_getfield K 79 d4_79 (tw hw 38 rfl) F77 ?_
      refine g_imul K 82 d4_82 ?_
      refine g_iadd K 83 d4_83 ?_
      refine g_idiv K 84 d4_84 (own_nz1 hkl) ?_
      refine g_callS K 85 [(.int (1024 : Int32)), (.int ((20480 : Int32) / (((8 : Int32) * (kl + (1 : Int32))) + ((4 : Int32) * (2 : Int32)))))] 1 d4_85 (rm_min l Z a0 hw (1024 : Int32) ((20480 : Int32) / (((8 : Int32) * (kl + (1 : Int32))) + ((4 : Int32) * (2 : Int32)))) h68 n0 Z80  ) (tw hw 40 rfl) (tw hw 41 rfl) (tw hw 42 rfl) (tw hw 43 rfl) (by decide) pd4 rfl (st := [(.ref o)]) rfl (Nat.le_of_eq rfl) rfl (by decide) (by decide) (by decide) (by decide) ?_
      rintro _ _ ⟨hv, hh⟩
      rw [hv, hh]
      clear hv hh
      refine go_cast (k' := 0) (n' := 0) (st' := [(.int (f_min (1024 : Int32) ((20480 : Int32) / (((8 : Int32) * (kl + (1 : Int32))) + ((4 : Int32) * (2 : Int32)))))), (.ref o)]) rfl rfl rfl ?_
      refine g_putfield K 88 .int d4_88 (tw hw 49 rfl) F72 E78 (Or.inr ⟨(tw hw 50 rfl), rfl, rfl⟩) (tw hw 24 rfl) (by decide) (rfl) (rfl) g_o ?_
      intro h81 W82 Kp83
      have F84 := F72.same W82
      have F85 := F73.other W82 (Or.inr (slot_ne (C := "com/example/zedcube/zedcube/engine/SlotList") (Or.inr (tw hw 31 rfl)) (Or.inr (tw hw 50 rfl)) (by decide) (t := .int) (t' := .int) (by decide) (by decide)))
      have F86 := F74.other W82 (Or.inr (slot_ne (C := "com/example/zedcube/zedcube/engine/SlotList") (Or.inr (tw hw 33 rfl)) (Or.inr (tw hw 50 rfl)) (by decide) (t := .int) (t' := .int) (by decide) (by decide)))
      have F87 := F75.other W82 (Or.inr (slot_ne (C := "com/example/zedcube/zedcube/engine/SlotList") (Or.inr (tw hw 35 rfl)) (Or.inr (tw hw 50 rfl)) (by decide) (t := .boolean) (t' := .int) (by decide) (by decide)))
      have F88 := F76.other W82 (Or.inr (slot_ne (C := "com/example/zedcube/zedcube/engine/SlotList") (Or.inr (tw hw 37 rfl)) (Or.inr (tw hw 50 rfl)) (by decide) (t := .int) (t' := .int) (by decide) (by decide)))
      have F89 := F77.other W82 (Or.inr (slot_ne (C := "com/example/zedcube/zedcube/engine/SlotList") (Or.inr (tw hw 39 rfl)) (Or.inr (tw hw 50 rfl)) (by decide) (t := .int) (t' := .int) (by decide) (by decide)))
      have F90 := F71.other W82 (Or.inr (slot_ne (C := "com/example/zedcube/zedcube/engine/SlotList") (Or.inr (tw hw 48 rfl)) (Or.inr (tw hw 50 rfl)) (by decide) (t := .int) (t' := .int) (by decide) (by decide)))
      have E91 := E78.keep Kp83
      have KC92 := KC79.trans Kp83 (allS (Or.inl (by simp)) all0)
      have Z93 := Nat.le_trans Z80 Kp83.1
      refine g_return K 91 d4_91 rfl (by decide) (by decide) ?_
      rw [hQ]
      exact ⟨rfl, KC92, E91⟩
    · intro c54
      refine g_iconst K 39 (3 : Int32) d4_39 (by decide) ?_
      refine g_goto K 40 44 d4_40 (by decide) (by decide) ?_
      refine g_putfield K 44 .int d4_44 (tw hw 38 rfl) F45 E51 (Or.inr ⟨(tw hw 39 rfl), rfl, rfl⟩) (tw hw 24 rfl) (by decide) (rfl) (rfl) g_o ?_
      intro h94 W95 Kp96
      have F97 := F45.same W95
      have F98 := F46.other W95 (Or.inr (slot_ne (C := "com/example/zedcube/zedcube/engine/SlotList") (Or.inr (tw hw 48 rfl)) (Or.inr (tw hw 39 rfl)) (by decide) (t := .int) (t' := .int) (by decide) (by decide)))
      have F99 := F47.other W95 (Or.inr (slot_ne (C := "com/example/zedcube/zedcube/engine/SlotList") (Or.inr (tw hw 50 rfl)) (Or.inr (tw hw 39 rfl)) (by decide) (t := .int) (t' := .int) (by decide) (by decide)))
      have F100 := F48.other W95 (Or.inr (slot_ne (C := "com/example/zedcube/zedcube/engine/SlotList") (Or.inr (tw hw 31 rfl)) (Or.inr (tw hw 39 rfl)) (by decide) (t := .int) (t' := .int) (by decide) (by decide)))
      have F101 := F49.other W95 (Or.inr (slot_ne (C := "com/example/zedcube/zedcube/engine/SlotList") (Or.inr (tw hw 33 rfl)) (Or.inr (tw hw 39 rfl)) (by decide) (t := .int) (t' := .int) (by decide) (by decide)))
      have F102 := F50.other W95 (Or.inr (slot_ne (C := "com/example/zedcube/zedcube/engine/SlotList") (Or.inr (tw hw 35 rfl)) (Or.inr (tw hw 39 rfl)) (by decide) (t := .boolean) (t' := .int) (by decide) (by decide)))
      have F103 := F44.other W95 (Or.inr (slot_ne (C := "com/example/zedcube/zedcube/engine/SlotList") (Or.inr (tw hw 37 rfl)) (Or.inr (tw hw 39 rfl)) (by decide) (t := .int) (t' := .int) (by decide) (by decide)))
      have E104 := E51.keep Kp96
      have KC105 := KC52.trans Kp96 (allS (Or.inl (by simp)) all0)
      have Z106 := Nat.le_trans Z53 Kp96.1
      refine g_aloadN K 47 d4_47 rfl rfl ?_
      refine g_iconst K 48 (0 : Int32) d4_48 (by decide) ?_
      refine g_bipush K 49 (7 : Int32) d4_49 (by decide) ?_
      refine g_iloadN K 51 d4_51 rfl ?_
      refine g_iconst K 52 (1 : Int32) d4_52 (by decide) ?_
      refine g_isub K 53 d4_53 ?_
      refine g_callS K 54 [(.int (7 : Int32)), (.int (kl - (1 : Int32)))] 2 d4_54 (rm_min l Z a0 hw (7 : Int32) (kl - (1 : Int32)) h94 n0 Z106  ) (tw hw 40 rfl) (tw hw 41 rfl) (tw hw 42 rfl) (tw hw 43 rfl) (by decide) pd4 rfl (st := [(.int (0 : Int32)), (.ref o)]) rfl (Nat.le_of_eq rfl) rfl (by decide) (by decide) (by decide) (by decide) ?_
      rintro _ _ ⟨hv, hh⟩
      rw [hv, hh]
      clear hv hh
      refine go_cast (k' := 0) (n' := 0) (st' := [(.int (f_min (7 : Int32) (kl - (1 : Int32)))), (.int (0 : Int32)), (.ref o)]) rfl rfl rfl ?_
      refine g_callS K 57 [(.int (0 : Int32)), (.int (f_min (7 : Int32) (kl - (1 : Int32))))] 1 d4_57 (rm_max l Z a0 hw (0 : Int32) (f_min (7 : Int32) (kl - (1 : Int32))) h94 n0 Z106  ) (tw hw 44 rfl) (tw hw 45 rfl) (tw hw 42 rfl) (tw hw 46 rfl) (by decide) pd4 rfl (st := [(.ref o)]) rfl (Nat.le_of_eq rfl) rfl (by decide) (by decide) (by decide) (by decide) ?_
      rintro _ _ ⟨hv, hh⟩
      rw [hv, hh]
      clear hv hh
      refine go_cast (k' := 0) (n' := 0) (st' := [(.int (f_max (0 : Int32) (f_min (7 : Int32) (kl - (1 : Int32))))), (.ref o)]) rfl rfl rfl ?_
      refine g_putfield K 60 .int d4_60 (tw hw 47 rfl) F98 E104 (Or.inr ⟨(tw hw 48 rfl), rfl, rfl⟩) (tw hw 24 rfl) (by decide) (rfl) (rfl) g_o ?_
      intro h107 W108 Kp109
      have F110 := F98.same W108
      have F111 := F99.other W108 (Or.inr (slot_ne (C := "com/example/zedcube/zedcube/engine/SlotList") (Or.inr (tw hw 50 rfl)) (Or.inr (tw hw 48 rfl)) (by decide) (t := .int) (t' := .int) (by decide) (by decide)))
      have F112 := F100.other W108 (Or.inr (slot_ne (C := "com/example/zedcube/zedcube/engine/SlotList") (Or.inr (tw hw 31 rfl)) (Or.inr (tw hw 48 rfl)) (by decide) (t := .int) (t' := .int) (by decide) (by decide)))
      have F113 := F101.other W108 (Or.inr (slot_ne (C := "com/example/zedcube/zedcube/engine/SlotList") (Or.inr (tw hw 33 rfl)) (Or.inr (tw hw 48 rfl)) (by decide) (t := .int) (t' := .int) (by decide) (by decide)))
      have F114 := F102.other W108 (Or.inr (slot_ne (C := "com/example/zedcube/zedcube/engine/SlotList") (Or.inr (tw hw 35 rfl)) (Or.inr (tw hw 48 rfl)) (by decide) (t := .boolean) (t' := .int) (by decide) (by decide)))
      have F115 := F103.other W108 (Or.inr (slot_ne (C := "com/example/zedcube/zedcube/engine/SlotList") (Or.inr (tw hw 37 rfl)) (Or.inr (tw hw 48 rfl)) (by decide) (t := .int) (t' := .int) (by decide) (by decide)))
      have F116 := F97.other W108 (Or.inr (slot_ne (C := "com/example/zedcube/zedcube/engine/SlotList") (Or.inr (tw hw 39 rfl)) (Or.inr (tw hw 48 rfl)) (by decide) (t := .int) (t' := .int) (by decide) (by decide)))
      have E117 := E104.keep Kp109
      have KC118 := KC105.trans Kp109 (allS (Or.inl (by simp)) all0)
      have Z119 := Nat.le_trans Z106 Kp109.1
      refine g_aloadN K 63 d4_63 rfl rfl ?_
      refine g_sipush K 64 (1024 : Int32) d4_64 (by decide) ?_
      refine g_sipush K 67 (20480 : Int32) d4_67 (by decide) ?_
      refine g_bipush K 70 (8 : Int32) d4_70 (by decide) ?_
      refine g_aloadN K 72 d4_72 rfl rfl ?_
      refine g_getfield K 73 d4_73 (tw hw 36 rfl) F115 ?_
      refine g_imul K 76 d4_76 ?_
      refine g_iconst K 77 (4 : Int32) d4_77 (by decide) ?_
      refine g_aloadN K 78 d4_78 rfl rfl ?_
      refine g_getfield K 79 d4_79 (tw hw 38 rfl) F116 ?_
      refine g_imul K 82 d4_82 ?_
      refine g_iadd K 83 d4_83 ?_
      refine g_idiv K 84 d4_84 (own_nz2 hkl) ?_
      refine g_callS K 85 [(.int (1024 : Int32)), (.int ((20480 : Int32) / (((8 : Int32) * (kl + (1 : Int32))) + ((4 : Int32) * (3 : Int32)))))] 1 d4_85 (rm_min l Z a0 hw (1024 : Int32) ((20480 : Int32) / (((8 : Int32) * (kl + (1 : Int32))) + ((4 : Int32) * (3 : Int32)))) h107 n0 Z119  ) (tw hw 40 rfl) (tw hw 41 rfl) (tw hw 42 rfl) (tw hw 43 rfl) (by decide) pd4 rfl (st := [(.ref o)]) rfl (Nat.le_of_eq rfl) rfl (by decide) (by decide) (by decide) (by decide) ?_
      rintro _ _ ⟨hv, hh⟩
      rw [hv, hh]
      clear hv hh
      refine go_cast (k' := 0) (n' := 0) (st' := [(.int (f_min (1024 : Int32) ((20480 : Int32) / (((8 : Int32) * (kl + (1 : Int32))) + ((4 : Int32) * (3 : Int32)))))), (.ref o)]) rfl rfl rfl ?_
      refine g_putfield K 88 .int d4_88 (tw hw 49 rfl) F111 E117 (Or.inr ⟨(tw hw 50 rfl), rfl, rfl⟩) (tw hw 24 rfl) (by decide) (rfl) (rfl) g_o ?_
      intro h120 W121 Kp122
      have F123 := F111.same W121
      have F124 := F112.other W121 (Or.inr (slot_ne (C := "com/example/zedcube/zedcube/engine/SlotList") (Or.inr (tw hw 31 rfl)) (Or.inr (tw hw 50 rfl)) (by decide) (t := .int) (t' := .int) (by decide) (by decide)))
      have F125 := F113.other W121 (Or.inr (slot_ne (C := "com/example/zedcube/zedcube/engine/SlotList") (Or.inr (tw hw 33 rfl)) (Or.inr (tw hw 50 rfl)) (by decide) (t := .int) (t' := .int) (by decide) (by decide)))
      have F126 := F114.other W121 (Or.inr (slot_ne (C := "com/example/zedcube/zedcube/engine/SlotList") (Or.inr (tw hw 35 rfl)) (Or.inr (tw hw 50 rfl)) (by decide) (t := .boolean) (t' := .int) (by decide) (by decide)))
      have F127 := F115.other W121 (Or.inr (slot_ne (C := "com/example/zedcube/zedcube/engine/SlotList") (Or.inr (tw hw 37 rfl)) (Or.inr (tw hw 50 rfl)) (by decide) (t := .int) (t' := .int) (by decide) (by decide)))
      have F128 := F116.other W121 (Or.inr (slot_ne (C := "com/example/zedcube/zedcube/engine/SlotList") (Or.inr (tw hw 39 rfl)) (Or.inr (tw hw 50 rfl)) (by decide) (t := .int) (t' := .int) (by decide) (by decide)))
      have F129 := F110.other W121 (Or.inr (slot_ne (C := "com/example/zedcube/zedcube/engine/SlotList") (Or.inr (tw hw 48 rfl)) (Or.inr (tw hw 50 rfl)) (by decide) (t := .int) (t' := .int) (by decide) (by decide)))
      have E130 := E117.keep Kp122
      have KC131 := KC118.trans Kp122 (allS (Or.inl (by simp)) all0)
      have Z132 := Nat.le_trans Z119 Kp122.1
      refine g_return K 91 d4_91 rfl (by decide) (by decide) ?_
      rw [hQ]
      exact ⟨rfl, KC131, E130⟩
  · intro c40
    refine g_iconst K 24 (1 : Int32) d4_24 (by decide) ?_
    refine g_goto K 25 31 d4_25 (by decide) (by decide) ?_
    refine g_putfield K 31 .int d4_31 (tw hw 36 rfl) F31 E37 (Or.inr ⟨(tw hw 37 rfl), rfl, rfl⟩) (tw hw 24 rfl) (by decide) (rfl) (rfl) g_o ?_
    intro h133 W134 Kp135
    have F136 := F31.same W134
    have F137 := F32.other W134 (Or.inr (slot_ne (C := "com/example/zedcube/zedcube/engine/SlotList") (Or.inr (tw hw 39 rfl)) (Or.inr (tw hw 37 rfl)) (by decide) (t := .int) (t' := .int) (by decide) (by decide)))
    have F138 := F33.other W134 (Or.inr (slot_ne (C := "com/example/zedcube/zedcube/engine/SlotList") (Or.inr (tw hw 48 rfl)) (Or.inr (tw hw 37 rfl)) (by decide) (t := .int) (t' := .int) (by decide) (by decide)))
    have F139 := F34.other W134 (Or.inr (slot_ne (C := "com/example/zedcube/zedcube/engine/SlotList") (Or.inr (tw hw 50 rfl)) (Or.inr (tw hw 37 rfl)) (by decide) (t := .int) (t' := .int) (by decide) (by decide)))
    have F140 := F35.other W134 (Or.inr (slot_ne (C := "com/example/zedcube/zedcube/engine/SlotList") (Or.inr (tw hw 31 rfl)) (Or.inr (tw hw 37 rfl)) (by decide) (t := .int) (t' := .int) (by decide) (by decide)))
    have F141 := F36.other W134 (Or.inr (slot_ne (C := "com/example/zedcube/zedcube/engine/SlotList") (Or.inr (tw hw 33 rfl)) (Or.inr (tw hw 37 rfl)) (by decide) (t := .int) (t' := .int) (by decide) (by decide)))
    have F142 := F30.other W134 (Or.inr (slot_ne (C := "com/example/zedcube/zedcube/engine/SlotList") (Or.inr (tw hw 35 rfl)) (Or.inr (tw hw 37 rfl)) (by decide) (t := .boolean) (t' := .int) (by decide) (by decide)))
    have E143 := E37.keep Kp135
    have KC144 := KC38.trans Kp135 (allS (Or.inl (by simp)) all0)
    have Z145 := Nat.le_trans Z39 Kp135.1
    refine g_aloadN K 34 d4_34 rfl rfl ?_
    refine g_iloadN K 35 d4_35 rfl ?_
    refine g_if_eq K 36 43 d4_36 (by decide) (by decide) ?_ ?_
    · intro c146
      refine g_iconst K 43 (2 : Int32) d4_43 (by decide) ?_
      refine g_putfield K 44 .int d4_44 (tw hw 38 rfl) F137 E143 (Or.inr ⟨(tw hw 39 rfl), rfl, rfl⟩) (tw hw 24 rfl) (by decide) (rfl) (rfl) g_o ?_
      intro h147 W148 Kp149
      have F150 := F137.same W148
      have F151 := F138.other W148 (Or.inr (slot_ne (C := "com/example/zedcube/zedcube/engine/SlotList") (Or.inr (tw hw 48 rfl)) (Or.inr (tw hw 39 rfl)) (by decide) (t := .int) (t' := .int) (by decide) (by decide)))
      have F152 := F139.other W148 (Or.inr (slot_ne (C := "com/example/zedcube/zedcube/engine/SlotList") (Or.inr (tw hw 50 rfl)) (Or.inr (tw hw 39 rfl)) (by decide) (t := .int) (t' := .int) (by decide) (by decide)))
      have F153 := F140.other W148 (Or.inr (slot_ne (C := "com/example/zedcube/zedcube/engine/SlotList") (Or.inr (tw hw 31 rfl)) (Or.inr (tw hw 39 rfl)) (by decide) (t := .int) (t' := .int) (by decide) (by decide)))
      have F154 := F141.other W148 (Or.inr (slot_ne (C := "com/example/zedcube/zedcube/engine/SlotList") (Or.inr (tw hw 33 rfl)) (Or.inr (tw hw 39 rfl)) (by decide) (t := .int) (t' := .int) (by decide) (by decide)))
      have F155 := F142.other W148 (Or.inr (slot_ne (C := "com/example/zedcube/zedcube/engine/SlotList") (Or.inr (tw hw 35 rfl)) (Or.inr (tw hw 39 rfl)) (by decide) (t := .boolean) (t' := .int) (by decide) (by decide)))
      have F156 := F136.other W148 (Or.inr (slot_ne (C := "com/example/zedcube/zedcube/engine/SlotList") (Or.inr (tw hw 37 rfl)) (Or.inr (tw hw 39 rfl)) (by decide) (t := .int) (t' := .int) (by decide) (by decide)))
      have E157 := E143.keep Kp149
      have KC158 := KC144.trans Kp149 (allS (Or.inl (by simp)) all0)
      have Z159 := Nat.le_trans Z145 Kp149.1
      refine g_aloadN K 47 d4_47 rfl rfl ?_
      refine g_iconst K 48 (0 : Int32) d4_48 (by decide) ?_
      refine g_bipush K 49 (7 : Int32) d4_49 (by decide) ?_
      refine g_iloadN K 51 d4_51 rfl ?_
      refine g_iconst K 52 (1 : Int32) d4_52 (by decide) ?_
      refine g_isub K 53 d4_53 ?_
      refine g_callS K 54 [(.int (7 : Int32)), (.int (kl - (1 : Int32)))] 2 d4_54 (rm_min l Z a0 hw (7 : Int32) (kl - (1 : Int32)) h147 n0 Z159  ) (tw hw 40 rfl) (tw hw 41 rfl) (tw hw 42 rfl) (tw hw 43 rfl) (by decide) pd4 rfl (st := [(.int (0 : Int32)), (.ref o)]) rfl (Nat.le_of_eq rfl) rfl (by decide) (by decide) (by decide) (by decide) ?_
      rintro _ _ ⟨hv, hh⟩
      rw [hv, hh]
      clear hv hh
      refine go_cast (k' := 0) (n' := 0) (st' := [(.int (f_min (7 : Int32) (kl - (1 : Int32)))), (.int (0 : Int32)), (.ref o)]) rfl rfl rfl ?_
      refine g_callS K 57 [(.int (0 : Int32)), (.int (f_min (7 : Int32) (kl - (1 : Int32))))] 1 d4_57 (rm_max l Z a0 hw (0 : Int32) (f_min (7 : Int32) (kl - (1 : Int32))) h147 n0 Z159  ) (tw hw 44 rfl) (tw hw 45 rfl) (tw hw 42 rfl) (tw hw 46 rfl) (by decide) pd4 rfl (st := [(.ref o)]) rfl (Nat.le_of_eq rfl) rfl (by decide) (by decide) (by decide) (by decide) ?_
      rintro _ _ ⟨hv, hh⟩
      rw [hv, hh]
      clear hv hh
      refine go_cast (k' := 0) (n' := 0) (st' := [(.int (f_max (0 : Int32) (f_min (7 : Int32) (kl - (1 : Int32))))), (.ref o)]) rfl rfl rfl ?_
      refine g_putfield K 60 .int d4_60 (tw hw 47 rfl) F151 E157 (Or.inr ⟨(tw hw 48 rfl), rfl, rfl⟩) (tw hw 24 rfl) (by decide) (rfl) (rfl) g_o ?_
      intro h160 W161 Kp162
      have F163 := F151.same W161
      have F164 := F152.other W161 (Or.inr (slot_ne (C := "com/example/zedcube/zedcube/engine/SlotList") (Or.inr (tw hw 50 rfl)) (Or.inr (tw hw 48 rfl)) (by decide) (t := .int) (t' := .int) (by decide) (by decide)))
      have F165 := F153.other W161 (Or.inr (slot_ne (C := "com/example/zedcube/zedcube/engine/SlotList") (Or.inr (tw hw 31 rfl)) (Or.inr (tw hw 48 rfl)) (by decide) (t := .int) (t' := .int) (by decide) (by decide)))
      have F166 := F154.other W161 (Or.inr (slot_ne (C := "com/example/zedcube/zedcube/engine/SlotList") (Or.inr (tw hw 33 rfl)) (Or.inr (tw hw 48 rfl)) (by decide) (t := .int) (t' := .int) (by decide) (by decide)))
      have F167 := F155.other W161 (Or.inr (slot_ne (C := "com/example/zedcube/zedcube/engine/SlotList") (Or.inr (tw hw 35 rfl)) (Or.inr (tw hw 48 rfl)) (by decide) (t := .boolean) (t' := .int) (by decide) (by decide)))
      have F168 := F156.other W161 (Or.inr (slot_ne (C := "com/example/zedcube/zedcube/engine/SlotList") (Or.inr (tw hw 37 rfl)) (Or.inr (tw hw 48 rfl)) (by decide) (t := .int) (t' := .int) (by decide) (by decide)))
      have F169 := F150.other W161 (Or.inr (slot_ne (C := "com/example/zedcube/zedcube/engine/SlotList") (Or.inr (tw hw 39 rfl)) (Or.inr (tw hw 48 rfl)) (by decide) (t := .int) (t' := .int) (by decide) (by decide)))
      have E170 := E157.keep Kp162
      have KC171 := KC158.trans Kp162 (allS (Or.inl (by simp)) all0)
      have Z172 := Nat.le_trans Z159 Kp162.1
      refine g_aloadN K 63 d4_63 rfl rfl ?_
      refine g_sipush K 64 (1024 : Int32) d4_64 (by decide) ?_
      refine g_sipush K 67 (20480 : Int32) d4_67 (by decide) ?_
      refine g_bipush K 70 (8 : Int32) d4_70 (by decide) ?_
      refine g_aloadN K 72 d4_72 rfl rfl ?_
      refine g_getfield K 73 d4_73 (tw hw 36 rfl) F168 ?_
      refine g_imul K 76 d4_76 ?_
      refine g_iconst K 77 (4 : Int32) d4_77 (by decide) ?_
      refine g_aloadN K 78 d4_78 rfl rfl ?_
      refine g_getfield K 79 d4_79 (tw hw 38 rfl) F169 ?_
      refine g_imul K 82 d4_82 ?_
      refine g_iadd K 83 d4_83 ?_
      refine g_idiv K 84 d4_84 (by decide) ?_
      refine g_callS K 85 [(.int (1024 : Int32)), (.int ((20480 : Int32) / (((8 : Int32) * (1 : Int32)) + ((4 : Int32) * (2 : Int32)))))] 1 d4_85 (rm_min l Z a0 hw (1024 : Int32) ((20480 : Int32) / (((8 : Int32) * (1 : Int32)) + ((4 : Int32) * (2 : Int32)))) h160 n0 Z172  ) (tw hw 40 rfl) (tw hw 41 rfl) (tw hw 42 rfl) (tw hw 43 rfl) (by decide) pd4 rfl (st := [(.ref o)]) rfl (Nat.le_of_eq rfl) rfl (by decide) (by decide) (by decide) (by decide) ?_
      rintro _ _ ⟨hv, hh⟩
      rw [hv, hh]
      clear hv hh
      refine go_cast (k' := 0) (n' := 0) (st' := [(.int (f_min (1024 : Int32) ((20480 : Int32) / (((8 : Int32) * (1 : Int32)) + ((4 : Int32) * (2 : Int32)))))), (.ref o)]) rfl rfl rfl ?_
      refine g_putfield K 88 .int d4_88 (tw hw 49 rfl) F164 E170 (Or.inr ⟨(tw hw 50 rfl), rfl, rfl⟩) (tw hw 24 rfl) (by decide) (rfl) (rfl) g_o ?_
      intro h173 W174 Kp175
      have F176 := F164.same W174
      have F177 := F165.other W174 (Or.inr (slot_ne (C := "com/example/zedcube/zedcube/engine/SlotList") (Or.inr (tw hw 31 rfl)) (Or.inr (tw hw 50 rfl)) (by decide) (t := .int) (t' := .int) (by decide) (by decide)))
      have F178 := F166.other W174 (Or.inr (slot_ne (C := "com/example/zedcube/zedcube/engine/SlotList") (Or.inr (tw hw 33 rfl)) (Or.inr (tw hw 50 rfl)) (by decide) (t := .int) (t' := .int) (by decide) (by decide)))
      have F179 := F167.other W174 (Or.inr (slot_ne (C := "com/example/zedcube/zedcube/engine/SlotList") (Or.inr (tw hw 35 rfl)) (Or.inr (tw hw 50 rfl)) (by decide) (t := .boolean) (t' := .int) (by decide) (by decide)))
      have F180 := F168.other W174 (Or.inr (slot_ne (C := "com/example/zedcube/zedcube/engine/SlotList") (Or.inr (tw hw 37 rfl)) (Or.inr (tw hw 50 rfl)) (by decide) (t := .int) (t' := .int) (by decide) (by decide)))
      have F181 := F169.other W174 (Or.inr (slot_ne (C := "com/example/zedcube/zedcube/engine/SlotList") (Or.inr (tw hw 39 rfl)) (Or.inr (tw hw 50 rfl)) (by decide) (t := .int) (t' := .int) (by decide) (by decide)))
      have F182 := F163.other W174 (Or.inr (slot_ne (C := "com/example/zedcube/zedcube/engine/SlotList") (Or.inr (tw hw 48 rfl)) (Or.inr (tw hw 50 rfl)) (by decide) (t := .int) (t' := .int) (by decide) (by decide)))
      have E183 := E170.keep Kp175
      have KC184 := KC171.trans Kp175 (allS (Or.inl (by simp)) all0)
      have Z185 := Nat.le_trans Z172 Kp175.1
      refine g_return K 91 d4_91 rfl (by decide) (by decide) ?_
      rw [hQ]
      exact ⟨rfl, KC184, E183⟩
    · intro c146
      refine g_iconst K 39 (3 : Int32) d4_39 (by decide) ?_
      refine g_goto K 40 44 d4_40 (by decide) (by decide) ?_
      refine g_putfield K 44 .int d4_44 (tw hw 38 rfl) F137 E143 (Or.inr ⟨(tw hw 39 rfl), rfl, rfl⟩) (tw hw 24 rfl) (by decide) (rfl) (rfl) g_o ?_
      intro h186 W187 Kp188
      have F189 := F137.same W187
      have F190 := F138.other W187 (Or.inr (slot_ne (C := "com/example/zedcube/zedcube/engine/SlotList") (Or.inr (tw hw 48 rfl)) (Or.inr (tw hw 39 rfl)) (by decide) (t := .int) (t' := .int) (by decide) (by decide)))
      have F191 := F139.other W187 (Or.inr (slot_ne (C := "com/example/zedcube/zedcube/engine/SlotList") (Or.inr (tw hw 50 rfl)) (Or.inr (tw hw 39 rfl)) (by decide) (t := .int) (t' := .int) (by decide) (by decide)))
      have F192 := F140.other W187 (Or.inr (slot_ne (C := "com/example/zedcube/zedcube/engine/SlotList") (Or.inr (tw hw 31 rfl)) (Or.inr (tw hw 39 rfl)) (by decide) (t := .int) (t' := .int) (by decide) (by decide)))
      have F193 := F141.other W187 (Or.inr (slot_ne (C := "com/example/zedcube/zedcube/engine/SlotList") (Or.inr (tw hw 33 rfl)) (Or.inr (tw hw 39 rfl)) (by decide) (t := .int) (t' := .int) (by decide) (by decide)))
      have F194 := F142.other W187 (Or.inr (slot_ne (C := "com/example/zedcube/zedcube/engine/SlotList") (Or.inr (tw hw 35 rfl)) (Or.inr (tw hw 39 rfl)) (by decide) (t := .boolean) (t' := .int) (by decide) (by decide)))
      have F195 := F136.other W187 (Or.inr (slot_ne (C := "com/example/zedcube/zedcube/engine/SlotList") (Or.inr (tw hw 37 rfl)) (Or.inr (tw hw 39 rfl)) (by decide) (t := .int) (t' := .int) (by decide) (by decide)))
      have E196 := E143.keep Kp188
      have KC197 := KC144.trans Kp188 (allS (Or.inl (by simp)) all0)
      have Z198 := Nat.le_trans Z145 Kp188.1
      refine g_aloadN K 47 d4_47 rfl rfl ?_
      refine g_iconst K 48 (0 : Int32) d4_48 (by decide) ?_
      refine g_bipush K 49 (7 : Int32) d4_49 (by decide) ?_
      refine g_iloadN K 51 d4_51 rfl ?_
      refine g_iconst K 52 (1 : Int32) d4_52 (by decide) ?_
      refine g_isub K 53 d4_53 ?_
      refine g_callS K 54 [(.int (7 : Int32)), (.int (kl - (1 : Int32)))] 2 d4_54 (rm_min l Z a0 hw (7 : Int32) (kl - (1 : Int32)) h186 n0 Z198  ) (tw hw 40 rfl) (tw hw 41 rfl) (tw hw 42 rfl) (tw hw 43 rfl) (by decide) pd4 rfl (st := [(.int (0 : Int32)), (.ref o)]) rfl (Nat.le_of_eq rfl) rfl (by decide) (by decide) (by decide) (by decide) ?_
      rintro _ _ ⟨hv, hh⟩
      rw [hv, hh]
      clear hv hh
      refine go_cast (k' := 0) (n' := 0) (st' := [(.int (f_min (7 : Int32) (kl - (1 : Int32)))), (.int (0 : Int32)), (.ref o)]) rfl rfl rfl ?_
      refine g_callS K 57 [(.int (0 : Int32)), (.int (f_min (7 : Int32) (kl - (1 : Int32))))] 1 d4_57 (rm_max l Z a0 hw (0 : Int32) (f_min (7 : Int32) (kl - (1 : Int32))) h186 n0 Z198  ) (tw hw 44 rfl) (tw hw 45 rfl) (tw hw 42 rfl) (tw hw 46 rfl) (by decide) pd4 rfl (st := [(.ref o)]) rfl (Nat.le_of_eq rfl) rfl (by decide) (by decide) (by decide) (by decide) ?_
      rintro _ _ ⟨hv, hh⟩
      rw [hv, hh]
      clear hv hh
      refine go_cast (k' := 0) (n' := 0) (st' := [(.int (f_max (0 : Int32) (f_min (7 : Int32) (kl - (1 : Int32))))), (.ref o)]) rfl rfl rfl ?_
      refine g_putfield K 60 .int d4_60 (tw hw 47 rfl) F190 E196 (Or.inr ⟨(tw hw 48 rfl), rfl, rfl⟩) (tw hw 24 rfl) (by decide) (rfl) (rfl) g_o ?_
      intro h199 W200 Kp201
      have F202 := F190.same W200
      have F203 := F191.other W200 (Or.inr (slot_ne (C := "com/example/zedcube/zedcube/engine/SlotList") (Or.inr (tw hw 50 rfl)) (Or.inr (tw hw 48 rfl)) (by decide) (t := .int) (t' := .int) (by decide) (by decide)))
      have F204 := F192.other W200 (Or.inr (slot_ne (C := "com/example/zedcube/zedcube/engine/SlotList") (Or.inr (tw hw 31 rfl)) (Or.inr (tw hw 48 rfl)) (by decide) (t := .int) (t' := .int) (by decide) (by decide)))
      have F205 := F193.other W200 (Or.inr (slot_ne (C := "com/example/zedcube/zedcube/engine/SlotList") (Or.inr (tw hw 33 rfl)) (Or.inr (tw hw 48 rfl)) (by decide) (t := .int) (t' := .int) (by decide) (by decide)))
      have F206 := F194.other W200 (Or.inr (slot_ne (C := "com/example/zedcube/zedcube/engine/SlotList") (Or.inr (tw hw 35 rfl)) (Or.inr (tw hw 48 rfl)) (by decide) (t := .boolean) (t' := .int) (by decide) (by decide)))
      have F207 := F195.other W200 (Or.inr (slot_ne (C := "com/example/zedcube/zedcube/engine/SlotList") (Or.inr (tw hw 37 rfl)) (Or.inr (tw hw 48 rfl)) (by decide) (t := .int) (t' := .int) (by decide) (by decide)))
      have F208 := F189.other W200 (Or.inr (slot_ne (C := "com/example/zedcube/zedcube/engine/SlotList") (Or.inr (tw hw 39 rfl)) (Or.inr (tw hw 48 rfl)) (by decide) (t := .int) (t' := .int) (by decide) (by decide)))
      have E209 := E196.keep Kp201
      have KC210 := KC197.trans Kp201 (allS (Or.inl (by simp)) all0)
      have Z211 := Nat.le_trans Z198 Kp201.1
      refine g_aloadN K 63 d4_63 rfl rfl ?_
      refine g_sipush K 64 (1024 : Int32) d4_64 (by decide) ?_
      refine g_sipush K 67 (20480 : Int32) d4_67 (by decide) ?_
      refine g_bipush K 70 (8 : Int32) d4_70 (by decide) ?_
      refine g_aloadN K 72 d4_72 rfl rfl ?_
      refine g_getfield K 73 d4_73 (tw hw 36 rfl) F207 ?_
      refine g_imul K 76 d4_76 ?_
      refine g_iconst K 77 (4 : Int32) d4_77 (by decide) ?_
      refine g_aloadN K 78 d4_78 rfl rfl ?_
      refine g_getfield K 79 d4_79 (tw hw 38 rfl) F208 ?_
      refine g_imul K 82 d4_82 ?_
      refine g_iadd K 83 d4_83 ?_
      refine g_idiv K 84 d4_84 (by decide) ?_
      refine g_callS K 85 [(.int (1024 : Int32)), (.int ((20480 : Int32) / (((8 : Int32) * (1 : Int32)) + ((4 : Int32) * (3 : Int32)))))] 1 d4_85 (rm_min l Z a0 hw (1024 : Int32) ((20480 : Int32) / (((8 : Int32) * (1 : Int32)) + ((4 : Int32) * (3 : Int32)))) h199 n0 Z211  ) (tw hw 40 rfl) (tw hw 41 rfl) (tw hw 42 rfl) (tw hw 43 rfl) (by decide) pd4 rfl (st := [(.ref o)]) rfl (Nat.le_of_eq rfl) rfl (by decide) (by decide) (by decide) (by decide) ?_
      rintro _ _ ⟨hv, hh⟩
      rw [hv, hh]
      clear hv hh
      refine go_cast (k' := 0) (n' := 0) (st' := [(.int (f_min (1024 : Int32) ((20480 : Int32) / (((8 : Int32) * (1 : Int32)) + ((4 : Int32) * (3 : Int32)))))), (.ref o)]) rfl rfl rfl ?_
      refine g_putfield K 88 .int d4_88 (tw hw 49 rfl) F203 E209 (Or.inr ⟨(tw hw 50 rfl), rfl, rfl⟩) (tw hw 24 rfl) (by decide) (rfl) (rfl) g_o ?_
      intro h212 W213 Kp214
      have F215 := F203.same W213
      have F216 := F204.other W213 (Or.inr (slot_ne (C := "com/example/zedcube/zedcube/engine/SlotList") (Or.inr (tw hw 31 rfl)) (Or.inr (tw hw 50 rfl)) (by decide) (t := .int) (t' := .int) (by decide) (by decide)))
      have F217 := F205.other W213 (Or.inr (slot_ne (C := "com/example/zedcube/zedcube/engine/SlotList") (Or.inr (tw hw 33 rfl)) (Or.inr (tw hw 50 rfl)) (by decide) (t := .int) (t' := .int) (by decide) (by decide)))
      have F218 := F206.other W213 (Or.inr (slot_ne (C := "com/example/zedcube/zedcube/engine/SlotList") (Or.inr (tw hw 35 rfl)) (Or.inr (tw hw 50 rfl)) (by decide) (t := .boolean) (t' := .int) (by decide) (by decide)))
      have F219 := F207.other W213 (Or.inr (slot_ne (C := "com/example/zedcube/zedcube/engine/SlotList") (Or.inr (tw hw 37 rfl)) (Or.inr (tw hw 50 rfl)) (by decide) (t := .int) (t' := .int) (by decide) (by decide)))
      have F220 := F208.other W213 (Or.inr (slot_ne (C := "com/example/zedcube/zedcube/engine/SlotList") (Or.inr (tw hw 39 rfl)) (Or.inr (tw hw 50 rfl)) (by decide) (t := .int) (t' := .int) (by decide) (by decide)))
      have F221 := F202.other W213 (Or.inr (slot_ne (C := "com/example/zedcube/zedcube/engine/SlotList") (Or.inr (tw hw 48 rfl)) (Or.inr (tw hw 50 rfl)) (by decide) (t := .int) (t' := .int) (by decide) (by decide)))
      have E222 := E209.keep Kp214
      have KC223 := KC210.trans Kp214 (allS (Or.inl (by simp)) all0)
      have Z224 := Nat.le_trans Z211 Kp214.1
      refine g_return K 91 d4_91 rfl (by decide) (by decide) ?_
      rw [hQ]
      exact ⟨rfl, KC223, E222⟩
set_option maxRecDepth 65536 in
set_option maxHeartbeats 40000000 in
theorem rm_nodes (l : Launch) (Z : State) (a0 : Array Value) (hw : ∀ d ∈ tables_1, d.before a0 Z = true) (o : Addr) (dm : Int32) (ao : Int32) (h0 : Heap) (n0 : Nat) (Z0 : n0 ≤ h0.size)  (E_o : Exa Z h0 o "com/example/zedcube/zedcube/engine/Nodes") (g_o : n0 ≤ o) (F_o_dims : Fld Z h0 o "com/example/zedcube/zedcube/engine/Nodes" "dims" "I" (.int (0 : Int32))) (F_o_arrayOnly : Fld Z h0 o "com/example/zedcube/zedcube/engine/Nodes" "arrayOnly" "Z" (.int (0 : Int32))) (F_o_list : Fld Z h0 o "com/example/zedcube/zedcube/engine/Nodes" "list" "Lcom/example/zedcube/zedcube/engine/SlotList;" .null) (F_o_blockSlots : Fld Z h0 o "com/example/zedcube/zedcube/engine/Nodes" "blockSlots" "Lcom/example/zedcube/zedcube/engine/SlotList;" .null) (F_o_blockList : Fld Z h0 o "com/example/zedcube/zedcube/engine/Nodes" "blockList" "Lcom/example/zedcube/zedcube/engine/SlotList;" .null) (F_o_arrayKeys : Fld Z h0 o "com/example/zedcube/zedcube/engine/Nodes" "arrayKeys" "I" (.int (0 : Int32))) (hd : 1 ≤ dm.toInt ∧ dm.toInt ≤ 3) (hao : ao = 0 ∨ ao = 1) :
    Meets l (⟨"com/example/zedcube/zedcube/engine/Nodes", "<init>", "(IZ)V"⟩ : MethodName) prog_13_method_1_code 3 none ({ frames := 2, cells := 3, slots := 21, locals := 40 } : Room) Z #[(.ref o), (.int dm), (.int ao)] h0 n0 (fun v h => v = none ∧ Keep h0 h [o] ∧ Exa Z h o "com/example/zedcube/zedcube/engine/Nodes" ∧ Fld Z h o "com/example/zedcube/zedcube/engine/Nodes" "dims" "I" (.int dm)) := by
  refine meets_of (plainFor_of_name pn1) (Ls := #[.val (.ref o), .val (.int dm), .val (.int ao)]) (fun m => by first | (simp [entryFrame, mkF, argsToLocals, Value.category]; done) | rfl) ?_
  intro p e s m below meth c K
  replace K : Kx Z "com/example/zedcube/zedcube/engine/Nodes" "<init>" prog_13_method_1_code 3 none p s m meth c := K
  obtain ⟨Q, hQ⟩ : ∃ Q : Option Value → Heap → Prop, Q = (fun v h => v = none ∧ Keep h0 h [o] ∧ Exa Z h o "com/example/zedcube/zedcube/engine/Nodes" ∧ Fld Z h o "com/example/zedcube/zedcube/engine/Nodes" "dims" "I" (.int dm)) := ⟨_, rfl⟩
  rw [← hQ]
  have KC0 := Keep.refl h0 [o]
  refine g_aloadN K 0 d2_0 rfl rfl ?_
  refine g_initO K 1 d2_1 (tw hw 16 rfl) (tw hw 17 rfl) (tw hw 18 rfl) rfl (by decide) 0 (Nat.le_of_eq rfl) (by decide) ?_
  refine g_aloadN K 4 d2_4 rfl rfl ?_
  refine g_iloadN K 5 d2_5 rfl ?_
  refine g_putfield K 6 .int d2_6 (tw hw 19 rfl) F_o_dims E_o (Or.inr ⟨(tw hw 20 rfl), rfl, rfl⟩) (tw hw 11 rfl) (by decide) (rfl) (rfl) g_o ?_
  intro h1 W2 Kp3
  have F4 := F_o_dims.same W2
  have F5 := F_o_arrayOnly.other W2 (Or.inr (slot_ne (C := "com/example/zedcube/zedcube/engine/Nodes") (Or.inr (tw hw 22 rfl)) (Or.inr (tw hw 20 rfl)) (by decide) (t := .boolean) (t' := .int) (by decide) (by decide)))
  have F6 := F_o_list.other W2 (Or.inr (slot_ne (C := "com/example/zedcube/zedcube/engine/Nodes") (Or.inr (tw hw 52 rfl)) (Or.inr (tw hw 20 rfl)) (by decide) (t := (.object "com/example/zedcube/zedcube/engine/SlotList")) (t' := .int) (by decide) (by decide)))
  have F7 := F_o_blockSlots.other W2 (Or.inr (slot_ne (C := "com/example/zedcube/zedcube/engine/Nodes") (Or.inr (tw hw 54 rfl)) (Or.inr (tw hw 20 rfl)) (by decide) (t := (.object "com/example/zedcube/zedcube/engine/SlotList")) (t' := .int) (by decide) (by decide)))
  have F8 := F_o_blockList.other W2 (Or.inr (slot_ne (C := "com/example/zedcube/zedcube/engine/Nodes") (Or.inr (tw hw 56 rfl)) (Or.inr (tw hw 20 rfl)) (by decide) (t := (.object "com/example/zedcube/zedcube/engine/SlotList")) (t' := .int) (by decide) (by decide)))
  have F9 := F_o_arrayKeys.other W2 (Or.inr (slot_ne (C := "com/example/zedcube/zedcube/engine/Nodes") (Or.inr (tw hw 59 rfl)) (Or.inr (tw hw 20 rfl)) (by decide) (t := .int) (t' := .int) (by decide) (by decide)))
  have E10 := E_o.keep Kp3
  have KC11 := KC0.trans Kp3 (allS (Or.inl (by simp)) all0)
  have Z12 := Nat.le_trans Z0 Kp3.1
  refine g_aloadN K 9 d2_9 rfl rfl ?_
  refine g_iloadN K 10 d2_10 rfl ?_
  refine g_putfield K 11 .boolean d2_11 (tw hw 21 rfl) F5 E10 (Or.inr ⟨(tw hw 22 rfl), rfl, rfl⟩) (tw hw 11 rfl) (by decide) (by rcases hao with h | h <;> rw [h] <;> rfl) (by rcases hao with h | h <;> rw [h] <;> rfl) g_o ?_
  intro h13 W14 Kp15
  have F16 := F5.same W14
  have F17 := F6.other W14 (Or.inr (slot_ne (C := "com/example/zedcube/zedcube/engine/Nodes") (Or.inr (tw hw 52 rfl)) (Or.inr (tw hw 22 rfl)) (by decide) (t := (.object "com/example/zedcube/zedcube/engine/SlotList")) (t' := .boolean) (by decide) (by decide)))
  have F18 := F7.other W14 (Or.inr (slot_ne (C := "com/example/zedcube/zedcube/engine/Nodes") (Or.inr (tw hw 54 rfl)) (Or.inr (tw hw 22 rfl)) (by decide) (t := (.object "com/example/zedcube/zedcube/engine/SlotList")) (t' := .boolean) (by decide) (by decide)))
  have F19 := F8.other W14 (Or.inr (slot_ne (C := "com/example/zedcube/zedcube/engine/Nodes") (Or.inr (tw hw 56 rfl)) (Or.inr (tw hw 22 rfl)) (by decide) (t := (.object "com/example/zedcube/zedcube/engine/SlotList")) (t' := .boolean) (by decide) (by decide)))
  have F20 := F9.other W14 (Or.inr (slot_ne (C := "com/example/zedcube/zedcube/engine/Nodes") (Or.inr (tw hw 59 rfl)) (Or.inr (tw hw 22 rfl)) (by decide) (t := .int) (t' := .boolean) (by decide) (by decide)))
  have F21 := F4.other W14 (Or.inr (slot_ne (C := "com/example/zedcube/zedcube/engine/Nodes") (Or.inr (tw hw 20 rfl)) (Or.inr (tw hw 22 rfl)) (by decide) (t := .int) (t' := .boolean) (by decide) (by decide)))
  have E22 := E10.keep Kp15
  have KC23 := KC11.trans Kp15 (allS (Or.inl (by simp)) all0)
  have Z24 := Nat.le_trans Z12 Kp15.1
  refine g_aloadN K 14 d2_14 rfl rfl ?_
  refine g_new K 15 d2_15 (tw hw 23 rfl) (tw hw 24 rfl) (tw hw 25 rfl) (by decide) (by decide) ?_
  intro h26 a25 eq30 Kp27 E28 D29
  have g31 : n0 ≤ a25 := eq30 ▸ Z24
  have fr32 : h0.size ≤ a25 := eq30 ▸ KC23.1
  have ne33 : o ≠ a25 := own_ne_of_lt E22.lt eq30
  have E34 := E22.keep Kp27
  have KC35 := KC23.trans Kp27 all0
  have Z36 := Nat.le_trans Z24 Kp27.1
  have F37 := F17.keep Kp27 nin0
  have F38 := F18.keep Kp27 nin0
  have F39 := F19.keep Kp27 nin0
  have F40 := F20.keep Kp27 nin0
  have F41 := F21.keep Kp27 nin0
  have F42 := F16.keep Kp27 nin0
  have F43 : Fld Z h26 a25 "com/example/zedcube/zedcube/engine/SlotList" "base" "I" (.int (0 : Int32)) := D29 (Or.inr (tw hw 31 rfl)) (ty := .int) (by decide)
  have F44 : Fld Z h26 a25 "com/example/zedcube/zedcube/engine/SlotList" "keyLength" "I" (.int (0 : Int32)) := D29 (Or.inr (tw hw 33 rfl)) (ty := .int) (by decide)
  have F45 : Fld Z h26 a25 "com/example/zedcube/zedcube/engine/SlotList" "keysApart" "Z" (.int (0 : Int32)) := D29 (Or.inr (tw hw 35 rfl)) (ty := .boolean) (by decide)
  have F46 : Fld Z h26 a25 "com/example/zedcube/zedcube/engine/SlotList" "stride" "I" (.int (0 : Int32)) := D29 (Or.inr (tw hw 37 rfl)) (ty := .int) (by decide)
  have F47 : Fld Z h26 a25 "com/example/zedcube/zedcube/engine/SlotList" "refsPerSlot" "I" (.int (0 : Int32)) := D29 (Or.inr (tw hw 39 rfl)) (ty := .int) (by decide)
  have F48 : Fld Z h26 a25 "com/example/zedcube/zedcube/engine/SlotList" "secondRead" "I" (.int (0 : Int32)) := D29 (Or.inr (tw hw 48 rfl)) (ty := .int) (by decide)
  have F49 : Fld Z h26 a25 "com/example/zedcube/zedcube/engine/SlotList" "maxSlots" "I" (.int (0 : Int32)) := D29 (Or.inr (tw hw 50 rfl)) (ty := .int) (by decide)
  refine g_dup K 18 d2_18 rfl ?_
  refine g_iconst K 19 (1 : Int32) d2_19 (by decide) ?_
  refine g_iloadN K 20 d2_20 rfl ?_
  refine g_iconst K 21 (0 : Int32) d2_21 (by decide) ?_
  refine g_callN K 22 [(.int (1 : Int32)), (.int dm), (.int (0 : Int32))] 2 d2_22 (rm_slot l Z a0 hw a25 (1 : Int32) dm (0 : Int32) h26 n0 Z36  E28 g31 F43 F44 F45 F46 F47 F48 F49 (⟨by omega, by omega⟩) (by decide)) rfl (tw hw 26 rfl) (tw hw 27 rfl) (tw hw 25 rfl) (tw hw 28 rfl) (by decide) pd3 rfl (st := [(.ref a25), (.ref o)]) rfl (Nat.le_of_eq rfl) rfl (by decide) (by decide) (by decide) (by decide) ?_
  rintro _ h50 ⟨hv, Kp51, E52⟩
  rw [hv]
  clear hv
  have E53 := E34.keep Kp51
  have KC54 := KC35.trans Kp51 (allS (Or.inr fr32) all0)
  have Z55 := Nat.le_trans Z36 Kp51.1
  have F56 := F37.keep Kp51 (ninS ne33 nin0)
  have F57 := F38.keep Kp51 (ninS ne33 nin0)
  have F58 := F39.keep Kp51 (ninS ne33 nin0)
  have F59 := F40.keep Kp51 (ninS ne33 nin0)
  have F60 := F41.keep Kp51 (ninS ne33 nin0)
  have F61 := F42.keep Kp51 (ninS ne33 nin0)
  refine go_cast (k' := (0 + 1)) (n' := (0 + 7)) (st' := [(.ref a25), (.ref o)]) rfl rfl rfl ?_
  refine g_putfield K 25 (.object "com/example/zedcube/zedcube/engine/SlotList") d2_25 (tw hw 51 rfl) F56 E53 (Or.inr ⟨(tw hw 52 rfl), rfl, rfl⟩) (tw hw 11 rfl) (by decide) (rfl) (rfl) g_o ?_
  intro h62 W63 Kp64
  have F65 := F56.same W63
  have F66 := F57.other W63 (Or.inr (slot_ne (C := "com/example/zedcube/zedcube/engine/Nodes") (Or.inr (tw hw 54 rfl)) (Or.inr (tw hw 52 rfl)) (by decide) (t := (.object "com/example/zedcube/zedcube/engine/SlotList")) (t' := (.object "com/example/zedcube/zedcube/engine/SlotList")) (by decide) (by decide)))
  have F67 := F58.other W63 (Or.inr (slot_ne (C := "com/example/zedcube/zedcube/engine/Nodes") (Or.inr (tw hw 56 rfl)) (Or.inr (tw hw 52 rfl)) (by decide) (t := (.object "com/example/zedcube/zedcube/engine/SlotList")) (t' := (.object "com/example/zedcube/zedcube/engine/SlotList")) (by decide) (by decide)))
  have F68 := F59.other W63 (Or.inr (slot_ne (C := "com/example/zedcube/zedcube/engine/Nodes") (Or.inr (tw hw 59 rfl)) (Or.inr (tw hw 52 rfl)) (by decide) (t := .int) (t' := (.object "com/example/zedcube/zedcube/engine/SlotList")) (by decide) (by decide)))
  have F69 := F60.other W63 (Or.inr (slot_ne (C := "com/example/zedcube/zedcube/engine/Nodes") (Or.inr (tw hw 20 rfl)) (Or.inr (tw hw 52 rfl)) (by decide) (t := .int) (t' := (.object "com/example/zedcube/zedcube/engine/SlotList")) (by decide) (by decide)))
  have F70 := F61.other W63 (Or.inr (slot_ne (C := "com/example/zedcube/zedcube/engine/Nodes") (Or.inr (tw hw 22 rfl)) (Or.inr (tw hw 52 rfl)) (by decide) (t := .boolean) (t' := (.object "com/example/zedcube/zedcube/engine/SlotList")) (by decide) (by decide)))
  have E71 := E53.keep Kp64
  have KC72 := KC54.trans Kp64 (allS (Or.inl (by simp)) all0)
  have Z73 := Nat.le_trans Z55 Kp64.1
  refine g_aloadN K 28 d2_28 rfl rfl ?_
  refine g_new K 29 d2_29 (tw hw 23 rfl) (tw hw 24 rfl) (tw hw 25 rfl) (by decide) (by decide) ?_
  intro h75 a74 eq79 Kp76 E77 D78
  have g80 : n0 ≤ a74 := eq79 ▸ Z73
  have fr81 : h0.size ≤ a74 := eq79 ▸ KC72.1
  have ne82 : o ≠ a74 := own_ne_of_lt E71.lt eq79
  have E83 := E71.keep Kp76
  have KC84 := KC72.trans Kp76 all0
  have Z85 := Nat.le_trans Z73 Kp76.1
  have F86 := F66.keep Kp76 nin0
  have F87 := F67.keep Kp76 nin0
  have F88 := F68.keep Kp76 nin0
  have F89 := F69.keep Kp76 nin0
  have F90 := F70.keep Kp76 nin0
  have F91 := F65.keep Kp76 nin0
  have F92 : Fld Z h75 a74 "com/example/zedcube/zedcube/engine/SlotList" "base" "I" (.int (0 : Int32)) := D78 (Or.inr (tw hw 31 rfl)) (ty := .int) (by decide)
  have F93 : Fld Z h75 a74 "com/example/zedcube/zedcube/engine/SlotList" "keyLength" "I" (.int (0 : Int32)) := D78 (Or.inr (tw hw 33 rfl)) (ty := .int) (by decide)
  have F94 : Fld Z h75 a74 "com/example/zedcube/zedcube/engine/SlotList" "keysApart" "Z" (.int (0 : Int32)) := D78 (Or.inr (tw hw 35 rfl)) (ty := .boolean) (by decide)
  have F95 : Fld Z h75 a74 "com/example/zedcube/zedcube/engine/SlotList" "stride" "I" (.int (0 : Int32)) := D78 (Or.inr (tw hw 37 rfl)) (ty := .int) (by decide)
  have F96 : Fld Z h75 a74 "com/example/zedcube/zedcube/engine/SlotList" "refsPerSlot" "I" (.int (0 : Int32)) := D78 (Or.inr (tw hw 39 rfl)) (ty := .int) (by decide)
  have F97 : Fld Z h75 a74 "com/example/zedcube/zedcube/engine/SlotList" "secondRead" "I" (.int (0 : Int32)) := D78 (Or.inr (tw hw 48 rfl)) (ty := .int) (by decide)
  have F98 : Fld Z h75 a74 "com/example/zedcube/zedcube/engine/SlotList" "maxSlots" "I" (.int (0 : Int32)) := D78 (Or.inr (tw hw 50 rfl)) (ty := .int) (by decide)
  refine g_dup K 32 d2_32 rfl ?_
  refine g_iconst K 33 (1 : Int32) d2_33 (by decide) ?_
  refine g_iloadN K 34 d2_34 rfl ?_
  refine g_iconst K 35 (1 : Int32) d2_35 (by decide) ?_
  refine g_callN K 36 [(.int (1 : Int32)), (.int dm), (.int (1 : Int32))] 2 d2_36 (rm_slot l Z a0 hw a74 (1 : Int32) dm (1 : Int32) h75 n0 Z85  E77 g80 F92 F93 F94 F95 F96 F97 F98 (⟨by omega, by omega⟩) (by decide)) rfl (tw hw 26 rfl) (tw hw 27 rfl) (tw hw 25 rfl) (tw hw 28 rfl) (by decide) pd3 rfl (st := [(.ref a74), (.ref o)]) rfl (Nat.le_of_eq rfl) rfl (by decide) (by decide) (by decide) (by decide) ?_
  rintro _ h99 ⟨hv, Kp100, E101⟩
  rw [hv]
  clear hv
  have E102 := E83.keep Kp100
  have KC103 := KC84.trans Kp100 (allS (Or.inr fr81) all0)
  have Z104 := Nat.le_trans Z85 Kp100.1
  have F105 := F86.keep Kp100 (ninS ne82 nin0)
  have F106 := F87.keep Kp100 (ninS ne82 nin0)
  have F107 := F88.keep Kp100 (ninS ne82 nin0)
  have F108 := F89.keep Kp100 (ninS ne82 nin0)
  have F109 := F90.keep Kp100 (ninS ne82 nin0)
  have F110 := F91.keep Kp100 (ninS ne82 nin0)
  refine go_cast (k' := ((0 + 1) + 1)) (n' := ((0 + 7) + 7)) (st' := [(.ref a74), (.ref o)]) rfl rfl rfl ?_
  refine g_putfield K 39 (.object "com/example/zedcube/zedcube/engine/SlotList") d2_39 (tw hw 53 rfl) F105 E102 (Or.inr ⟨(tw hw 54 rfl), rfl, rfl⟩) (tw hw 11 rfl) (by decide) (rfl) (rfl) g_o ?_
  intro h111 W112 Kp113
  have F114 := F105.same W112
  have F115 := F106.other W112 (Or.inr (slot_ne (C := "com/example/zedcube/zedcube/engine/Nodes") (Or.inr (tw hw 56 rfl)) (Or.inr (tw hw 54 rfl)) (by decide) (t := (.object "com/example/zedcube/zedcube/engine/SlotList")) (t' := (.object "com/example/zedcube/zedcube/engine/SlotList")) (by decide) (by decide)))
  have F116 := F107.other W112 (Or.inr (slot_ne (C := "com/example/zedcube/zedcube/engine/Nodes") (Or.inr (tw hw 59 rfl)) (Or.inr (tw hw 54 rfl)) (by decide) (t := .int) (t' := (.object "com/example/zedcube/zedcube/engine/SlotList")) (by decide) (by decide)))
  have F117 := F108.other W112 (Or.inr (slot_ne (C := "com/example/zedcube/zedcube/engine/Nodes") (Or.inr (tw hw 20 rfl)) (Or.inr (tw hw 54 rfl)) (by decide) (t := .int) (t' := (.object "com/example/zedcube/zedcube/engine/SlotList")) (by decide) (by decide)))
  have F118 := F109.other W112 (Or.inr (slot_ne (C := "com/example/zedcube/zedcube/engine/Nodes") (Or.inr (tw hw 22 rfl)) (Or.inr (tw hw 54 rfl)) (by decide) (t := .boolean) (t' := (.object "com/example/zedcube/zedcube/engine/SlotList")) (by decide) (by decide)))
  have F119 := F110.other W112 (Or.inr (slot_ne (C := "com/example/zedcube/zedcube/engine/Nodes") (Or.inr (tw hw 52 rfl)) (Or.inr (tw hw 54 rfl)) (by decide) (t := (.object "com/example/zedcube/zedcube/engine/SlotList")) (t' := (.object "com/example/zedcube/zedcube/engine/SlotList")) (by decide) (by decide)))
  have E120 := E102.keep Kp113
  have KC121 := KC103.trans Kp113 (allS (Or.inl (by simp)) all0)
  have Z122 := Nat.le_trans Z104 Kp113.1
  refine g_aloadN K 42 d2_42 rfl rfl ?_
  refine g_new K 43 d2_43 (tw hw 23 rfl) (tw hw 24 rfl) (tw hw 25 rfl) (by decide) (by decide) ?_
  intro h124 a123 eq128 Kp125 E126 D127
  have g129 : n0 ≤ a123 := eq128 ▸ Z122
  have fr130 : h0.size ≤ a123 := eq128 ▸ KC121.1
  have ne131 : o ≠ a123 := own_ne_of_lt E120.lt eq128
  have E132 := E120.keep Kp125
  have KC133 := KC121.trans Kp125 all0
  have Z134 := Nat.le_trans Z122 Kp125.1
  have F135 := F115.keep Kp125 nin0
  have F136 := F116.keep Kp125 nin0
  have F137 := F117.keep Kp125 nin0
  have F138 := F118.keep Kp125 nin0
  have F139 := F119.keep Kp125 nin0
  have F140 := F114.keep Kp125 nin0
  have F141 : Fld Z h124 a123 "com/example/zedcube/zedcube/engine/SlotList" "base" "I" (.int (0 : Int32)) := D127 (Or.inr (tw hw 31 rfl)) (ty := .int) (by decide)
  have F142 : Fld Z h124 a123 "com/example/zedcube/zedcube/engine/SlotList" "keyLength" "I" (.int (0 : Int32)) := D127 (Or.inr (tw hw 33 rfl)) (ty := .int) (by decide)
  have F143 : Fld Z h124 a123 "com/example/zedcube/zedcube/engine/SlotList" "keysApart" "Z" (.int (0 : Int32)) := D127 (Or.inr (tw hw 35 rfl)) (ty := .boolean) (by decide)
  have F144 : Fld Z h124 a123 "com/example/zedcube/zedcube/engine/SlotList" "stride" "I" (.int (0 : Int32)) := D127 (Or.inr (tw hw 37 rfl)) (ty := .int) (by decide)
  have F145 : Fld Z h124 a123 "com/example/zedcube/zedcube/engine/SlotList" "refsPerSlot" "I" (.int (0 : Int32)) := D127 (Or.inr (tw hw 39 rfl)) (ty := .int) (by decide)
  have F146 : Fld Z h124 a123 "com/example/zedcube/zedcube/engine/SlotList" "secondRead" "I" (.int (0 : Int32)) := D127 (Or.inr (tw hw 48 rfl)) (ty := .int) (by decide)
  have F147 : Fld Z h124 a123 "com/example/zedcube/zedcube/engine/SlotList" "maxSlots" "I" (.int (0 : Int32)) := D127 (Or.inr (tw hw 50 rfl)) (ty := .int) (by decide)
  refine g_dup K 46 d2_46 rfl ?_
  refine g_iconst K 47 (2 : Int32) d2_47 (by decide) ?_
  refine g_iconst K 48 (0 : Int32) d2_48 (by decide) ?_
  refine g_iconst K 49 (0 : Int32) d2_49 (by decide) ?_
  refine g_callN K 50 [(.int (2 : Int32)), (.int (0 : Int32)), (.int (0 : Int32))] 2 d2_50 (rm_slot l Z a0 hw a123 (2 : Int32) (0 : Int32) (0 : Int32) h124 n0 Z134  E126 g129 F141 F142 F143 F144 F145 F146 F147 (by decide) (by decide)) rfl (tw hw 26 rfl) (tw hw 27 rfl) (tw hw 25 rfl) (tw hw 28 rfl) (by decide) pd3 rfl (st := [(.ref a123), (.ref o)]) rfl (Nat.le_of_eq rfl) rfl (by decide) (by decide) (by decide) (by decide) ?_
  rintro _ h148 ⟨hv, Kp149, E150⟩
  rw [hv]
  clear hv
  have E151 := E132.keep Kp149
  have KC152 := KC133.trans Kp149 (allS (Or.inr fr130) all0)
  have Z153 := Nat.le_trans Z134 Kp149.1
  have F154 := F135.keep Kp149 (ninS ne131 nin0)
  have F155 := F136.keep Kp149 (ninS ne131 nin0)
  have F156 := F137.keep Kp149 (ninS ne131 nin0)
  have F157 := F138.keep Kp149 (ninS ne131 nin0)
  have F158 := F139.keep Kp149 (ninS ne131 nin0)
  have F159 := F140.keep Kp149 (ninS ne131 nin0)
  refine go_cast (k' := (((0 + 1) + 1) + 1)) (n' := (((0 + 7) + 7) + 7)) (st' := [(.ref a123), (.ref o)]) rfl rfl rfl ?_
  refine g_putfield K 53 (.object "com/example/zedcube/zedcube/engine/SlotList") d2_53 (tw hw 55 rfl) F154 E151 (Or.inr ⟨(tw hw 56 rfl), rfl, rfl⟩) (tw hw 11 rfl) (by decide) (rfl) (rfl) g_o ?_
  intro h160 W161 Kp162
  have F163 := F154.same W161
  have F164 := F155.other W161 (Or.inr (slot_ne (C := "com/example/zedcube/zedcube/engine/Nodes") (Or.inr (tw hw 59 rfl)) (Or.inr (tw hw 56 rfl)) (by decide) (t := .int) (t' := (.object "com/example/zedcube/zedcube/engine/SlotList")) (by decide) (by decide)))
  have F165 := F156.other W161 (Or.inr (slot_ne (C := "com/example/zedcube/zedcube/engine/Nodes") (Or.inr (tw hw 20 rfl)) (Or.inr (tw hw 56 rfl)) (by decide) (t := .int) (t' := (.object "com/example/zedcube/zedcube/engine/SlotList")) (by decide) (by decide)))
  have F166 := F157.other W161 (Or.inr (slot_ne (C := "com/example/zedcube/zedcube/engine/Nodes") (Or.inr (tw hw 22 rfl)) (Or.inr (tw hw 56 rfl)) (by decide) (t := .boolean) (t' := (.object "com/example/zedcube/zedcube/engine/SlotList")) (by decide) (by decide)))
  have F167 := F158.other W161 (Or.inr (slot_ne (C := "com/example/zedcube/zedcube/engine/Nodes") (Or.inr (tw hw 52 rfl)) (Or.inr (tw hw 56 rfl)) (by decide) (t := (.object "com/example/zedcube/zedcube/engine/SlotList")) (t' := (.object "com/example/zedcube/zedcube/engine/SlotList")) (by decide) (by decide)))
  have F168 := F159.other W161 (Or.inr (slot_ne (C := "com/example/zedcube/zedcube/engine/Nodes") (Or.inr (tw hw 54 rfl)) (Or.inr (tw hw 56 rfl)) (by decide) (t := (.object "com/example/zedcube/zedcube/engine/SlotList")) (t' := (.object "com/example/zedcube/zedcube/engine/SlotList")) (by decide) (by decide)))
  have E169 := E151.keep Kp162
  have KC170 := KC152.trans Kp162 (allS (Or.inl (by simp)) all0)
  have Z171 := Nat.le_trans Z153 Kp162.1
  refine g_aloadN K 56 d2_56 rfl rfl ?_
  refine g_iloadN K 57 d2_57 rfl ?_
  refine g_bipush K 58 (30 : Int32) d2_58 (by decide) ?_
  refine g_ii_gt K 60 77 d2_60 (by decide) (by decide) ?_ ?_
  · intro c172
    exfalso
    rw [Int32.lt_iff_toInt_lt, show (30 : Int32).toInt = 30 from by decide] at c172; omega
  · intro c172
    refine g_iconst K 63 (1 : Int32) d2_63 (by decide) ?_
    refine g_iconst K 64 (1 : Int32) d2_64 (by decide) ?_
    refine g_iconst K 65 (1 : Int32) d2_65 (by decide) ?_
    refine g_iloadN K 66 d2_66 rfl ?_
    refine g_iconst K 67 (1 : Int32) d2_67 (by decide) ?_
    refine g_isub K 68 d2_68 ?_
    refine g_ishl K 69 d2_69 ?_
    refine g_callS K 70 [(.int (1 : Int32)), (.int ((1 : Int32) <<< ((dm - (1 : Int32)) &&& 31)))] 2 d2_70 (rm_max l Z a0 hw (1 : Int32) ((1 : Int32) <<< ((dm - (1 : Int32)) &&& 31)) h160 n0 Z171  ) (tw hw 57 rfl) (tw hw 45 rfl) (tw hw 42 rfl) (tw hw 46 rfl) (by decide) pd4 rfl (st := [(.int (1 : Int32)), (.ref o)]) rfl (Nat.le_of_eq rfl) rfl (by decide) (by decide) (by decide) (by decide) ?_
    rintro _ _ ⟨hv, hh⟩
    rw [hv, hh]
    clear hv hh
    refine go_cast (k' := (((0 + 1) + 1) + 1)) (n' := (((0 + 7) + 7) + 7)) (st' := [(.int (f_max (1 : Int32) ((1 : Int32) <<< ((dm - (1 : Int32)) &&& 31)))), (.int (1 : Int32)), (.ref o)]) rfl rfl rfl ?_
    refine g_iadd K 73 d2_73 ?_
    refine g_goto K 74 78 d2_74 (by decide) (by decide) ?_
    refine g_putfield K 78 .int d2_78 (tw hw 58 rfl) F164 E169 (Or.inr ⟨(tw hw 59 rfl), rfl, rfl⟩) (tw hw 11 rfl) (by decide) (rfl) (rfl) g_o ?_
    intro h173 W174 Kp175
    have F176 := F164.same W174
    have F177 := F165.other W174 (Or.inr (slot_ne (C := "com/example/zedcube/zedcube/engine/Nodes") (Or.inr (tw hw 20 rfl)) (Or.inr (tw hw 59 rfl)) (by decide) (t := .int) (t' := .int) (by decide) (by decide)))
    have F178 := F166.other W174 (Or.inr (slot_ne (C := "com/example/zedcube/zedcube/engine/Nodes") (Or.inr (tw hw 22 rfl)) (Or.inr (tw hw 59 rfl)) (by decide) (t := .boolean) (t' := .int) (by decide) (by decide)))
    have F179 := F167.other W174 (Or.inr (slot_ne (C := "com/example/zedcube/zedcube/engine/Nodes") (Or.inr (tw hw 52 rfl)) (Or.inr (tw hw 59 rfl)) (by decide) (t := (.object "com/example/zedcube/zedcube/engine/SlotList")) (t' := .int) (by decide) (by decide)))
    have F180 := F168.other W174 (Or.inr (slot_ne (C := "com/example/zedcube/zedcube/engine/Nodes") (Or.inr (tw hw 54 rfl)) (Or.inr (tw hw 59 rfl)) (by decide) (t := (.object "com/example/zedcube/zedcube/engine/SlotList")) (t' := .int) (by decide) (by decide)))
    have F181 := F163.other W174 (Or.inr (slot_ne (C := "com/example/zedcube/zedcube/engine/Nodes") (Or.inr (tw hw 56 rfl)) (Or.inr (tw hw 59 rfl)) (by decide) (t := (.object "com/example/zedcube/zedcube/engine/SlotList")) (t' := .int) (by decide) (by decide)))
    have E182 := E169.keep Kp175
    have KC183 := KC170.trans Kp175 (allS (Or.inl (by simp)) all0)
    have Z184 := Nat.le_trans Z171 Kp175.1
    refine g_return K 81 d2_81 rfl (by decide) (by decide) ?_
    rw [hQ]
    exact ⟨rfl, KC183, E182, F177⟩
set_option maxRecDepth 65536 in
set_option maxHeartbeats 40000000 in
theorem rm_occ (l : Launch) (Z : State) (a0 : Array Value) (hw : ∀ d ∈ tables_1, d.before a0 Z = true) (o : Addr) (ar : Addr) (fr : Int32) (h0 : Heap) (n0 : Nat) (Z0 : n0 ≤ h0.size) (dm : Int32) (ds : List Int64) (F_d : Fld Z h0 o "com/example/zedcube/zedcube/engine/Nodes" "dims" "I" (.int dm)) (A_ar : LA Z h0 ar ds) (hds : ds.length = 5) (he : 0 ≤ ((1 : Int32) <<< (dm &&& 31)).toInt ∧ ((1 : Int32) <<< (dm &&& 31)).toInt ≤ 8) (hf : 0 ≤ fr.toInt ∧ fr.toInt ≤ 8) :
    Meets l (⟨"com/example/zedcube/zedcube/engine/Nodes", "occupiedAddressFrom", "([JI)I"⟩ : MethodName) prog_13_method_9_code 7 (some .int) ({ frames := 0, cells := 0, slots := 0, locals := 0 } : Room) Z #[(.ref o), (.ref ar), (.int fr)] h0 n0 (fun v h => v = some (Value.int (occ ds ((1 : Int32) <<< (dm &&& 31)) 9 fr)) ∧ h = h0) := by
  refine meets_of (plainFor_of_name pn1) (Ls := #[.val (.ref o), .val (.ref ar), .val (.int fr), .unset, .unset, .unset, .unset]) (fun m => by first | (simp [entryFrame, mkF, argsToLocals, Value.category]; done) | rfl) ?_
  intro p e s m below meth c K
  replace K : Kx Z "com/example/zedcube/zedcube/engine/Nodes" "occupiedAddressFrom" prog_13_method_9_code 7 (some .int) p s m meth c := K
  obtain ⟨Q, hQ⟩ : ∃ Q : Option Value → Heap → Prop, Q = (fun v h => v = some (Value.int (occ ds ((1 : Int32) <<< (dm &&& 31)) 9 fr)) ∧ h = h0) := ⟨_, rfl⟩
  rw [← hQ]
  have loop : ∀ (d : Nat) (i : Int32) (sl5 sl6 : Slot), (sl5 = .unset ∧ sl6 = .unset ∨ ∃ w : Int64, sl5 = .val (.long w) ∧ sl6 = .second) → 0 ≤ i.toInt → i.toInt ≤ 20 → ((1 : Int32) <<< (dm &&& 31)).toInt < i.toInt + d → occ ds ((1 : Int32) <<< (dm &&& 31)) d i = (occ ds ((1 : Int32) <<< (dm &&& 31)) 9 fr) → Go p l e ({ frames := 0, cells := 0, slots := 0, locals := 0 } : Room) s m #[(.ref o), (.ref ar), (.int fr)] below meth c n0 Q h0 0 0 (mkF m 10 #[.val (.ref o), .val (.ref ar), .val (.int fr), .val (.int ((1 : Int32) <<< (dm &&& 31))), .val (.int i), sl5, sl6] []) := by
    intro d
    induction d with
    | zero =>
      intro i sl5 sl6 hsl hi0 hi9 hid hfin
      rcases hsl with ⟨rfl, rfl⟩ | ⟨w0, rfl, rfl⟩
      ·
        refine g_iload K 10 d7_10 rfl ?_
        refine g_iloadN K 12 d7_12 rfl ?_
        refine g_ii_ge K 13 66 d7_13 (by decide) (by decide) ?_ ?_
        · intro c1
          refine g_iloadN K 66 d7_66 rfl ?_
          refine g_ireturn K 67 d7_67 rfl (by decide) (by decide) ?_
          rw [hQ]
          refine ⟨?_, rfl⟩
          show _ = some (Value.int (occ ds ((1 : Int32) <<< (dm &&& 31)) 9 fr))
          rw [← hfin]
          rfl
        · intro c1
          exfalso
          rw [Int32.lt_iff_toInt_lt] at c1; omega
      
      ·
        refine g_iload K 10 d7_10 rfl ?_
        refine g_iloadN K 12 d7_12 rfl ?_
        refine g_ii_ge K 13 66 d7_13 (by decide) (by decide) ?_ ?_
        · intro c2
          refine g_iloadN K 66 d7_66 rfl ?_
          refine g_ireturn K 67 d7_67 rfl (by decide) (by decide) ?_
          rw [hQ]
          refine ⟨?_, rfl⟩
          show _ = some (Value.int (occ ds ((1 : Int32) <<< (dm &&& 31)) 9 fr))
          rw [← hfin]
          rfl
        · intro c2
          exfalso
          rw [Int32.lt_iff_toInt_lt] at c2; omega
    | succ d ih =>
      intro i sl5 sl6 hsl hi0 hi9 hid hfin
      rcases hsl with ⟨rfl, rfl⟩ | ⟨w0, rfl, rfl⟩
      ·
        refine g_iload K 10 d7_10 rfl ?_
        refine g_iloadN K 12 d7_12 rfl ?_
        refine g_ii_ge K 13 66 d7_13 (by decide) (by decide) ?_ ?_
        · intro c3
          refine g_iloadN K 66 d7_66 rfl ?_
          refine g_ireturn K 67 d7_67 rfl (by decide) (by decide) ?_
          rw [hQ]
          refine ⟨?_, rfl⟩
          show _ = some (Value.int (occ ds ((1 : Int32) <<< (dm &&& 31)) 9 fr))
          rw [← hfin]
          unfold occ; rw [if_neg c3]
        · intro c3
          refine g_aloadN K 16 d7_16 rfl rfl ?_
          refine g_iconst K 17 (1 : Int32) d7_17 (by decide) ?_
          refine g_iload K 18 d7_18 rfl ?_
          refine g_iconst K 20 (1 : Int32) d7_20 (by decide) ?_
          refine g_iushr K 21 d7_21 ?_
          refine g_iadd K 22 d7_22 ?_
          refine g_laload K 23 (rd ds ((1 : Int32) + (XT.ushr i (1 : Int32)))) d7_23 A_ar ((own_ix i ((1 : Int32) <<< (dm &&& 31)) hi0 he c3).1) (rd_some (by rw [hds]; exact (own_ix i ((1 : Int32) <<< (dm &&& 31)) hi0 he c3).2)) ?_
          refine g_lstore K 24 #[.val (.ref o), .val (.ref ar), .val (.int fr), .val (.int ((1 : Int32) <<< (dm &&& 31))), .val (.int i), .val (.long (rd ds ((1 : Int32) + (XT.ushr i (1 : Int32))))), .second] d7_24 rfl ?_
          refine g_lload K 26 d7_26 rfl ?_
          refine g_lconst K 28 (0 : Int64) d7_28 (by decide) ?_
          refine g_lcmp K 29 d7_29 ?_
          refine g_ll_ne K 30 44 d7_30 (by decide) (by decide) ?_ ?_
          · intro c4
            refine g_lload K 44 d7_44 rfl ?_
            refine g_iload K 46 d7_46 rfl ?_
            refine g_iconst K 48 (1 : Int32) d7_48 (by decide) ?_
            refine g_iand K 49 d7_49 ?_
            refine g_iconst K 50 (5 : Int32) d7_50 (by decide) ?_
            refine g_ishl K 51 d7_51 ?_
            refine g_lushr K 52 d7_52 ?_
            refine g_l2i K 53 d7_53 ?_
            refine g_if_eq K 54 60 d7_54 (by decide) (by decide) ?_ ?_
            · intro c5
              refine g_iinc K 60 (1 : Int32) #[.val (.ref o), .val (.ref ar), .val (.int fr), .val (.int ((1 : Int32) <<< (dm &&& 31))), .val (.int (i + (1 : Int32))), .val (.long (rd ds ((1 : Int32) + (XT.ushr i (1 : Int32))))), .second] d7_60 (by decide) rfl rfl ?_
              refine g_goto K 63 10 d7_63 (by decide) (by decide) ?_
              exact ih _ _ _ (Or.inr ⟨_, rfl, rfl⟩) (by have := (own_nx i ((1 : Int32) <<< (dm &&& 31)) hi0 he c3).2; omega) (by have := (own_nx i ((1 : Int32) <<< (dm &&& 31)) hi0 he c3).2; omega) (by have := (own_nx i ((1 : Int32) <<< (dm &&& 31)) hi0 he c3).2; omega) (by rw [← hfin]; conv => rhs; unfold occ; rw [if_pos c3, if_neg c4, if_pos c5])
            · intro c5
              refine g_iload K 57 d7_57 rfl ?_
              refine g_ireturn K 59 d7_59 rfl (by decide) (by decide) ?_
              rw [hQ]
              refine ⟨?_, rfl⟩
              show _ = some (Value.int (occ ds ((1 : Int32) <<< (dm &&& 31)) 9 fr))
              rw [← hfin]
              unfold occ; rw [if_pos c3, if_neg c4, if_neg c5]
          · intro c4
            refine g_iload K 33 d7_33 rfl ?_
            refine g_iconst K 35 (1 : Int32) d7_35 (by decide) ?_
            refine g_ior K 36 d7_36 ?_
            refine g_iconst K 37 (1 : Int32) d7_37 (by decide) ?_
            refine g_iadd K 38 d7_38 ?_
            refine g_istore K 39 #[.val (.ref o), .val (.ref ar), .val (.int fr), .val (.int ((1 : Int32) <<< (dm &&& 31))), .val (.int ((i ||| (1 : Int32)) + (1 : Int32))), .val (.long (rd ds ((1 : Int32) + (XT.ushr i (1 : Int32))))), .second] d7_39 rfl ?_
            refine g_goto K 41 63 d7_41 (by decide) (by decide) ?_
            refine g_goto K 63 10 d7_63 (by decide) (by decide) ?_
            exact ih _ _ _ (Or.inr ⟨_, rfl, rfl⟩) (by have := (own_nx i ((1 : Int32) <<< (dm &&& 31)) hi0 he c3).1; omega) (by have := (own_nx i ((1 : Int32) <<< (dm &&& 31)) hi0 he c3).1; omega) (by have := (own_nx i ((1 : Int32) <<< (dm &&& 31)) hi0 he c3).1; omega) (by rw [← hfin]; conv => rhs; unfold occ; rw [if_pos c3, if_pos c4])
      
      ·
        refine g_iload K 10 d7_10 rfl ?_
        refine g_iloadN K 12 d7_12 rfl ?_
        refine g_ii_ge K 13 66 d7_13 (by decide) (by decide) ?_ ?_
        · intro c6
          refine g_iloadN K 66 d7_66 rfl ?_
          refine g_ireturn K 67 d7_67 rfl (by decide) (by decide) ?_
          rw [hQ]
          refine ⟨?_, rfl⟩
          show _ = some (Value.int (occ ds ((1 : Int32) <<< (dm &&& 31)) 9 fr))
          rw [← hfin]
          unfold occ; rw [if_neg c6]
        · intro c6
          refine g_aloadN K 16 d7_16 rfl rfl ?_
          refine g_iconst K 17 (1 : Int32) d7_17 (by decide) ?_
          refine g_iload K 18 d7_18 rfl ?_
          refine g_iconst K 20 (1 : Int32) d7_20 (by decide) ?_
          refine g_iushr K 21 d7_21 ?_
          refine g_iadd K 22 d7_22 ?_
          refine g_laload K 23 (rd ds ((1 : Int32) + (XT.ushr i (1 : Int32)))) d7_23 A_ar ((own_ix i ((1 : Int32) <<< (dm &&& 31)) hi0 he c6).1) (rd_some (by rw [hds]; exact (own_ix i ((1 : Int32) <<< (dm &&& 31)) hi0 he c6).2)) ?_
          refine g_lstore K 24 #[.val (.ref o), .val (.ref ar), .val (.int fr), .val (.int ((1 : Int32) <<< (dm &&& 31))), .val (.int i), .val (.long (rd ds ((1 : Int32) + (XT.ushr i (1 : Int32))))), .second] d7_24 rfl ?_
          refine g_lload K 26 d7_26 rfl ?_
          refine g_lconst K 28 (0 : Int64) d7_28 (by decide) ?_
          refine g_lcmp K 29 d7_29 ?_
          refine g_ll_ne K 30 44 d7_30 (by decide) (by decide) ?_ ?_
          · intro c7
            refine g_lload K 44 d7_44 rfl ?_
            refine g_iload K 46 d7_46 rfl ?_
            refine g_iconst K 48 (1 : Int32) d7_48 (by decide) ?_
            refine g_iand K 49 d7_49 ?_
            refine g_iconst K 50 (5 : Int32) d7_50 (by decide) ?_
            refine g_ishl K 51 d7_51 ?_
            refine g_lushr K 52 d7_52 ?_
            refine g_l2i K 53 d7_53 ?_
            refine g_if_eq K 54 60 d7_54 (by decide) (by decide) ?_ ?_
            · intro c8
              refine g_iinc K 60 (1 : Int32) #[.val (.ref o), .val (.ref ar), .val (.int fr), .val (.int ((1 : Int32) <<< (dm &&& 31))), .val (.int (i + (1 : Int32))), .val (.long (rd ds ((1 : Int32) + (XT.ushr i (1 : Int32))))), .second] d7_60 (by decide) rfl rfl ?_
              refine g_goto K 63 10 d7_63 (by decide) (by decide) ?_
              exact ih _ _ _ (Or.inr ⟨_, rfl, rfl⟩) (by have := (own_nx i ((1 : Int32) <<< (dm &&& 31)) hi0 he c6).2; omega) (by have := (own_nx i ((1 : Int32) <<< (dm &&& 31)) hi0 he c6).2; omega) (by have := (own_nx i ((1 : Int32) <<< (dm &&& 31)) hi0 he c6).2; omega) (by rw [← hfin]; conv => rhs; unfold occ; rw [if_pos c6, if_neg c7, if_pos c8])
            · intro c8
              refine g_iload K 57 d7_57 rfl ?_
              refine g_ireturn K 59 d7_59 rfl (by decide) (by decide) ?_
              rw [hQ]
              refine ⟨?_, rfl⟩
              show _ = some (Value.int (occ ds ((1 : Int32) <<< (dm &&& 31)) 9 fr))
              rw [← hfin]
              unfold occ; rw [if_pos c6, if_neg c7, if_neg c8]
          · intro c7
            refine g_iload K 33 d7_33 rfl ?_
            refine g_iconst K 35 (1 : Int32) d7_35 (by decide) ?_
            refine g_ior K 36 d7_36 ?_
            refine g_iconst K 37 (1 : Int32) d7_37 (by decide) ?_
            refine g_iadd K 38 d7_38 ?_
            refine g_istore K 39 #[.val (.ref o), .val (.ref ar), .val (.int fr), .val (.int ((1 : Int32) <<< (dm &&& 31))), .val (.int ((i ||| (1 : Int32)) + (1 : Int32))), .val (.long (rd ds ((1 : Int32) + (XT.ushr i (1 : Int32))))), .second] d7_39 rfl ?_
            refine g_goto K 41 63 d7_41 (by decide) (by decide) ?_
            refine g_goto K 63 10 d7_63 (by decide) (by decide) ?_
            exact ih _ _ _ (Or.inr ⟨_, rfl, rfl⟩) (by have := (own_nx i ((1 : Int32) <<< (dm &&& 31)) hi0 he c6).1; omega) (by have := (own_nx i ((1 : Int32) <<< (dm &&& 31)) hi0 he c6).1; omega) (by have := (own_nx i ((1 : Int32) <<< (dm &&& 31)) hi0 he c6).1; omega) (by rw [← hfin]; conv => rhs; unfold occ; rw [if_pos c6, if_pos c7])
  refine g_iconst K 0 (1 : Int32) d7_0 (by decide) ?_
  refine g_aloadN K 1 d7_1 rfl rfl ?_
  refine g_getfield K 2 d7_2 (tw hw 19 rfl) F_d ?_
  refine g_ishl K 5 d7_5 ?_
  refine g_istoreN K 6 #[.val (.ref o), .val (.ref ar), .val (.int fr), .val (.int ((1 : Int32) <<< (dm &&& 31))), .unset, .unset, .unset] d7_6 rfl ?_
  refine g_iloadN K 7 d7_7 rfl ?_
  refine g_istore K 8 #[.val (.ref o), .val (.ref ar), .val (.int fr), .val (.int ((1 : Int32) <<< (dm &&& 31))), .val (.int fr), .unset, .unset] d7_8 rfl ?_
  exact loop 9 fr _ _ (Or.inl ⟨rfl, rfl⟩) hf.1 (by omega) (by omega) rfl
set_option maxRecDepth 65536 in
set_option maxHeartbeats 40000000 in
theorem rm_expected (l : Launch) (Z : State) (a0 : Array Value) (hw : ∀ d ∈ tables_1, d.before a0 Z = true) (ar : Addr) (fr : Int32) (nn : Int32) (h0 : Heap) (n0 : Nat) (Z0 : n0 ≤ h0.size) (xs : List Int32) (A_ar : IA Z h0 ar .boolean xs) (hx : xs.length = 8) :
    Meets l (⟨"com/example/zedcube/zedcube/engine/NodesOccupiedAddressFromPinLaw", "expected", "([ZII)I"⟩ : MethodName) method_4_code 3 (some .int) ({ frames := 0, cells := 0, slots := 0, locals := 0 } : Room) Z #[(.ref ar), (.int fr), (.int nn)] h0 n0 (fun v h => (∃ r : Int32, v = some (Value.int r) ∧ Ex xs fr nn r) ∧ h = h0) := by
  refine meets_of (plainFor_of_name pn0) (Ls := #[.val (.ref ar), .val (.int fr), .val (.int nn)]) (fun m => by first | (simp [entryFrame, mkF, argsToLocals, Value.category]; done) | rfl) ?_
  intro p e s m below meth c K
  replace K : Kx Z "com/example/zedcube/zedcube/engine/NodesOccupiedAddressFromPinLaw" "expected" method_4_code 3 (some .int) p s m meth c := K
  obtain ⟨Q, hQ⟩ : ∃ Q : Option Value → Heap → Prop, Q = (fun v h => (∃ r : Int32, v = some (Value.int r) ∧ Ex xs fr nn r) ∧ h = h0) := ⟨_, rfl⟩
  rw [← hQ]
  have J8_ : No xs fr nn 8 → Go p l e ({ frames := 0, cells := 0, slots := 0, locals := 0 } : Room) s m #[(.ref ar), (.int fr), (.int nn)] below meth c n0 Q h0 0 0 (mkF m 151 #[.val (.ref ar), .val (.int fr), .val (.int nn)] []) := by
    intro H
    refine g_iloadN K 151 d8_151 rfl ?_
    refine g_ireturn K 152 d8_152 rfl (by decide) (by decide) ?_
    rw [hQ]
    exact ⟨⟨_, rfl, Or.inl ⟨rfl, H⟩⟩, rfl⟩
  have J7_ : No xs fr nn 7 → Go p l e ({ frames := 0, cells := 0, slots := 0, locals := 0 } : Room) s m #[(.ref ar), (.int fr), (.int nn)] below meth c n0 Q h0 0 0 (mkF m 129 #[.val (.ref ar), .val (.int fr), .val (.int nn)] []) := by
    intro H
    refine g_iloadN K 129 d8_129 rfl ?_
    refine g_bipush K 130 (7 : Int32) d8_130 (by decide) ?_
    refine g_ii_gt K 132 151 d8_132 (by decide) (by decide) ?_ ?_
    · intro c1
      exact J8_ (own_no1 H c1)
    · intro c1
      refine g_bipush K 135 (7 : Int32) d8_135 (by decide) ?_
      refine g_iloadN K 137 d8_137 rfl ?_
      refine g_ii_ge K 138 151 d8_138 (by decide) (by decide) ?_ ?_
      · intro c2
        exact J8_ (own_no2 H c2)
      · intro c2
        refine g_aloadN K 141 d8_141 rfl rfl ?_
        refine g_bipush K 142 (7 : Int32) d8_142 (by decide) ?_
        refine g_zaload K 144 (rdI xs (7 : Int32)) d8_144 A_ar (by decide) (rdI_some (by rw [hx]; exact (show (7 : Int32).toNatClampNeg < 8 from by decide))) ?_
        refine g_if_eq K 145 151 d8_145 (by decide) (by decide) ?_ ?_
        · intro c3
          exact J8_ (own_no3 H c3)
        · intro c3
          refine g_bipush K 148 (7 : Int32) d8_148 (by decide) ?_
          refine g_ireturn K 150 d8_150 rfl (by decide) (by decide) ?_
          rw [hQ]
          exact ⟨⟨_, rfl, Or.inr ⟨7, by decide, by decide, own_y1 c1, own_y2 c2, c3, H⟩⟩, rfl⟩
  have J6_ : No xs fr nn 6 → Go p l e ({ frames := 0, cells := 0, slots := 0, locals := 0 } : Room) s m #[(.ref ar), (.int fr), (.int nn)] below meth c n0 Q h0 0 0 (mkF m 107 #[.val (.ref ar), .val (.int fr), .val (.int nn)] []) := by
    intro H
    refine g_iloadN K 107 d8_107 rfl ?_
    refine g_bipush K 108 (6 : Int32) d8_108 (by decide) ?_
    refine g_ii_gt K 110 129 d8_110 (by decide) (by decide) ?_ ?_
    · intro c4
      exact J7_ (own_no1 H c4)
    · intro c4
      refine g_bipush K 113 (6 : Int32) d8_113 (by decide) ?_
      refine g_iloadN K 115 d8_115 rfl ?_
      refine g_ii_ge K 116 129 d8_116 (by decide) (by decide) ?_ ?_
      · intro c5
        exact J7_ (own_no2 H c5)
      · intro c5
        refine g_aloadN K 119 d8_119 rfl rfl ?_
        refine g_bipush K 120 (6 : Int32) d8_120 (by decide) ?_
        refine g_zaload K 122 (rdI xs (6 : Int32)) d8_122 A_ar (by decide) (rdI_some (by rw [hx]; exact (show (6 : Int32).toNatClampNeg < 8 from by decide))) ?_
        refine g_if_eq K 123 129 d8_123 (by decide) (by decide) ?_ ?_
        · intro c6
          exact J7_ (own_no3 H c6)
        · intro c6
          refine g_bipush K 126 (6 : Int32) d8_126 (by decide) ?_
          refine g_ireturn K 128 d8_128 rfl (by decide) (by decide) ?_
          rw [hQ]
          exact ⟨⟨_, rfl, Or.inr ⟨6, by decide, by decide, own_y1 c4, own_y2 c5, c6, H⟩⟩, rfl⟩
  have J5_ : No xs fr nn 5 → Go p l e ({ frames := 0, cells := 0, slots := 0, locals := 0 } : Room) s m #[(.ref ar), (.int fr), (.int nn)] below meth c n0 Q h0 0 0 (mkF m 89 #[.val (.ref ar), .val (.int fr), .val (.int nn)] []) := by
    intro H
    refine g_iloadN K 89 d8_89 rfl ?_
    refine g_iconst K 90 (5 : Int32) d8_90 (by decide) ?_
    refine g_ii_gt K 91 107 d8_91 (by decide) (by decide) ?_ ?_
    · intro c7
      exact J6_ (own_no1 H c7)
    · intro c7
      refine g_iconst K 94 (5 : Int32) d8_94 (by decide) ?_
      refine g_iloadN K 95 d8_95 rfl ?_
      refine g_ii_ge K 96 107 d8_96 (by decide) (by decide) ?_ ?_
      · intro c8
        exact J6_ (own_no2 H c8)
      · intro c8
        refine g_aloadN K 99 d8_99 rfl rfl ?_
        refine g_iconst K 100 (5 : Int32) d8_100 (by decide) ?_
        refine g_zaload K 101 (rdI xs (5 : Int32)) d8_101 A_ar (by decide) (rdI_some (by rw [hx]; exact (show (5 : Int32).toNatClampNeg < 8 from by decide))) ?_
        refine g_if_eq K 102 107 d8_102 (by decide) (by decide) ?_ ?_
        · intro c9
          exact J6_ (own_no3 H c9)
        · intro c9
          refine g_iconst K 105 (5 : Int32) d8_105 (by decide) ?_
          refine g_ireturn K 106 d8_106 rfl (by decide) (by decide) ?_
          rw [hQ]
          exact ⟨⟨_, rfl, Or.inr ⟨5, by decide, by decide, own_y1 c7, own_y2 c8, c9, H⟩⟩, rfl⟩
  have J4_ : No xs fr nn 4 → Go p l e ({ frames := 0, cells := 0, slots := 0, locals := 0 } : Room) s m #[(.ref ar), (.int fr), (.int nn)] below meth c n0 Q h0 0 0 (mkF m 71 #[.val (.ref ar), .val (.int fr), .val (.int nn)] []) := by
    intro H
    refine g_iloadN K 71 d8_71 rfl ?_
    refine g_iconst K 72 (4 : Int32) d8_72 (by decide) ?_
    refine g_ii_gt K 73 89 d8_73 (by decide) (by decide) ?_ ?_
    · intro c10
      exact J5_ (own_no1 H c10)
    · intro c10
      refine g_iconst K 76 (4 : Int32) d8_76 (by decide) ?_
      refine g_iloadN K 77 d8_77 rfl ?_
      refine g_ii_ge K 78 89 d8_78 (by decide) (by decide) ?_ ?_
      · intro c11
        exact J5_ (own_no2 H c11)
      · intro c11
        refine g_aloadN K 81 d8_81 rfl rfl ?_
        refine g_iconst K 82 (4 : Int32) d8_82 (by decide) ?_
        refine g_zaload K 83 (rdI xs (4 : Int32)) d8_83 A_ar (by decide) (rdI_some (by rw [hx]; exact (show (4 : Int32).toNatClampNeg < 8 from by decide))) ?_
        refine g_if_eq K 84 89 d8_84 (by decide) (by decide) ?_ ?_
        · intro c12
          exact J5_ (own_no3 H c12)
        · intro c12
          refine g_iconst K 87 (4 : Int32) d8_87 (by decide) ?_
          refine g_ireturn K 88 d8_88 rfl (by decide) (by decide) ?_
          rw [hQ]
          exact ⟨⟨_, rfl, Or.inr ⟨4, by decide, by decide, own_y1 c10, own_y2 c11, c12, H⟩⟩, rfl⟩
  have J3_ : No xs fr nn 3 → Go p l e ({ frames := 0, cells := 0, slots := 0, locals := 0 } : Room) s m #[(.ref ar), (.int fr), (.int nn)] below meth c n0 Q h0 0 0 (mkF m 53 #[.val (.ref ar), .val (.int fr), .val (.int nn)] []) := by
    intro H
    refine g_iloadN K 53 d8_53 rfl ?_
    refine g_iconst K 54 (3 : Int32) d8_54 (by decide) ?_
    refine g_ii_gt K 55 71 d8_55 (by decide) (by decide) ?_ ?_
    · intro c13
      exact J4_ (own_no1 H c13)
    · intro c13
      refine g_iconst K 58 (3 : Int32) d8_58 (by decide) ?_
      refine g_iloadN K 59 d8_59 rfl ?_
      refine g_ii_ge K 60 71 d8_60 (by decide) (by decide) ?_ ?_
      · intro c14
        exact J4_ (own_no2 H c14)
      · intro c14
        refine g_aloadN K 63 d8_63 rfl rfl ?_
        refine g_iconst K 64 (3 : Int32) d8_64 (by decide) ?_
        refine g_zaload K 65 (rdI xs (3 : Int32)) d8_65 A_ar (by decide) (rdI_some (by rw [hx]; exact (show (3 : Int32).toNatClampNeg < 8 from by decide))) ?_
        refine g_if_eq K 66 71 d8_66 (by decide) (by decide) ?_ ?_
        · intro c15
          exact J4_ (own_no3 H c15)
        · intro c15
          refine g_iconst K 69 (3 : Int32) d8_69 (by decide) ?_
          refine g_ireturn K 70 d8_70 rfl (by decide) (by decide) ?_
          rw [hQ]
          exact ⟨⟨_, rfl, Or.inr ⟨3, by decide, by decide, own_y1 c13, own_y2 c14, c15, H⟩⟩, rfl⟩
  have J2_ : No xs fr nn 2 → Go p l e ({ frames := 0, cells := 0, slots := 0, locals := 0 } : Room) s m #[(.ref ar), (.int fr), (.int nn)] below meth c n0 Q h0 0 0 (mkF m 35 #[.val (.ref ar), .val (.int fr), .val (.int nn)] []) := by
    intro H
    refine g_iloadN K 35 d8_35 rfl ?_
    refine g_iconst K 36 (2 : Int32) d8_36 (by decide) ?_
    refine g_ii_gt K 37 53 d8_37 (by decide) (by decide) ?_ ?_
    · intro c16
      exact J3_ (own_no1 H c16)
    · intro c16
      refine g_iconst K 40 (2 : Int32) d8_40 (by decide) ?_
      refine g_iloadN K 41 d8_41 rfl ?_
      refine g_ii_ge K 42 53 d8_42 (by decide) (by decide) ?_ ?_
      · intro c17
        exact J3_ (own_no2 H c17)
      · intro c17
        refine g_aloadN K 45 d8_45 rfl rfl ?_
        refine g_iconst K 46 (2 : Int32) d8_46 (by decide) ?_
        refine g_zaload K 47 (rdI xs (2 : Int32)) d8_47 A_ar (by decide) (rdI_some (by rw [hx]; exact (show (2 : Int32).toNatClampNeg < 8 from by decide))) ?_
        refine g_if_eq K 48 53 d8_48 (by decide) (by decide) ?_ ?_
        · intro c18
          exact J3_ (own_no3 H c18)
        · intro c18
          refine g_iconst K 51 (2 : Int32) d8_51 (by decide) ?_
          refine g_ireturn K 52 d8_52 rfl (by decide) (by decide) ?_
          rw [hQ]
          exact ⟨⟨_, rfl, Or.inr ⟨2, by decide, by decide, own_y1 c16, own_y2 c17, c18, H⟩⟩, rfl⟩
  have J1_ : No xs fr nn 1 → Go p l e ({ frames := 0, cells := 0, slots := 0, locals := 0 } : Room) s m #[(.ref ar), (.int fr), (.int nn)] below meth c n0 Q h0 0 0 (mkF m 17 #[.val (.ref ar), .val (.int fr), .val (.int nn)] []) := by
    intro H
    refine g_iloadN K 17 d8_17 rfl ?_
    refine g_iconst K 18 (1 : Int32) d8_18 (by decide) ?_
    refine g_ii_gt K 19 35 d8_19 (by decide) (by decide) ?_ ?_
    · intro c19
      exact J2_ (own_no1 H c19)
    · intro c19
      refine g_iconst K 22 (1 : Int32) d8_22 (by decide) ?_
      refine g_iloadN K 23 d8_23 rfl ?_
      refine g_ii_ge K 24 35 d8_24 (by decide) (by decide) ?_ ?_
      · intro c20
        exact J2_ (own_no2 H c20)
      · intro c20
        refine g_aloadN K 27 d8_27 rfl rfl ?_
        refine g_iconst K 28 (1 : Int32) d8_28 (by decide) ?_
        refine g_zaload K 29 (rdI xs (1 : Int32)) d8_29 A_ar (by decide) (rdI_some (by rw [hx]; exact (show (1 : Int32).toNatClampNeg < 8 from by decide))) ?_
        refine g_if_eq K 30 35 d8_30 (by decide) (by decide) ?_ ?_
        · intro c21
          exact J2_ (own_no3 H c21)
        · intro c21
          refine g_iconst K 33 (1 : Int32) d8_33 (by decide) ?_
          refine g_ireturn K 34 d8_34 rfl (by decide) (by decide) ?_
          rw [hQ]
          exact ⟨⟨_, rfl, Or.inr ⟨1, by decide, by decide, own_y1 c19, own_y2 c20, c21, H⟩⟩, rfl⟩
  have J0_ : No xs fr nn 0 → Go p l e ({ frames := 0, cells := 0, slots := 0, locals := 0 } : Room) s m #[(.ref ar), (.int fr), (.int nn)] below meth c n0 Q h0 0 0 (mkF m 0 #[.val (.ref ar), .val (.int fr), .val (.int nn)] []) := by
    intro H
    refine g_iloadN K 0 d8_0 rfl ?_
    refine g_if_gt K 1 17 d8_1 (by decide) (by decide) ?_ ?_
    · intro c22
      exact J1_ (own_no1 H c22)
    · intro c22
      refine g_iconst K 4 (0 : Int32) d8_4 (by decide) ?_
      refine g_iloadN K 5 d8_5 rfl ?_
      refine g_ii_ge K 6 17 d8_6 (by decide) (by decide) ?_ ?_
      · intro c23
        exact J1_ (own_no2 H c23)
      · intro c23
        refine g_aloadN K 9 d8_9 rfl rfl ?_
        refine g_iconst K 10 (0 : Int32) d8_10 (by decide) ?_
        refine g_zaload K 11 (rdI xs (0 : Int32)) d8_11 A_ar (by decide) (rdI_some (by rw [hx]; exact (show (0 : Int32).toNatClampNeg < 8 from by decide))) ?_
        refine g_if_eq K 12 17 d8_12 (by decide) (by decide) ?_ ?_
        · intro c24
          exact J1_ (own_no3 H c24)
        · intro c24
          refine g_iconst K 15 (0 : Int32) d8_15 (by decide) ?_
          refine g_ireturn K 16 d8_16 rfl (by decide) (by decide) ?_
          rw [hQ]
          exact ⟨⟨_, rfl, Or.inr ⟨0, by decide, by decide, own_y1 c22, own_y2 c23, c24, H⟩⟩, rfl⟩
  exact J0_ (fun j hj => absurd hj (Nat.not_lt_zero _))
theorem own_en {p v n : Int32} (h : (1 : Int32) + ((p &&& (255 : Int32)) % (3 : Int32)) = v) (hn : n = (if v = (1 : Int32) then (2 : Int32) else (if v = (2 : Int32) then (4 : Int32) else (8 : Int32)))) : ((1 : Int32) <<< (v &&& 31)) = n := by
  have hd := own_d h
  obtain ⟨k, rfl⟩ := own_small v 4 (by decide) (by omega)
  subst hn
  have : ∀ k : Fin 4, 1 ≤ (Int32.ofNat k.val).toInt → ((1 : Int32) <<< (Int32.ofNat k.val &&& 31)) = (if Int32.ofNat k.val = (1 : Int32) then (2 : Int32) else (if Int32.ofNat k.val = (2 : Int32) then (4 : Int32) else (8 : Int32))) := by decide +kernel
  exact this k hd.1
theorem own_ff {p v n f : Int32} (h : n = (if v = (1 : Int32) then (2 : Int32) else (if v = (2 : Int32) then (4 : Int32) else (8 : Int32)))) (hf : (((XT.ushr p (8 : Int32)) &&& (8388607 : Int32)) % (n + (1 : Int32))) = f) : f.toInt ≤ n.toInt := by
  have hm := c_mask (XT.ushr p 8) 8388607 23 (by decide) (by decide)
  have hn : n = 2 ∨ n = 4 ∨ n = 8 := by
    subst h; split
    · left; rfl
    · split
      · right; left; rfl
      · right; right; rfl
  rcases hn with e | e | e
  · subst e
    have hw := (c_irem (XT.ushr p 8 &&& 8388607) ((2 : Int32) + 1) 3 (by decide)).1 (by omega)
    rw [hf] at hw; rw [show (2 : Int32).toInt = 2 from by decide]; omega
  · subst e
    have hw := (c_irem (XT.ushr p 8 &&& 8388607) ((4 : Int32) + 1) 5 (by decide)).1 (by omega)
    rw [hf] at hw; rw [show (4 : Int32).toInt = 4 from by decide]; omega
  · subst e
    have hw := (c_irem (XT.ushr p 8 &&& 8388607) ((8 : Int32) + 1) 9 (by decide)).1 (by omega)
    rw [hf] at hw; rw [show (8 : Int32).toInt = 8 from by decide]; omega
theorem own_lo (x : Int64) (j : Nat) (hj : j < 32) : x.toInt32.toBitVec.getLsbD j = x.toBitVec.getLsbD j := by
  rw [Int64.toBitVec_toInt32, BitVec.getLsbD_signExtend, decide_eq_true hj, if_pos (by omega), Bool.true_and]
theorem own_up (x : Int64) (j : Nat) (hj : j < 32) : (XT.ushrL x (32 : Int32)).toInt32.toBitVec.getLsbD j = x.toBitVec.getLsbD (32 + j) := by
  rw [own_lo _ _ hj, bv_lushr, show (32 : Int32).toBitVec.toNat % 64 = 32 from by decide, BitVec.getLsbD_ushiftRight]
theorem own_sup (x : Int64) : (x >>> ((32 : Int32).toInt64 &&& 63)).toInt32 = (XT.ushrL x (32 : Int32)).toInt32 := by
  apply Int32.toBitVec_inj.mp
  apply BitVec.eq_of_getLsbD_eq
  intro j hj
  rw [own_up x j hj, own_lo _ _ hj, bv_lshr, show (32 : Int32).toBitVec.toNat % 64 = 32 from by decide, BitVec.getLsbD_sshiftRight, show decide (64 ≤ j) = false from decide_eq_false (by omega), if_pos (by omega)]; rfl
theorem own_zero (x : Int64) : x = 0 ↔ x.toInt32 = 0 ∧ (XT.ushrL x (32 : Int32)).toInt32 = 0 := by
  constructor
  · intro h; subst h; decide
  · rintro ⟨h1, h2⟩
    apply Int64.toBitVec_inj.mp
    apply BitVec.eq_of_getLsbD_eq
    intro K hK
    show _ = (0#64).getLsbD K
    rw [BitVec.getLsbD_zero]
    by_cases c : K < 32
    · rw [← own_lo x K c, h1]; show (0#32).getLsbD K = false; simp
    · have := own_up x (K - 32) (by omega)
      rw [h2, show 32 + (K - 32) = K from by omega] at this
      rw [← this]; show (0#32).getLsbD _ = false; simp
theorem own_mlo (m : Int64) (b : Bool) (hm : ∀ K, K < 32 → m.toBitVec.getLsbD K = b) (x : Int64) : (x &&& m).toInt32 = if b then x.toInt32 else 0 := by
  apply Int32.toBitVec_inj.mp
  apply BitVec.eq_of_getLsbD_eq
  intro j hj
  rw [own_lo _ _ hj, Int64.toBitVec_and, BitVec.getLsbD_and, hm j hj]
  cases b
  · rw [Bool.and_false]; show _ = (0#32).getLsbD j; simp
  · rw [Bool.and_true, if_pos rfl, own_lo _ _ hj]
theorem own_mhi (m : Int64) (b : Bool) (hm : ∀ K, K < 32 → m.toBitVec.getLsbD (32 + K) = b) (x : Int64) : (XT.ushrL (x &&& m) (32 : Int32)).toInt32 = if b then (XT.ushrL x (32 : Int32)).toInt32 else 0 := by
  apply Int32.toBitVec_inj.mp
  apply BitVec.eq_of_getLsbD_eq
  intro j hj
  rw [own_up _ _ hj, Int64.toBitVec_and, BitVec.getLsbD_and, hm j hj]
  cases b
  · rw [Bool.and_false]; show _ = (0#32).getLsbD j; simp
  · rw [Bool.and_true, if_pos rfl, own_up _ _ hj]
theorem own_bits (m : Int64) (b0 b1 : Bool) (h : ∀ K : Fin 32, m.toBitVec.getLsbD K.val = b0 ∧ m.toBitVec.getLsbD (32 + K.val) = b1) : (∀ K, K < 32 → m.toBitVec.getLsbD K = b0) ∧ (∀ K, K < 32 → m.toBitVec.getLsbD (32 + K) = b1) :=
  ⟨fun K hK => (h ⟨K, hK⟩).1, fun K hK => (h ⟨K, hK⟩).2⟩
theorem own_keep (x : Int64) (zz ix : Int32) : ((f_keep x zz ix).toInt32 = if ((XT.ushr zz ((2 : Int32) * ix)) &&& (1 : Int32)) = 0 then x.toInt32 else 0) ∧ ((XT.ushrL (f_keep x zz ix) (32 : Int32)).toInt32 = if ((XT.ushr zz (((2 : Int32) * ix) + (1 : Int32))) &&& (1 : Int32)) = 0 then (XT.ushrL x (32 : Int32)).toInt32 else 0) := by
  unfold f_keep
  have m1 := own_bits (-1) true true (by decide +kernel)
  have m2 := own_bits ((-1 : Int64) &&& (-4294967296 : Int64)) false true (by decide +kernel)
  have m3 := own_bits ((-1 : Int64) &&& (4294967295 : Int64)) true false (by decide +kernel)
  have m4 := own_bits (((-1 : Int64) &&& (-4294967296 : Int64)) &&& (4294967295 : Int64)) false false (by decide +kernel)
  by_cases c1 : ((XT.ushr zz (((2 : Int32) * ix) + (1 : Int32))) &&& (1 : Int32)) = 0
  · by_cases c0 : ((XT.ushr zz ((2 : Int32) * ix)) &&& (1 : Int32)) = 0
    · rw [if_pos c1, if_pos c0, if_pos c0, if_pos c1]; exact ⟨own_mlo _ _ m1.1 x, own_mhi _ _ m1.2 x⟩
    · rw [if_pos c1, if_neg c0, if_neg c0, if_pos c1]; exact ⟨own_mlo _ _ m2.1 x, own_mhi _ _ m2.2 x⟩
  · by_cases c0 : ((XT.ushr zz ((2 : Int32) * ix)) &&& (1 : Int32)) = 0
    · rw [if_neg c1, if_pos c0, if_pos c0, if_neg c1]; exact ⟨own_mlo _ _ m3.1 x, own_mhi _ _ m3.2 x⟩
    · rw [if_neg c1, if_neg c0, if_neg c0, if_neg c1]; exact ⟨own_mlo _ _ m4.1 x, own_mhi _ _ m4.2 x⟩
/-- one bit of the mask, two ways -/
theorem own_mb (p s m : Int32) (j : Nat) (hj : j < 32) (hs : s.toBitVec.toNat % 32 = j) (hm : ∀ K : Fin 32, m.toBitVec.getLsbD K.val = decide (K.val = j)) : ((XT.ushr p s) &&& (1 : Int32)) = 0 ↔ (p &&& m) = 0 := by
  have a1 : (p &&& m) = 0 ↔ p.toBitVec.getLsbD j = false := by
    constructor
    · intro h
      have := congrArg (fun x : Int32 => x.toBitVec.getLsbD j) h
      simp only [Int32.toBitVec_and, BitVec.getLsbD_and] at this
      rw [hm ⟨j, hj⟩] at this
      simpa using this
    · intro h
      apply Int32.toBitVec_inj.mp
      apply BitVec.eq_of_getLsbD_eq
      intro K hK
      rw [Int32.toBitVec_and, BitVec.getLsbD_and, hm ⟨K, hK⟩]
      show _ = (0#32).getLsbD K
      by_cases e : K = j
      · subst e; rw [h]; simp
      · rw [decide_eq_false e]; simp
  have a2 : ((XT.ushr p s) &&& (1 : Int32)) = 0 ↔ p.toBitVec.getLsbD j = false := by
    have hb : ∀ K, ((XT.ushr p s) &&& (1 : Int32)).toBitVec.getLsbD K = (p.toBitVec.getLsbD (j + K) && decide (K = 0)) := by
      intro K
      rw [Int32.toBitVec_and, BitVec.getLsbD_and, bv_iushr, hs, BitVec.getLsbD_ushiftRight]
      congr 1
      show (1#32).getLsbD K = _
      rw [BitVec.getLsbD_one]; simp
    constructor
    · intro h
      have := hb 0
      rw [h] at this
      simpa using this.symm
    · intro h
      apply Int32.toBitVec_inj.mp
      apply BitVec.eq_of_getLsbD_eq
      intro K hK
      rw [hb K]
      show _ = (0#32).getLsbD K
      by_cases e : K = 0
      · subst e; rw [Nat.add_zero, h]; simp
      · rw [decide_eq_false e]; simp
  rw [a1, a2]
theorem own_occ (ds : List Int64) (en : Int32) (e : Nat) (O : Nat → Prop) (he : en.toInt = e) (he2 : e = 2 ∨ e = 4 ∨ e = 8)
    (h0 : ∀ k : Nat, k < 8 → (rd ds ((1 : Int32) + (XT.ushr (Int32.ofNat k) (1 : Int32))) = 0 ↔ ¬ O (2 * (k / 2)) ∧ ¬ O (2 * (k / 2) + 1)))
    (h1 : ∀ k : Nat, k < 8 → (((XT.ushrL (rd ds ((1 : Int32) + (XT.ushr (Int32.ofNat k) (1 : Int32)))) ((Int32.ofNat k &&& (1 : Int32)) <<< ((5 : Int32) &&& 31))).toInt32) = 0 ↔ ¬ O k)) (d : Nat) :
    ∀ k : Nat, k ≤ e → e < k + d → ∃ r : Nat, (occ ds en d (Int32.ofNat k)).toInt = r ∧ k ≤ r ∧ r ≤ e ∧ (∀ j, k ≤ j → j < r → ¬ O j) ∧ (r < e → O r) := by
  induction d with
  | zero => intro k hk hd; omega
  | succ d ih =>
    intro k hk hd
    have hki : (Int32.ofNat k).toInt = k := Int32.toInt_ofNat_of_lt (by omega)
    by_cases c : k < e
    · have c' : Int32.ofNat k < en := by rw [Int32.lt_iff_toInt_lt, hki, he]; omega
      have k8 : k < 8 := by omega
      have e1 : (Int32.ofNat k ||| (1 : Int32)) + (1 : Int32) = Int32.ofNat (2 * (k / 2) + 2) := by
        have : ∀ k : Fin 8, (Int32.ofNat k.val ||| (1 : Int32)) + (1 : Int32) = Int32.ofNat (2 * (k.val / 2) + 2) := by decide +kernel
        exact this ⟨k, k8⟩
      have e2 : Int32.ofNat k + (1 : Int32) = Int32.ofNat (k + 1) := by
        have : ∀ k : Fin 8, Int32.ofNat k.val + (1 : Int32) = Int32.ofNat (k.val + 1) := by decide +kernel
        exact this ⟨k, k8⟩
      unfold occ
      rw [if_pos c']
      by_cases w : rd ds ((1 : Int32) + (XT.ushr (Int32.ofNat k) (1 : Int32))) = 0
      · rw [if_pos w, e1]
        obtain ⟨r, a1, a2, a3, a4, a5⟩ := ih (2 * (k / 2) + 2) (by omega) (by omega)
        have hw := (h0 k k8).mp w
        refine ⟨r, a1, by omega, a3, fun j hj1 hj2 => ?_, a5⟩
        by_cases q : 2 * (k / 2) + 2 ≤ j
        · exact a4 j q hj2
        · rcases (by omega : j = 2 * (k / 2) ∨ j = 2 * (k / 2) + 1) with q1 | q1
          · rw [q1]; exact hw.1
          · rw [q1]; exact hw.2
      · rw [if_neg w]
        by_cases v : ((XT.ushrL (rd ds ((1 : Int32) + (XT.ushr (Int32.ofNat k) (1 : Int32)))) ((Int32.ofNat k &&& (1 : Int32)) <<< ((5 : Int32) &&& 31))).toInt32) = 0
        · rw [if_pos v, e2]
          obtain ⟨r, a1, a2, a3, a4, a5⟩ := ih (k + 1) (by omega) (by omega)
          refine ⟨r, a1, by omega, a3, fun j hj1 hj2 => ?_, a5⟩
          by_cases q : j = k
          · rw [q]; exact (h1 k k8).mp v
          · exact a4 j (by omega) hj2
        · rw [if_neg v]
          exact ⟨k, hki, Nat.le_refl _, hk, fun j a b => by omega, fun _ => Classical.byContradiction fun q => v ((h1 k k8).mpr q)⟩
    · have c' : ¬ Int32.ofNat k < en := by rw [Int32.lt_iff_toInt_lt, hki, he]; omega
      unfold occ
      rw [if_neg c']
      exact ⟨e, he, hk, Nat.le_refl _, fun j a b => by omega, fun q => absurd q (Nat.lt_irrefl _)⟩
theorem own_bo (P Q : Prop) [Decidable P] [Decidable Q] : (nar .boolean (if P then (if Q then (0 : Int32) else (1 : Int32)) else (0 : Int32)) = 0) ↔ ¬ (P ∧ ¬ Q) := by
  by_cases p : P
  · by_cases q : Q
    · simp [p, q]; decide
    · simp [p, q]; decide
  · simp [p]; decide

theorem own_main (p0 p1 v n f r : Int32) (q2 q3 q4 q5 : Int64) (b0 b1 b2 b3 b4 b5 b6 b7 : Int32) (hv : (1 : Int32) + ((p0 &&& (255 : Int32)) % (3 : Int32)) = v) (hn : n = (if v = (1 : Int32) then (2 : Int32) else (if v = (2 : Int32) then (4 : Int32) else (8 : Int32)))) (hf : (((XT.ushr p0 (8 : Int32)) &&& (8388607 : Int32)) % (n + (1 : Int32))) = f) (hb0 : b0 = (if (p1 &&& (1 : Int32)) = 0 then (if q2.toInt32 = 0 then (0 : Int32) else (1 : Int32)) else (0 : Int32))) (hb1 : b1 = (if (p1 &&& (2 : Int32)) = 0 then (if (q2 >>> ((32 : Int32).toInt64 &&& 63)).toInt32 = 0 then (0 : Int32) else (1 : Int32)) else (0 : Int32))) (hb2 : b2 = (if (p1 &&& (4 : Int32)) = 0 then (if q3.toInt32 = 0 then (0 : Int32) else (1 : Int32)) else (0 : Int32))) (hb3 : b3 = (if (p1 &&& (8 : Int32)) = 0 then (if (q3 >>> ((32 : Int32).toInt64 &&& 63)).toInt32 = 0 then (0 : Int32) else (1 : Int32)) else (0 : Int32))) (hb4 : b4 = (if (p1 &&& (16 : Int32)) = 0 then (if q4.toInt32 = 0 then (0 : Int32) else (1 : Int32)) else (0 : Int32))) (hb5 : b5 = (if (p1 &&& (32 : Int32)) = 0 then (if (q4 >>> ((32 : Int32).toInt64 &&& 63)).toInt32 = 0 then (0 : Int32) else (1 : Int32)) else (0 : Int32))) (hb6 : b6 = (if (p1 &&& (64 : Int32)) = 0 then (if q5.toInt32 = 0 then (0 : Int32) else (1 : Int32)) else (0 : Int32))) (hb7 : b7 = (if (p1 &&& (128 : Int32)) = 0 then (if (q5 >>> ((32 : Int32).toInt64 &&& 63)).toInt32 = 0 then (0 : Int32) else (1 : Int32)) else (0 : Int32))) (hEx : Ex [nar .boolean b0, nar .boolean b1, nar .boolean b2, nar .boolean b3, nar .boolean b4, nar .boolean b5, nar .boolean b6, nar .boolean b7] f n r) : occ [(0 : Int64), (f_keep q2 p1 (0 : Int32)), (f_keep q3 p1 (1 : Int32)), (f_keep q4 p1 (2 : Int32)), (f_keep q5 p1 (3 : Int32))] ((1 : Int32) <<< (v &&& 31)) 9 f = r := by
  rw [own_en hv hn]
  have hnv := own_nv hn
  have hf0 := own_f hn hf
  have hff := own_ff hn hf
  have K0 := own_keep q2 p1 (0 : Int32)
  have Lo0 : (f_keep q2 p1 (0 : Int32)).toInt32 = 0 ↔ nar .boolean b0 = 0 := by
    rw [hb0, own_bo, K0.1, ← own_mb p1 ((2 : Int32) * (0 : Int32)) (1 : Int32) 0 (by decide) (by decide) (by decide +kernel)]
    by_cases c : (XT.ushr p1 ((2 : Int32) * (0 : Int32)) &&& (1 : Int32)) = 0
    · rw [if_pos c]; exact ⟨fun h w => w.2 h, fun h => Classical.byContradiction fun w => h ⟨c, w⟩⟩
    · rw [if_neg c]; exact ⟨fun _ w => c w.1, fun _ => rfl⟩
  have Hi0 : (XT.ushrL (f_keep q2 p1 (0 : Int32)) (32 : Int32)).toInt32 = 0 ↔ nar .boolean b1 = 0 := by
    rw [hb1, own_bo, K0.2, own_sup, ← own_mb p1 (((2 : Int32) * (0 : Int32)) + (1 : Int32)) (2 : Int32) 1 (by decide) (by decide) (by decide +kernel)]
    by_cases c : (XT.ushr p1 (((2 : Int32) * (0 : Int32)) + (1 : Int32)) &&& (1 : Int32)) = 0
    · rw [if_pos c]; exact ⟨fun h w => w.2 h, fun h => Classical.byContradiction fun w => h ⟨c, w⟩⟩
    · rw [if_neg c]; exact ⟨fun _ w => c w.1, fun _ => rfl⟩
  have K1 := own_keep q3 p1 (1 : Int32)
  have Lo1 : (f_keep q3 p1 (1 : Int32)).toInt32 = 0 ↔ nar .boolean b2 = 0 := by
    rw [hb2, own_bo, K1.1, ← own_mb p1 ((2 : Int32) * (1 : Int32)) (4 : Int32) 2 (by decide) (by decide) (by decide +kernel)]
    by_cases c : (XT.ushr p1 ((2 : Int32) * (1 : Int32)) &&& (1 : Int32)) = 0
    · rw [if_pos c]; exact ⟨fun h w => w.2 h, fun h => Classical.byContradiction fun w => h ⟨c, w⟩⟩
    · rw [if_neg c]; exact ⟨fun _ w => c w.1, fun _ => rfl⟩
  have Hi1 : (XT.ushrL (f_keep q3 p1 (1 : Int32)) (32 : Int32)).toInt32 = 0 ↔ nar .boolean b3 = 0 := by
    rw [hb3, own_bo, K1.2, own_sup, ← own_mb p1 (((2 : Int32) * (1 : Int32)) + (1 : Int32)) (8 : Int32) 3 (by decide) (by decide) (by decide +kernel)]
    by_cases c : (XT.ushr p1 (((2 : Int32) * (1 : Int32)) + (1 : Int32)) &&& (1 : Int32)) = 0
    · rw [if_pos c]; exact ⟨fun h w => w.2 h, fun h => Classical.byContradiction fun w => h ⟨c, w⟩⟩
    · rw [if_neg c]; exact ⟨fun _ w => c w.1, fun _ => rfl⟩
  have K2 := own_keep q4 p1 (2 : Int32)
  have Lo2 : (f_keep q4 p1 (2 : Int32)).toInt32 = 0 ↔ nar .boolean b4 = 0 := by
    rw [hb4, own_bo, K2.1, ← own_mb p1 ((2 : Int32) * (2 : Int32)) (16 : Int32) 4 (by decide) (by decide) (by decide +kernel)]
    by_cases c : (XT.ushr p1 ((2 : Int32) * (2 : Int32)) &&& (1 : Int32)) = 0
    · rw [if_pos c]; exact ⟨fun h w => w.2 h, fun h => Classical.byContradiction fun w => h ⟨c, w⟩⟩
    · rw [if_neg c]; exact ⟨fun _ w => c w.1, fun _ => rfl⟩
  have Hi2 : (XT.ushrL (f_keep q4 p1 (2 : Int32)) (32 : Int32)).toInt32 = 0 ↔ nar .boolean b5 = 0 := by
    rw [hb5, own_bo, K2.2, own_sup, ← own_mb p1 (((2 : Int32) * (2 : Int32)) + (1 : Int32)) (32 : Int32) 5 (by decide) (by decide) (by decide +kernel)]
    by_cases c : (XT.ushr p1 (((2 : Int32) * (2 : Int32)) + (1 : Int32)) &&& (1 : Int32)) = 0
    · rw [if_pos c]; exact ⟨fun h w => w.2 h, fun h => Classical.byContradiction fun w => h ⟨c, w⟩⟩
    · rw [if_neg c]; exact ⟨fun _ w => c w.1, fun _ => rfl⟩
  have K3 := own_keep q5 p1 (3 : Int32)
  have Lo3 : (f_keep q5 p1 (3 : Int32)).toInt32 = 0 ↔ nar .boolean b6 = 0 := by
    rw [hb6, own_bo, K3.1, ← own_mb p1 ((2 : Int32) * (3 : Int32)) (64 : Int32) 6 (by decide) (by decide) (by decide +kernel)]
    by_cases c : (XT.ushr p1 ((2 : Int32) * (3 : Int32)) &&& (1 : Int32)) = 0
    · rw [if_pos c]; exact ⟨fun h w => w.2 h, fun h => Classical.byContradiction fun w => h ⟨c, w⟩⟩
    · rw [if_neg c]; exact ⟨fun _ w => c w.1, fun _ => rfl⟩
  have Hi3 : (XT.ushrL (f_keep q5 p1 (3 : Int32)) (32 : Int32)).toInt32 = 0 ↔ nar .boolean b7 = 0 := by
    rw [hb7, own_bo, K3.2, own_sup, ← own_mb p1 (((2 : Int32) * (3 : Int32)) + (1 : Int32)) (128 : Int32) 7 (by decide) (by decide) (by decide +kernel)]
    by_cases c : (XT.ushr p1 (((2 : Int32) * (3 : Int32)) + (1 : Int32)) &&& (1 : Int32)) = 0
    · rw [if_pos c]; exact ⟨fun h w => w.2 h, fun h => Classical.byContradiction fun w => h ⟨c, w⟩⟩
    · rw [if_neg c]; exact ⟨fun _ w => c w.1, fun _ => rfl⟩
  clear K0 K1 K2 K3 hb0 hb1 hb2 hb3 hb4 hb5 hb6 hb7
  generalize f_keep q2 p1 (0 : Int32) = W0 at *
  generalize f_keep q3 p1 (1 : Int32) = W1 at *
  generalize f_keep q4 p1 (2 : Int32) = W2 at *
  generalize f_keep q5 p1 (3 : Int32) = W3 at *
  generalize nar .boolean b0 = c0 at *
  generalize nar .boolean b1 = c1 at *
  generalize nar .boolean b2 = c2 at *
  generalize nar .boolean b3 = c3 at *
  generalize nar .boolean b4 = c4 at *
  generalize nar .boolean b5 = c5 at *
  generalize nar .boolean b6 = c6 at *
  generalize nar .boolean b7 = c7 at *
  have RI : ∀ k : Nat, k < 8 → rdI [c0, c1, c2, c3, c4, c5, c6, c7] (Int32.ofNat k) = [c0, c1, c2, c3, c4, c5, c6, c7].getD k 0 := by
    intro k hk; unfold rdI; congr 1; exact Int32.toNatClampNeg_ofNat_of_lt (by omega)
  have RD : ∀ k : Nat, k < 8 → rd [(0 : Int64), W0, W1, W2, W3] ((1 : Int32) + (XT.ushr (Int32.ofNat k) (1 : Int32))) = [(0 : Int64), W0, W1, W2, W3].getD (1 + k / 2) 0 := by
    intro k hk; unfold rd; congr 1
    have : ∀ k : Fin 8, ((1 : Int32) + (XT.ushr (Int32.ofNat k.val) (1 : Int32))).toNatClampNeg = 1 + k.val / 2 := by decide +kernel
    exact this ⟨k, hk⟩
  have SH : ∀ k : Nat, k < 8 → (Int32.ofNat k &&& (1 : Int32)) <<< ((5 : Int32) &&& 31) = if k % 2 = 0 then (0 : Int32) else (32 : Int32) := by
    intro k hk
    have : ∀ k : Fin 8, (Int32.ofNat k.val &&& (1 : Int32)) <<< ((5 : Int32) &&& 31) = if k.val % 2 = 0 then (0 : Int32) else (32 : Int32) := by decide +kernel
    exact this ⟨k, hk⟩
  have U0 : ∀ x : Int64, XT.ushrL x (0 : Int32) = x := fun x => by apply Int64.toBitVec_inj.mp; rw [bv_lushr]; simp
  obtain ⟨e, hne, he2⟩ : ∃ e : Nat, n.toInt = e ∧ (e = 2 ∨ e = 4 ∨ e = 8) := ⟨n.toInt.toNat, by omega, by omega⟩
  have h0 : ∀ k : Nat, k < 8 → (rd [(0 : Int64), W0, W1, W2, W3] ((1 : Int32) + (XT.ushr (Int32.ofNat k) (1 : Int32))) = 0 ↔ ¬ ¬ rdI [c0, c1, c2, c3, c4, c5, c6, c7] (Int32.ofNat (2 * (k / 2))) = 0 ∧ ¬ ¬ rdI [c0, c1, c2, c3, c4, c5, c6, c7] (Int32.ofNat (2 * (k / 2) + 1)) = 0) := by
    intro k hk
    rw [RD k hk, RI _ (by omega), RI _ (by omega), Classical.not_not, Classical.not_not, own_zero]
    rcases (by omega : k = 0 ∨ k = 1 ∨ k = 2 ∨ k = 3 ∨ k = 4 ∨ k = 5 ∨ k = 6 ∨ k = 7) with rfl | rfl | rfl | rfl | rfl | rfl | rfl | rfl
    · exact and_congr Lo0 Hi0
    · exact and_congr Lo0 Hi0
    · exact and_congr Lo1 Hi1
    · exact and_congr Lo1 Hi1
    · exact and_congr Lo2 Hi2
    · exact and_congr Lo2 Hi2
    · exact and_congr Lo3 Hi3
    · exact and_congr Lo3 Hi3
  have h1 : ∀ k : Nat, k < 8 → (((XT.ushrL (rd [(0 : Int64), W0, W1, W2, W3] ((1 : Int32) + (XT.ushr (Int32.ofNat k) (1 : Int32)))) ((Int32.ofNat k &&& (1 : Int32)) <<< ((5 : Int32) &&& 31))).toInt32) = 0 ↔ ¬ ¬ rdI [c0, c1, c2, c3, c4, c5, c6, c7] (Int32.ofNat k) = 0) := by
    intro k hk
    rw [RD k hk, RI _ hk, Classical.not_not, SH k hk]
    rcases (by omega : k = 0 ∨ k = 1 ∨ k = 2 ∨ k = 3 ∨ k = 4 ∨ k = 5 ∨ k = 6 ∨ k = 7) with rfl | rfl | rfl | rfl | rfl | rfl | rfl | rfl
    · rw [if_pos (by decide), U0]; exact Lo0
    · rw [if_neg (by decide)]; exact Hi0
    · rw [if_pos (by decide), U0]; exact Lo1
    · rw [if_neg (by decide)]; exact Hi1
    · rw [if_pos (by decide), U0]; exact Lo2
    · rw [if_neg (by decide)]; exact Hi2
    · rw [if_pos (by decide), U0]; exact Lo3
    · rw [if_neg (by decide)]; exact Hi3
  obtain ⟨kf, hkf⟩ := own_small f 9 (by decide) (by omega)
  have hfi : f.toInt = kf.val := by rw [hkf]; exact Int32.toInt_ofNat_of_lt (by have := kf.isLt; omega)
  obtain ⟨r', a1, a2, a3, a4, a5⟩ := own_occ [(0 : Int64), W0, W1, W2, W3] n e (fun j => ¬ rdI [c0, c1, c2, c3, c4, c5, c6, c7] (Int32.ofNat j) = 0) hne he2 h0 h1 9 kf.val (by omega) (by omega)
  rw [hkf]
  apply Int32.toInt_inj.mp
  rw [a1]
  rcases hEx with ⟨x1, x2⟩ | ⟨k, y1, y2, y3, y4, y5, y6⟩
  · rw [x1, hne]
    by_cases q : r' < e
    · exact absurd ⟨by omega, by omega, a5 q⟩ (x2 r' (by omega))
    · omega
  · rw [y2]
    by_cases q : r' < k
    · exact absurd ⟨by omega, by omega, a5 (by omega)⟩ (y6 r' q)
    · by_cases q2 : k < r'
      · exact absurd y5 (a4 k (by omega) q2)
      · omega
set_option maxRecDepth 65536 in
set_option maxHeartbeats 40000000 in
theorem rm_law (l : Launch) (Z : State) (a0 : Array Value) (hw : ∀ d ∈ tables_1, d.before a0 Z = true) (p0 : Int32) (p1 : Int32) (q2 : Int64) (q3 : Int64) (q4 : Int64) (q5 : Int64) (h0 : Heap) (n0 : Nat) (Z0 : n0 ≤ h0.size)  :
    Meets l x code maxLocals ret room_1 Z #[(.int p0), (.int p1), (.long q2), (.long q3), (.long q4), (.long q5)] h0 n0 (fun v h => v = some (Value.int 1)) := by
  refine meets_of (plainFor_of_name pn0) (Ls := #[.val (.int p0), .val (.int p1), .val (.long q2), .second, .val (.long q3), .second, .val (.long q4), .second, .val (.long q5), .second, .unset, .unset, .unset, .unset, .unset, .unset, .unset]) (fun m => by first | (simp [entryFrame, mkF, argsToLocals, Value.category, maxLocals]; done) | rfl) ?_
  intro p e s m below meth c K
  replace K : Kx Z "com/example/zedcube/zedcube/engine/NodesOccupiedAddressFromPinLaw" "law" code maxLocals ret p s m meth c := K
  obtain ⟨Q, hQ⟩ : ∃ Q : Option Value → Heap → Prop, Q = (fun v h => v = some (Value.int 1)) := ⟨_, rfl⟩
  rw [← hQ]
  refine g_iconst K 0 (1 : Int32) at_0 (by decide) ?_
  refine g_iloadN K 1 at_1 rfl ?_
  refine g_sipush K 2 (255 : Int32) at_2 (by decide) ?_
  refine g_iand K 5 at_5 ?_
  refine g_iconst K 6 (3 : Int32) at_6 (by decide) ?_
  refine g_irem K 7 at_7 (by decide) ?_
  refine g_iadd K 8 at_8 ?_
  generalize hv1 : ((1 : Int32) + ((p0 &&& (255 : Int32)) % (3 : Int32))) = v1
  refine g_istore K 9 #[.val (.int p0), .val (.int p1), .val (.long q2), .second, .val (.long q3), .second, .val (.long q4), .second, .val (.long q5), .second, .val (.int v1), .unset, .unset, .unset, .unset, .unset, .unset] at_9 rfl ?_
  refine g_iload K 11 at_11 rfl ?_
  refine g_iconst K 13 (1 : Int32) at_13 (by decide) ?_
  have J3 : ∀ (z2 : Int32), z2 = (if v1 = (1 : Int32) then (2 : Int32) else (if v1 = (2 : Int32) then (4 : Int32) else (8 : Int32))) → Go p l e room_1 s m #[(.int p0), (.int p1), (.long q2), (.long q3), (.long q4), (.long q5)] below meth c n0 Q h0 0 0 (mkF m 33 #[.val (.int p0), .val (.int p1), .val (.long q2), .second, .val (.long q3), .second, .val (.long q4), .second, .val (.long q5), .second, .val (.int v1), .unset, .unset, .unset, .unset, .unset, .unset] [(.int z2)]) := by
    intro z2 hz2
    refine g_istore K 33 #[.val (.int p0), .val (.int p1), .val (.long q2), .second, .val (.long q3), .second, .val (.long q4), .second, .val (.long q5), .second, .val (.int v1), .val (.int z2), .unset, .unset, .unset, .unset, .unset] at_33 rfl ?_
    refine g_iloadN K 35 at_35 rfl ?_
    refine g_bipush K 36 (8 : Int32) at_36 (by decide) ?_
    refine g_iushr K 38 at_38 ?_
    refine g_ldc K 39 (v := (8388607 : Int32)) at_39 (tw hw 0 rfl) ?_
    refine g_iand K 41 at_41 ?_
    refine g_iload K 42 at_42 rfl ?_
    refine g_iconst K 44 (1 : Int32) at_44 (by decide) ?_
    refine g_iadd K 45 at_45 ?_
    refine g_irem K 46 at_46 (own_n1 hz2) ?_
    generalize hv4 : (((XT.ushr p0 (8 : Int32)) &&& (8388607 : Int32)) % (z2 + (1 : Int32))) = v4
    refine g_istore K 47 #[.val (.int p0), .val (.int p1), .val (.long q2), .second, .val (.long q3), .second, .val (.long q4), .second, .val (.long q5), .second, .val (.int v1), .val (.int z2), .val (.int v4), .unset, .unset, .unset, .unset] at_47 rfl ?_
    refine g_iconst K 49 (5 : Int32) at_49 (by decide) ?_
    refine g_newJ K 50 at_50 (tw hw 1 rfl) (by decide) 5 (by decide) (by decide) (by decide) (by decide) ?_
    intro h6 a5 eq9 Kp7 A8
    have g10 : n0 ≤ a5 := eq9 ▸ Z0
    have Z11 := Nat.le_trans Z0 Kp7.1
    have A12 : LA Z h6 a5 [0, 0, 0, 0, 0] := (by have q := A8; rw [show (5 : Int32).toNatClampNeg = 5 from by decide] at q; exact q)
    refine g_astore K 52 #[.val (.int p0), .val (.int p1), .val (.long q2), .second, .val (.long q3), .second, .val (.long q4), .second, .val (.long q5), .second, .val (.int v1), .val (.int z2), .val (.int v4), .val (.ref a5), .unset, .unset, .unset] at_52 rfl rfl ?_
    refine g_aload K 54 at_54 rfl rfl ?_
    refine g_iconst K 56 (0 : Int32) at_56 (by decide) ?_
    refine g_lconst K 57 (0 : Int64) at_57 (by decide) ?_
    refine g_lastore K 58 at_58 A12 (by decide) (show (0 : Int32).toNatClampNeg < 5 from by decide) g10 ?_
    intro h13 Kp14 A15
    have Z16 := Nat.le_trans Z11 Kp14.1
    have A17 : LA Z h13 a5 [(0 : Int64), 0, 0, 0, 0] := (by have q := A15; rw [show (0 : Int32).toNatClampNeg = 0 from by decide] at q; exact q)
    refine g_aload K 59 at_59 rfl rfl ?_
    refine g_iconst K 61 (1 : Int32) at_61 (by decide) ?_
    refine g_lloadN K 62 at_62 rfl ?_
    refine g_iloadN K 63 at_63 rfl ?_
    refine g_iconst K 64 (0 : Int32) at_64 (by decide) ?_
    refine g_callS K 65 [(.long q2), (.int p1), (.int (0 : Int32))] 2 at_65 (rm_keep l Z a0 hw q2 p1 (0 : Int32) h13 n0 Z16  ) (tw hw 2 rfl) (tw hw 3 rfl) (tw hw 4 rfl) (tw hw 5 rfl) (by decide) pd0 rfl (st := [(.int (1 : Int32)), (.ref a5)]) rfl (Nat.le_of_eq rfl) rfl (by decide) (by decide) (by decide) (by decide) ?_
    rintro _ _ ⟨hv, hh⟩
    rw [hv, hh]
    clear hv hh
    refine go_cast (k' := (0 + 1)) (n' := (0 + 5)) (st' := [(.long (f_keep q2 p1 (0 : Int32))), (.int (1 : Int32)), (.ref a5)]) rfl rfl rfl ?_
    refine g_lastore K 68 at_68 A17 (by decide) (show (1 : Int32).toNatClampNeg < 5 from by decide) g10 ?_
    intro h18 Kp19 A20
    have Z21 := Nat.le_trans Z16 Kp19.1
    have A22 : LA Z h18 a5 [(0 : Int64), (f_keep q2 p1 (0 : Int32)), 0, 0, 0] := (by have q := A20; rw [show (1 : Int32).toNatClampNeg = 1 from by decide] at q; exact q)
    refine g_aload K 69 at_69 rfl rfl ?_
    refine g_iconst K 71 (2 : Int32) at_71 (by decide) ?_
    refine g_lload K 72 at_72 rfl ?_
    refine g_iloadN K 74 at_74 rfl ?_
    refine g_iconst K 75 (1 : Int32) at_75 (by decide) ?_
    refine g_callS K 76 [(.long q3), (.int p1), (.int (1 : Int32))] 2 at_76 (rm_keep l Z a0 hw q3 p1 (1 : Int32) h18 n0 Z21  ) (tw hw 2 rfl) (tw hw 3 rfl) (tw hw 4 rfl) (tw hw 5 rfl) (by decide) pd0 rfl (st := [(.int (2 : Int32)), (.ref a5)]) rfl (Nat.le_of_eq rfl) rfl (by decide) (by decide) (by decide) (by decide) ?_
    rintro _ _ ⟨hv, hh⟩
    rw [hv, hh]
    clear hv hh
    refine go_cast (k' := (0 + 1)) (n' := (0 + 5)) (st' := [(.long (f_keep q3 p1 (1 : Int32))), (.int (2 : Int32)), (.ref a5)]) rfl rfl rfl ?_
    refine g_lastore K 79 at_79 A22 (by decide) (show (2 : Int32).toNatClampNeg < 5 from by decide) g10 ?_
    intro h23 Kp24 A25
    have Z26 := Nat.le_trans Z21 Kp24.1
    have A27 : LA Z h23 a5 [(0 : Int64), (f_keep q2 p1 (0 : Int32)), (f_keep q3 p1 (1 : Int32)), 0, 0] := (by have q := A25; rw [show (2 : Int32).toNatClampNeg = 2 from by decide] at q; exact q)
    refine g_aload K 80 at_80 rfl rfl ?_
    refine g_iconst K 82 (3 : Int32) at_82 (by decide) ?_
    refine g_lload K 83 at_83 rfl ?_
    refine g_iloadN K 85 at_85 rfl ?_
    refine g_iconst K 86 (2 : Int32) at_86 (by decide) ?_
    refine g_callS K 87 [(.long q4), (.int p1), (.int (2 : Int32))] 2 at_87 (rm_keep l Z a0 hw q4 p1 (2 : Int32) h23 n0 Z26  ) (tw hw 2 rfl) (tw hw 3 rfl) (tw hw 4 rfl) (tw hw 5 rfl) (by decide) pd0 rfl (st := [(.int (3 : Int32)), (.ref a5)]) rfl (Nat.le_of_eq rfl) rfl (by decide) (by decide) (by decide) (by decide) ?_
    rintro _ _ ⟨hv, hh⟩
    rw [hv, hh]
    clear hv hh
    refine go_cast (k' := (0 + 1)) (n' := (0 + 5)) (st' := [(.long (f_keep q4 p1 (2 : Int32))), (.int (3 : Int32)), (.ref a5)]) rfl rfl rfl ?_
    refine g_lastore K 90 at_90 A27 (by decide) (show (3 : Int32).toNatClampNeg < 5 from by decide) g10 ?_
    intro h28 Kp29 A30
    have Z31 := Nat.le_trans Z26 Kp29.1
    have A32 : LA Z h28 a5 [(0 : Int64), (f_keep q2 p1 (0 : Int32)), (f_keep q3 p1 (1 : Int32)), (f_keep q4 p1 (2 : Int32)), 0] := (by have q := A30; rw [show (3 : Int32).toNatClampNeg = 3 from by decide] at q; exact q)
    refine g_aload K 91 at_91 rfl rfl ?_
    refine g_iconst K 93 (4 : Int32) at_93 (by decide) ?_
    refine g_lload K 94 at_94 rfl ?_
    refine g_iloadN K 96 at_96 rfl ?_
    refine g_iconst K 97 (3 : Int32) at_97 (by decide) ?_
    refine g_callS K 98 [(.long q5), (.int p1), (.int (3 : Int32))] 2 at_98 (rm_keep l Z a0 hw q5 p1 (3 : Int32) h28 n0 Z31  ) (tw hw 2 rfl) (tw hw 3 rfl) (tw hw 4 rfl) (tw hw 5 rfl) (by decide) pd0 rfl (st := [(.int (4 : Int32)), (.ref a5)]) rfl (Nat.le_of_eq rfl) rfl (by decide) (by decide) (by decide) (by decide) ?_
    rintro _ _ ⟨hv, hh⟩
    rw [hv, hh]
    clear hv hh
    refine go_cast (k' := (0 + 1)) (n' := (0 + 5)) (st' := [(.long (f_keep q5 p1 (3 : Int32))), (.int (4 : Int32)), (.ref a5)]) rfl rfl rfl ?_
    refine g_lastore K 101 at_101 A32 (by decide) (show (4 : Int32).toNatClampNeg < 5 from by decide) g10 ?_
    intro h33 Kp34 A35
    have Z36 := Nat.le_trans Z31 Kp34.1
    have A37 : LA Z h33 a5 [(0 : Int64), (f_keep q2 p1 (0 : Int32)), (f_keep q3 p1 (1 : Int32)), (f_keep q4 p1 (2 : Int32)), (f_keep q5 p1 (3 : Int32))] := (by have q := A35; rw [show (4 : Int32).toNatClampNeg = 4 from by decide] at q; exact q)
    refine g_bipush K 102 (8 : Int32) at_102 (by decide) ?_
    refine g_newI K 104 .boolean at_104 rfl rfl (tw hw 9 rfl) (by decide) 8 (by decide) (by decide) (by decide) (by decide) ?_
    intro h39 a38 eq42 Kp40 A41
    have g43 : n0 ≤ a38 := eq42 ▸ Z36
    have ne44 : a5 ≠ a38 := own_ne_of_lt A37.lt eq42
    have Z45 := Nat.le_trans Z36 Kp40.1
    have F46 := A37.keep Kp40 nin0
    have A47 : IA Z h39 a38 .boolean [0, 0, 0, 0, 0, 0, 0, 0] := (by have q := A41; rw [show (8 : Int32).toNatClampNeg = 8 from by decide] at q; exact q)
    refine g_astore K 106 #[.val (.int p0), .val (.int p1), .val (.long q2), .second, .val (.long q3), .second, .val (.long q4), .second, .val (.long q5), .second, .val (.int v1), .val (.int z2), .val (.int v4), .val (.ref a5), .val (.ref a38), .unset, .unset] at_106 rfl rfl ?_
    refine g_aload K 108 at_108 rfl rfl ?_
    refine g_iconst K 110 (0 : Int32) at_110 (by decide) ?_
    refine g_iloadN K 111 at_111 rfl ?_
    refine g_iconst K 112 (1 : Int32) at_112 (by decide) ?_
    refine g_iand K 113 at_113 ?_
    have J49 : ∀ (z48 : Int32), z48 = (if (p1 &&& (1 : Int32)) = 0 then (if q2.toInt32 = 0 then (0 : Int32) else (1 : Int32)) else (0 : Int32)) → Go p l e room_1 s m #[(.int p0), (.int p1), (.long q2), (.long q3), (.long q4), (.long q5)] below meth c n0 Q h39 ((0 + 1) + 1) ((0 + 5) + 8) (mkF m 127 #[.val (.int p0), .val (.int p1), .val (.long q2), .second, .val (.long q3), .second, .val (.long q4), .second, .val (.long q5), .second, .val (.int v1), .val (.int z2), .val (.int v4), .val (.ref a5), .val (.ref a38), .unset, .unset] [(.int z48), (.int (0 : Int32)), (.ref a38)]) := by
      intro z48 hz48
      refine g_zastore K 127 at_127 A47 (by decide) (show (0 : Int32).toNatClampNeg < 8 from by decide) g43 ?_
      intro h50 Kp51 A52
      have Z53 := Nat.le_trans Z45 Kp51.1
      have F54 := F46.keep Kp51 (ninS ne44 nin0)
      have A55 : IA Z h50 a38 .boolean [nar .boolean z48, 0, 0, 0, 0, 0, 0, 0] := (by have q := A52; rw [show (0 : Int32).toNatClampNeg = 0 from by decide] at q; exact q)
      refine g_aload K 128 at_128 rfl rfl ?_
      refine g_iconst K 130 (1 : Int32) at_130 (by decide) ?_
      refine g_iloadN K 131 at_131 rfl ?_
      refine g_iconst K 132 (2 : Int32) at_132 (by decide) ?_
      refine g_iand K 133 at_133 ?_
      have J57 : ∀ (z56 : Int32), z56 = (if (p1 &&& (2 : Int32)) = 0 then (if (q2 >>> ((32 : Int32).toInt64 &&& 63)).toInt32 = 0 then (0 : Int32) else (1 : Int32)) else (0 : Int32)) → Go p l e room_1 s m #[(.int p0), (.int p1), (.long q2), (.long q3), (.long q4), (.long q5)] below meth c n0 Q h50 ((0 + 1) + 1) ((0 + 5) + 8) (mkF m 150 #[.val (.int p0), .val (.int p1), .val (.long q2), .second, .val (.long q3), .second, .val (.long q4), .second, .val (.long q5), .second, .val (.int v1), .val (.int z2), .val (.int v4), .val (.ref a5), .val (.ref a38), .unset, .unset] [(.int z56), (.int (1 : Int32)), (.ref a38)]) := by
        intro z56 hz56
        refine g_zastore K 150 at_150 A55 (by decide) (show (1 : Int32).toNatClampNeg < 8 from by decide) g43 ?_
        intro h58 Kp59 A60
        have Z61 := Nat.le_trans Z53 Kp59.1
        have F62 := F54.keep Kp59 (ninS ne44 nin0)
        have A63 : IA Z h58 a38 .boolean [nar .boolean z48, nar .boolean z56, 0, 0, 0, 0, 0, 0] := (by have q := A60; rw [show (1 : Int32).toNatClampNeg = 1 from by decide] at q; exact q)
        refine g_aload K 151 at_151 rfl rfl ?_
        refine g_iconst K 153 (2 : Int32) at_153 (by decide) ?_
        refine g_iloadN K 154 at_154 rfl ?_
        refine g_iconst K 155 (4 : Int32) at_155 (by decide) ?_
        refine g_iand K 156 at_156 ?_
        have J65 : ∀ (z64 : Int32), z64 = (if (p1 &&& (4 : Int32)) = 0 then (if q3.toInt32 = 0 then (0 : Int32) else (1 : Int32)) else (0 : Int32)) → Go p l e room_1 s m #[(.int p0), (.int p1), (.long q2), (.long q3), (.long q4), (.long q5)] below meth c n0 Q h58 ((0 + 1) + 1) ((0 + 5) + 8) (mkF m 171 #[.val (.int p0), .val (.int p1), .val (.long q2), .second, .val (.long q3), .second, .val (.long q4), .second, .val (.long q5), .second, .val (.int v1), .val (.int z2), .val (.int v4), .val (.ref a5), .val (.ref a38), .unset, .unset] [(.int z64), (.int (2 : Int32)), (.ref a38)]) := by
          intro z64 hz64
          refine g_zastore K 171 at_171 A63 (by decide) (show (2 : Int32).toNatClampNeg < 8 from by decide) g43 ?_
          intro h66 Kp67 A68
          have Z69 := Nat.le_trans Z61 Kp67.1
          have F70 := F62.keep Kp67 (ninS ne44 nin0)
          have A71 : IA Z h66 a38 .boolean [nar .boolean z48, nar .boolean z56, nar .boolean z64, 0, 0, 0, 0, 0] := (by have q := A68; rw [show (2 : Int32).toNatClampNeg = 2 from by decide] at q; exact q)
          refine g_aload K 172 at_172 rfl rfl ?_
          refine g_iconst K 174 (3 : Int32) at_174 (by decide) ?_
          refine g_iloadN K 175 at_175 rfl ?_
          refine g_bipush K 176 (8 : Int32) at_176 (by decide) ?_
          refine g_iand K 178 at_178 ?_
          have J73 : ∀ (z72 : Int32), z72 = (if (p1 &&& (8 : Int32)) = 0 then (if (q3 >>> ((32 : Int32).toInt64 &&& 63)).toInt32 = 0 then (0 : Int32) else (1 : Int32)) else (0 : Int32)) → Go p l e room_1 s m #[(.int p0), (.int p1), (.long q2), (.long q3), (.long q4), (.long q5)] below meth c n0 Q h66 ((0 + 1) + 1) ((0 + 5) + 8) (mkF m 196 #[.val (.int p0), .val (.int p1), .val (.long q2), .second, .val (.long q3), .second, .val (.long q4), .second, .val (.long q5), .second, .val (.int v1), .val (.int z2), .val (.int v4), .val (.ref a5), .val (.ref a38), .unset, .unset] [(.int z72), (.int (3 : Int32)), (.ref a38)]) := by
            intro z72 hz72
            refine g_zastore K 196 at_196 A71 (by decide) (show (3 : Int32).toNatClampNeg < 8 from by decide) g43 ?_
            intro h74 Kp75 A76
            have Z77 := Nat.le_trans Z69 Kp75.1
            have F78 := F70.keep Kp75 (ninS ne44 nin0)
            have A79 : IA Z h74 a38 .boolean [nar .boolean z48, nar .boolean z56, nar .boolean z64, nar .boolean z72, 0, 0, 0, 0] := (by have q := A76; rw [show (3 : Int32).toNatClampNeg = 3 from by decide] at q; exact q)
            refine g_aload K 197 at_197 rfl rfl ?_
            refine g_iconst K 199 (4 : Int32) at_199 (by decide) ?_
            refine g_iloadN K 200 at_200 rfl ?_
            refine g_bipush K 201 (16 : Int32) at_201 (by decide) ?_
            refine g_iand K 203 at_203 ?_
            have J81 : ∀ (z80 : Int32), z80 = (if (p1 &&& (16 : Int32)) = 0 then (if q4.toInt32 = 0 then (0 : Int32) else (1 : Int32)) else (0 : Int32)) → Go p l e room_1 s m #[(.int p0), (.int p1), (.long q2), (.long q3), (.long q4), (.long q5)] below meth c n0 Q h74 ((0 + 1) + 1) ((0 + 5) + 8) (mkF m 218 #[.val (.int p0), .val (.int p1), .val (.long q2), .second, .val (.long q3), .second, .val (.long q4), .second, .val (.long q5), .second, .val (.int v1), .val (.int z2), .val (.int v4), .val (.ref a5), .val (.ref a38), .unset, .unset] [(.int z80), (.int (4 : Int32)), (.ref a38)]) := by
              intro z80 hz80
              refine g_zastore K 218 at_218 A79 (by decide) (show (4 : Int32).toNatClampNeg < 8 from by decide) g43 ?_
              intro h82 Kp83 A84
              have Z85 := Nat.le_trans Z77 Kp83.1
              have F86 := F78.keep Kp83 (ninS ne44 nin0)
              have A87 : IA Z h82 a38 .boolean [nar .boolean z48, nar .boolean z56, nar .boolean z64, nar .boolean z72, nar .boolean z80, 0, 0, 0] := (by have q := A84; rw [show (4 : Int32).toNatClampNeg = 4 from by decide] at q; exact q)
              refine g_aload K 219 at_219 rfl rfl ?_
              refine g_iconst K 221 (5 : Int32) at_221 (by decide) ?_
              refine g_iloadN K 222 at_222 rfl ?_
              refine g_bipush K 223 (32 : Int32) at_223 (by decide) ?_
              refine g_iand K 225 at_225 ?_
              have J89 : ∀ (z88 : Int32), z88 = (if (p1 &&& (32 : Int32)) = 0 then (if (q4 >>> ((32 : Int32).toInt64 &&& 63)).toInt32 = 0 then (0 : Int32) else (1 : Int32)) else (0 : Int32)) → Go p l e room_1 s m #[(.int p0), (.int p1), (.long q2), (.long q3), (.long q4), (.long q5)] below meth c n0 Q h82 ((0 + 1) + 1) ((0 + 5) + 8) (mkF m 243 #[.val (.int p0), .val (.int p1), .val (.long q2), .second, .val (.long q3), .second, .val (.long q4), .second, .val (.long q5), .second, .val (.int v1), .val (.int z2), .val (.int v4), .val (.ref a5), .val (.ref a38), .unset, .unset] [(.int z88), (.int (5 : Int32)), (.ref a38)]) := by
                intro z88 hz88
                refine g_zastore K 243 at_243 A87 (by decide) (show (5 : Int32).toNatClampNeg < 8 from by decide) g43 ?_
                intro h90 Kp91 A92
                have Z93 := Nat.le_trans Z85 Kp91.1
                have F94 := F86.keep Kp91 (ninS ne44 nin0)
                have A95 : IA Z h90 a38 .boolean [nar .boolean z48, nar .boolean z56, nar .boolean z64, nar .boolean z72, nar .boolean z80, nar .boolean z88, 0, 0] := (by have q := A92; rw [show (5 : Int32).toNatClampNeg = 5 from by decide] at q; exact q)
                refine g_aload K 244 at_244 rfl rfl ?_
                refine g_bipush K 246 (6 : Int32) at_246 (by decide) ?_
                refine g_iloadN K 248 at_248 rfl ?_
                refine g_bipush K 249 (64 : Int32) at_249 (by decide) ?_
                refine g_iand K 251 at_251 ?_
                have J97 : ∀ (z96 : Int32), z96 = (if (p1 &&& (64 : Int32)) = 0 then (if q5.toInt32 = 0 then (0 : Int32) else (1 : Int32)) else (0 : Int32)) → Go p l e room_1 s m #[(.int p0), (.int p1), (.long q2), (.long q3), (.long q4), (.long q5)] below meth c n0 Q h90 ((0 + 1) + 1) ((0 + 5) + 8) (mkF m 266 #[.val (.int p0), .val (.int p1), .val (.long q2), .second, .val (.long q3), .second, .val (.long q4), .second, .val (.long q5), .second, .val (.int v1), .val (.int z2), .val (.int v4), .val (.ref a5), .val (.ref a38), .unset, .unset] [(.int z96), (.int (6 : Int32)), (.ref a38)]) := by
                  intro z96 hz96
                  refine g_zastore K 266 at_266 A95 (by decide) (show (6 : Int32).toNatClampNeg < 8 from by decide) g43 ?_
                  intro h98 Kp99 A100
                  have Z101 := Nat.le_trans Z93 Kp99.1
                  have F102 := F94.keep Kp99 (ninS ne44 nin0)
                  have A103 : IA Z h98 a38 .boolean [nar .boolean z48, nar .boolean z56, nar .boolean z64, nar .boolean z72, nar .boolean z80, nar .boolean z88, nar .boolean z96, 0] := (by have q := A100; rw [show (6 : Int32).toNatClampNeg = 6 from by decide] at q; exact q)
                  refine g_aload K 267 at_267 rfl rfl ?_
                  refine g_bipush K 269 (7 : Int32) at_269 (by decide) ?_
                  refine g_iloadN K 271 at_271 rfl ?_
                  refine g_sipush K 272 (128 : Int32) at_272 (by decide) ?_
                  refine g_iand K 275 at_275 ?_
                  have J105 : ∀ (z104 : Int32), z104 = (if (p1 &&& (128 : Int32)) = 0 then (if (q5 >>> ((32 : Int32).toInt64 &&& 63)).toInt32 = 0 then (0 : Int32) else (1 : Int32)) else (0 : Int32)) → Go p l e room_1 s m #[(.int p0), (.int p1), (.long q2), (.long q3), (.long q4), (.long q5)] below meth c n0 Q h98 ((0 + 1) + 1) ((0 + 5) + 8) (mkF m 293 #[.val (.int p0), .val (.int p1), .val (.long q2), .second, .val (.long q3), .second, .val (.long q4), .second, .val (.long q5), .second, .val (.int v1), .val (.int z2), .val (.int v4), .val (.ref a5), .val (.ref a38), .unset, .unset] [(.int z104), (.int (7 : Int32)), (.ref a38)]) := by
                    intro z104 hz104
                    refine g_zastore K 293 at_293 A103 (by decide) (show (7 : Int32).toNatClampNeg < 8 from by decide) g43 ?_
                    intro h106 Kp107 A108
                    have Z109 := Nat.le_trans Z101 Kp107.1
                    have F110 := F102.keep Kp107 (ninS ne44 nin0)
                    have A111 : IA Z h106 a38 .boolean [nar .boolean z48, nar .boolean z56, nar .boolean z64, nar .boolean z72, nar .boolean z80, nar .boolean z88, nar .boolean z96, nar .boolean z104] := (by have q := A108; rw [show (7 : Int32).toNatClampNeg = 7 from by decide] at q; exact q)
                    refine g_new K 294 at_294 (tw hw 10 rfl) (tw hw 11 rfl) (tw hw 12 rfl) (by decide) (by decide) ?_
                    intro h113 a112 eq117 Kp114 E115 D116
                    have g118 : n0 ≤ a112 := eq117 ▸ Z109
                    have ne119 : a5 ≠ a112 := own_ne_of_lt F110.lt eq117
                    have ne120 : a38 ≠ a112 := own_ne_of_lt A111.lt eq117
                    have Z121 := Nat.le_trans Z109 Kp114.1
                    have F122 := F110.keep Kp114 nin0
                    have F123 := A111.keep Kp114 nin0
                    have F124 : Fld Z h113 a112 "com/example/zedcube/zedcube/engine/Nodes" "dims" "I" (.int (0 : Int32)) := D116 (Or.inr (tw hw 20 rfl)) (ty := .int) (by decide)
                    have F125 : Fld Z h113 a112 "com/example/zedcube/zedcube/engine/Nodes" "arrayOnly" "Z" (.int (0 : Int32)) := D116 (Or.inr (tw hw 22 rfl)) (ty := .boolean) (by decide)
                    have F126 : Fld Z h113 a112 "com/example/zedcube/zedcube/engine/Nodes" "list" "Lcom/example/zedcube/zedcube/engine/SlotList;" .null := D116 (Or.inr (tw hw 52 rfl)) (ty := (.object "com/example/zedcube/zedcube/engine/SlotList")) (by decide)
                    have F127 : Fld Z h113 a112 "com/example/zedcube/zedcube/engine/Nodes" "blockSlots" "Lcom/example/zedcube/zedcube/engine/SlotList;" .null := D116 (Or.inr (tw hw 54 rfl)) (ty := (.object "com/example/zedcube/zedcube/engine/SlotList")) (by decide)
                    have F128 : Fld Z h113 a112 "com/example/zedcube/zedcube/engine/Nodes" "blockList" "Lcom/example/zedcube/zedcube/engine/SlotList;" .null := D116 (Or.inr (tw hw 56 rfl)) (ty := (.object "com/example/zedcube/zedcube/engine/SlotList")) (by decide)
                    have F129 : Fld Z h113 a112 "com/example/zedcube/zedcube/engine/Nodes" "arrayKeys" "I" (.int (0 : Int32)) := D116 (Or.inr (tw hw 59 rfl)) (ty := .int) (by decide)
                    refine g_dup K 297 at_297 rfl ?_
                    refine g_iload K 298 at_298 rfl ?_
                    refine g_iconst K 300 (1 : Int32) at_300 (by decide) ?_
                    refine g_callN K 301 [(.int v1), (.int (1 : Int32))] 1 at_301 (rm_nodes l Z a0 hw a112 v1 (1 : Int32) h113 n0 Z121  E115 g118 F124 F125 F126 F127 F128 F129 (own_d hv1) (by decide)) rfl (tw hw 13 rfl) (tw hw 14 rfl) (tw hw 12 rfl) (tw hw 15 rfl) (by decide) pd1 rfl (st := [(.ref a112)]) rfl (Nat.le_of_eq rfl) rfl (by decide) (by decide) (by decide) (by decide) ?_
                    rintro _ h130 ⟨hv, Kp131, E132, F133⟩
                    rw [hv]
                    clear hv
                    have Z134 := Nat.le_trans Z121 Kp131.1
                    have F135 := F122.keep Kp131 (ninS ne119 nin0)
                    have F136 := F123.keep Kp131 (ninS ne120 nin0)
                    refine go_cast (k' := ((((0 + 1) + 1) + 1) + 3)) (n' := ((((0 + 5) + 8) + 6) + 21)) (st' := [(.ref a112)]) rfl rfl rfl ?_
                    refine g_astore K 304 #[.val (.int p0), .val (.int p1), .val (.long q2), .second, .val (.long q3), .second, .val (.long q4), .second, .val (.long q5), .second, .val (.int v1), .val (.int z2), .val (.int v4), .val (.ref a5), .val (.ref a38), .val (.ref a112), .unset] at_304 rfl rfl ?_
                    refine g_aload K 306 at_306 rfl rfl ?_
                    refine g_aload K 308 at_308 rfl rfl ?_
                    refine g_iload K 310 at_310 rfl ?_
                    refine g_callV K 312 [(.ref a5), (.int v4)] 0 at_312 (rm_occ l Z a0 hw a112 a5 v4 h130 n0 Z134 v1 ([(0 : Int64), (f_keep q2 p1 (0 : Int32)), (f_keep q3 p1 (1 : Int32)), (f_keep q4 p1 (2 : Int32)), (f_keep q5 p1 (3 : Int32))]) F133 F135 rfl (own_e hv1) (own_f hz2 hv4)) E132 (tw hw 60 rfl) (tw hw 61 rfl) (tw hw 63 rfl) (tw hw 63 rfl) (tw hw 62 rfl) (tw hw 12 rfl) (tw hw 64 rfl) (by decide) pd5 rfl (st := []) rfl (Nat.le_of_eq rfl) rfl (by decide) (by decide) (by decide) (by decide) ?_
                    rintro _ _ ⟨hv, hh⟩
                    rw [hv, hh]
                    clear hv hh
                    refine go_cast (k' := ((((0 + 1) + 1) + 1) + 3)) (n' := ((((0 + 5) + 8) + 6) + 21)) (st' := [(.int (occ ([(0 : Int64), (f_keep q2 p1 (0 : Int32)), (f_keep q3 p1 (1 : Int32)), (f_keep q4 p1 (2 : Int32)), (f_keep q5 p1 (3 : Int32))]) ((1 : Int32) <<< (v1 &&& 31)) 9 v4))]) rfl rfl rfl ?_
                    refine g_istore K 315 #[.val (.int p0), .val (.int p1), .val (.long q2), .second, .val (.long q3), .second, .val (.long q4), .second, .val (.long q5), .second, .val (.int v1), .val (.int z2), .val (.int v4), .val (.ref a5), .val (.ref a38), .val (.ref a112), .val (.int (occ ([(0 : Int64), (f_keep q2 p1 (0 : Int32)), (f_keep q3 p1 (1 : Int32)), (f_keep q4 p1 (2 : Int32)), (f_keep q5 p1 (3 : Int32))]) ((1 : Int32) <<< (v1 &&& 31)) 9 v4))] at_315 rfl ?_
                    refine g_iload K 317 at_317 rfl ?_
                    refine g_aload K 319 at_319 rfl rfl ?_
                    refine g_iload K 321 at_321 rfl ?_
                    refine g_iload K 323 at_323 rfl ?_
                    refine g_callS K 325 [(.ref a38), (.int v4), (.int z2)] 1 at_325 (rm_expected l Z a0 hw a38 v4 z2 h130 n0 Z134 ([nar .boolean z48, nar .boolean z56, nar .boolean z64, nar .boolean z72, nar .boolean z80, nar .boolean z88, nar .boolean z96, nar .boolean z104]) F136 rfl) (tw hw 65 rfl) (tw hw 66 rfl) (tw hw 4 rfl) (tw hw 67 rfl) (by decide) pd6 rfl (st := [(.int (occ ([(0 : Int64), (f_keep q2 p1 (0 : Int32)), (f_keep q3 p1 (1 : Int32)), (f_keep q4 p1 (2 : Int32)), (f_keep q5 p1 (3 : Int32))]) ((1 : Int32) <<< (v1 &&& 31)) 9 v4))]) rfl (Nat.le_of_eq rfl) rfl (by decide) (by decide) (by decide) (by decide) ?_
                    rintro _ _ ⟨⟨r137, hv, hEx⟩, hh⟩
                    rw [hv, hh]
                    clear hv hh
                    refine go_cast (k' := ((((0 + 1) + 1) + 1) + 3)) (n' := ((((0 + 5) + 8) + 6) + 21)) (st' := [(.int r137), (.int (occ ([(0 : Int64), (f_keep q2 p1 (0 : Int32)), (f_keep q3 p1 (1 : Int32)), (f_keep q4 p1 (2 : Int32)), (f_keep q5 p1 (3 : Int32))]) ((1 : Int32) <<< (v1 &&& 31)) 9 v4))]) rfl rfl rfl ?_
                    refine g_ii_ne K 328 335 at_328 (by decide) (by decide) ?_ ?_
                    · intro c138
                      exfalso
                      exact c138 (own_main p0 p1 v1 z2 v4 r137 q2 q3 q4 q5 z48 z56 z64 z72 z80 z88 z96 z104 hv1 hz2 hv4 hz48 hz56 hz64 hz72 hz80 hz88 hz96 hz104 hEx)
                    · intro c138
                      refine g_iconst K 331 (1 : Int32) at_331 (by decide) ?_
                      refine g_goto K 332 336 at_332 (by decide) (by decide) ?_
                      refine g_retN K 336 .boolean at_336 rfl (by simp) (by decide) (by decide) ?_
                      rw [hQ]
                      rfl
                  refine g_if_ne K 276 292 at_276 (by decide) (by decide) ?_ ?_
                  · intro c139
                    refine g_iconst K 292 (0 : Int32) at_292 (by decide) ?_
                    exact J105 _ (by rw [if_neg c139])
                  · intro c139
                    refine g_lload K 279 at_279 rfl ?_
                    refine g_bipush K 281 (32 : Int32) at_281 (by decide) ?_
                    refine g_lshr K 283 at_283 ?_
                    refine g_l2i K 284 at_284 ?_
                    refine g_if_eq K 285 292 at_285 (by decide) (by decide) ?_ ?_
                    · intro c140
                      refine g_iconst K 292 (0 : Int32) at_292 (by decide) ?_
                      exact J105 _ (by rw [if_pos c139, if_pos c140])
                    · intro c140
                      refine g_iconst K 288 (1 : Int32) at_288 (by decide) ?_
                      refine g_goto K 289 293 at_289 (by decide) (by decide) ?_
                      exact J105 _ (by rw [if_pos c139, if_neg c140])
                refine g_if_ne K 252 265 at_252 (by decide) (by decide) ?_ ?_
                · intro c141
                  refine g_iconst K 265 (0 : Int32) at_265 (by decide) ?_
                  exact J97 _ (by rw [if_neg c141])
                · intro c141
                  refine g_lload K 255 at_255 rfl ?_
                  refine g_l2i K 257 at_257 ?_
                  refine g_if_eq K 258 265 at_258 (by decide) (by decide) ?_ ?_
                  · intro c142
                    refine g_iconst K 265 (0 : Int32) at_265 (by decide) ?_
                    exact J97 _ (by rw [if_pos c141, if_pos c142])
                  · intro c142
                    refine g_iconst K 261 (1 : Int32) at_261 (by decide) ?_
                    refine g_goto K 262 266 at_262 (by decide) (by decide) ?_
                    exact J97 _ (by rw [if_pos c141, if_neg c142])
              refine g_if_ne K 226 242 at_226 (by decide) (by decide) ?_ ?_
              · intro c143
                refine g_iconst K 242 (0 : Int32) at_242 (by decide) ?_
                exact J89 _ (by rw [if_neg c143])
              · intro c143
                refine g_lload K 229 at_229 rfl ?_
                refine g_bipush K 231 (32 : Int32) at_231 (by decide) ?_
                refine g_lshr K 233 at_233 ?_
                refine g_l2i K 234 at_234 ?_
                refine g_if_eq K 235 242 at_235 (by decide) (by decide) ?_ ?_
                · intro c144
                  refine g_iconst K 242 (0 : Int32) at_242 (by decide) ?_
                  exact J89 _ (by rw [if_pos c143, if_pos c144])
                · intro c144
                  refine g_iconst K 238 (1 : Int32) at_238 (by decide) ?_
                  refine g_goto K 239 243 at_239 (by decide) (by decide) ?_
                  exact J89 _ (by rw [if_pos c143, if_neg c144])
            refine g_if_ne K 204 217 at_204 (by decide) (by decide) ?_ ?_
            · intro c145
              refine g_iconst K 217 (0 : Int32) at_217 (by decide) ?_
              exact J81 _ (by rw [if_neg c145])
            · intro c145
              refine g_lload K 207 at_207 rfl ?_
              refine g_l2i K 209 at_209 ?_
              refine g_if_eq K 210 217 at_210 (by decide) (by decide) ?_ ?_
              · intro c146
                refine g_iconst K 217 (0 : Int32) at_217 (by decide) ?_
                exact J81 _ (by rw [if_pos c145, if_pos c146])
              · intro c146
                refine g_iconst K 213 (1 : Int32) at_213 (by decide) ?_
                refine g_goto K 214 218 at_214 (by decide) (by decide) ?_
                exact J81 _ (by rw [if_pos c145, if_neg c146])
          refine g_if_ne K 179 195 at_179 (by decide) (by decide) ?_ ?_
          · intro c147
            refine g_iconst K 195 (0 : Int32) at_195 (by decide) ?_
            exact J73 _ (by rw [if_neg c147])
          · intro c147
            refine g_lload K 182 at_182 rfl ?_
            refine g_bipush K 184 (32 : Int32) at_184 (by decide) ?_
            refine g_lshr K 186 at_186 ?_
            refine g_l2i K 187 at_187 ?_
            refine g_if_eq K 188 195 at_188 (by decide) (by decide) ?_ ?_
            · intro c148
              refine g_iconst K 195 (0 : Int32) at_195 (by decide) ?_
              exact J73 _ (by rw [if_pos c147, if_pos c148])
            · intro c148
              refine g_iconst K 191 (1 : Int32) at_191 (by decide) ?_
              refine g_goto K 192 196 at_192 (by decide) (by decide) ?_
              exact J73 _ (by rw [if_pos c147, if_neg c148])
        refine g_if_ne K 157 170 at_157 (by decide) (by decide) ?_ ?_
        · intro c149
          refine g_iconst K 170 (0 : Int32) at_170 (by decide) ?_
          exact J65 _ (by rw [if_neg c149])
        · intro c149
          refine g_lload K 160 at_160 rfl ?_
          refine g_l2i K 162 at_162 ?_
          refine g_if_eq K 163 170 at_163 (by decide) (by decide) ?_ ?_
          · intro c150
            refine g_iconst K 170 (0 : Int32) at_170 (by decide) ?_
            exact J65 _ (by rw [if_pos c149, if_pos c150])
          · intro c150
            refine g_iconst K 166 (1 : Int32) at_166 (by decide) ?_
            refine g_goto K 167 171 at_167 (by decide) (by decide) ?_
            exact J65 _ (by rw [if_pos c149, if_neg c150])
      refine g_if_ne K 134 149 at_134 (by decide) (by decide) ?_ ?_
      · intro c151
        refine g_iconst K 149 (0 : Int32) at_149 (by decide) ?_
        exact J57 _ (by rw [if_neg c151])
      · intro c151
        refine g_lloadN K 137 at_137 rfl ?_
        refine g_bipush K 138 (32 : Int32) at_138 (by decide) ?_
        refine g_lshr K 140 at_140 ?_
        refine g_l2i K 141 at_141 ?_
        refine g_if_eq K 142 149 at_142 (by decide) (by decide) ?_ ?_
        · intro c152
          refine g_iconst K 149 (0 : Int32) at_149 (by decide) ?_
          exact J57 _ (by rw [if_pos c151, if_pos c152])
        · intro c152
          refine g_iconst K 145 (1 : Int32) at_145 (by decide) ?_
          refine g_goto K 146 150 at_146 (by decide) (by decide) ?_
          exact J57 _ (by rw [if_pos c151, if_neg c152])
    refine g_if_ne K 114 126 at_114 (by decide) (by decide) ?_ ?_
    · intro c153
      refine g_iconst K 126 (0 : Int32) at_126 (by decide) ?_
      exact J49 _ (by rw [if_neg c153])
    · intro c153
      refine g_lloadN K 117 at_117 rfl ?_
      refine g_l2i K 118 at_118 ?_
      refine g_if_eq K 119 126 at_119 (by decide) (by decide) ?_ ?_
      · intro c154
        refine g_iconst K 126 (0 : Int32) at_126 (by decide) ?_
        exact J49 _ (by rw [if_pos c153, if_pos c154])
      · intro c154
        refine g_iconst K 122 (1 : Int32) at_122 (by decide) ?_
        refine g_goto K 123 127 at_123 (by decide) (by decide) ?_
        exact J49 _ (by rw [if_pos c153, if_neg c154])
  refine g_ii_ne K 14 21 at_14 (by decide) (by decide) ?_ ?_
  · intro c155
    refine g_iload K 21 at_21 rfl ?_
    refine g_iconst K 23 (2 : Int32) at_23 (by decide) ?_
    refine g_ii_ne K 24 31 at_24 (by decide) (by decide) ?_ ?_
    · intro c156
      refine g_bipush K 31 (8 : Int32) at_31 (by decide) ?_
      exact J3 _ (by rw [if_neg c155, if_neg c156])
    · intro c156
      refine g_iconst K 27 (4 : Int32) at_27 (by decide) ?_
      refine g_goto K 28 33 at_28 (by decide) (by decide) ?_
      exact J3 _ (by rw [if_neg c155, if_pos c156])
  · intro c155
    refine g_iconst K 17 (2 : Int32) at_17 (by decide) ?_
    refine g_goto K 18 33 at_18 (by decide) (by decide) ?_
    exact J3 _ (by rw [if_pos c155])
set_option maxRecDepth 65536 in
theorem comes_1 {Post : Tables → Env → Array Value → State → Outcome → State → Prop} (hpost : ∀ tb e args s v u, (limb_1_1.after args s (.returned v) u = true ∧ limb_1_2.after args s (.returned v) u = true ∧ True) → FrameEnd s (.returned v) u (Jvm.fieldLocs frame_1_writes args s ++ Jvm.arrayLocs frame_1_arrays args s ++ Jvm.staticLocs frame_1_statics s) 24 192 → Post tb e args s (.returned v) u) :
    ArmFor flags0 classFile x code maxLocals ret World_1 tables_1 room_1 Calls_1 rest_1 Pre_1 Post := by
  intro l hfl _ _ p e ha hc hk s m args below hf hA hF happ hP
  obtain ⟨hcalls, hrest, hpre⟩ := hP
  obtain ⟨-, -, -, hnamed, -, -, -, hat⟩ := (Spec.applies_iff hf).mp happ
  obtain ⟨hg, hn⟩ := and_e (Cond.before_iff.mp (show (Jvm.Cond.and given_1 narrow_1).before args s = true from hpre))
  obtain ⟨hcnt, hg0⟩ := and_e hg
  obtain ⟨w0, w1, w2, w3, w4, w5, rfl⟩ : ∃ w0 w1 w2 w3 w4 w5 : Value, args = #[w0, w1, w2, w3, w4, w5] := by
    have hs : args.size = 6 := by simpa [Cond.value, given_1] using hcnt
    obtain ⟨L⟩ := args
    match L, hs with
    | [w0, w1, w2, w3, w4, w5], _ => exact ⟨w0, w1, w2, w3, w4, w5, rfl⟩
  have hw := fun d (hd : d ∈ tables_1) => atoms_spec (ws := Jvm.Cond.code x code maxLocals ret :: tables_1) hat d (List.mem_cons_of_mem _ hd)
  obtain ⟨hq0, hg1⟩ := and_e hg0
  obtain ⟨i0, e0⟩ := is_v hq0
  obtain rfl : w0 = (.int i0) := Option.some.inj e0
  obtain ⟨hq1, hg2⟩ := and_e hg1
  obtain ⟨i1, e1⟩ := is_v hq1
  obtain rfl : w1 = (.int i1) := Option.some.inj e1
  obtain ⟨hq2, hg3⟩ := and_e hg2
  obtain ⟨i2, e2⟩ := isL_v hq2
  obtain rfl : w2 = (.long i2) := Option.some.inj e2
  obtain ⟨hq3, hg4⟩ := and_e hg3
  obtain ⟨i3, e3⟩ := isL_v hq3
  obtain rfl : w3 = (.long i3) := Option.some.inj e3
  obtain ⟨hq4, hg5⟩ := and_e hg4
  obtain ⟨i4, e4⟩ := isL_v hq4
  obtain rfl : w4 = (.long i4) := Option.some.inj e4
  obtain ⟨i5, e5⟩ := isL_v hg5
  obtain rfl : w5 = (.long i5) := Option.some.inj e5
  obtain ⟨n, o, h1, h2, h3, _, L, rfl, ⟨rfl, N⟩, hq⟩ := rm_law l s _ hw i0 i1 i2 i3 i4 i5 s.heap s.heap.size (Nat.le_refl _) tables_1 p e ha hc hk s m _ below hf ((Spec.applies_iff_loose hf).mp happ).1 ⟨rfl, State.Warmed39.refl s, rfl⟩ trivial
  refine ⟨n, _, h1, h2, h3, hpost _ _ _ _ _ _ ⟨Cond.after_iff.mpr rfl, Cond.after_iff.mpr (eq_i res_at (Term.int_eval (1)) rfl), trivial⟩ ⟨hq.1, hq.2.1, (hq.2.2.sift fun y hy => Or.inr (N y hy)).mono (by decide) (by decide)⟩⟩
theorem main_1_1 : Claimed_1_1 := comes_1 fun _ _ _ _ _ _ h hF => ⟨h.1, hF⟩
theorem main_1_2 : Claimed_1_2 := comes_1 fun _ _ _ _ _ _ h hF => ⟨h.2.1, hF⟩
end Jvm.Pilot.@@N@@
namespace Jvm.Pilot.@@N@@
open Jvm Jvm.ClassFile Sem Op Lib Jvm.Free Jvm.Stand Jvm.Pilot.@@N@@.Jvm.D
/-! MADE BY PROGRAM (witnessworld.py) out of the Statement's table words and the real class files: 15 classes; the members and pool entries that the words name. The judged class is class 1, her method 1. -/
namespace start1
open Jvm.ClassFile
def u (s : String) : CpInfo := .utf8 (stringToUtf16 s)
/-- a pool by its gaps: so many unusable entries, then the entry; so many at the end -/
def gap : Nat → List CpInfo → List CpInfo
  | 0, r => r
  | n + 1, r => .unusable :: gap n r
def poolList (es : List (Nat × CpInfo)) (last : Nat) : List CpInfo := es.foldr (fun e r => gap e.1 (e.2 :: r)) (gap last [])
def pool (es : List (Nat × CpInfo)) (last : Nat) : Array CpInfo := ⟨poolList es last⟩
def fileOf (pool : Array CpInfo) (this : Nat) (attrs : Array Attribute := #[]) (ms : Array MethodInfo := #[]) (fl : Nat := 33) (sup : Nat := 0) (ifs : Array Nat := #[]) (fds : Array FieldInfo := #[]) : ClassFile where
  minorVersion := 0
  majorVersion := 65
  constantPool := pool
  accessFlags := fl
  thisClass := this
  superClass := sup
  interfaces := ifs
  fields := fds
  methods := ms
  attributes := attrs
def plain (name : String) (sup : Option ClassId) : Class where
  name := name
  kind := .ordinary
  loader := none
  accessFlags := 33
  super := sup
  interfaces := #[]
  cf := none
  fields := #[]
  methods := #[]
  instanceTypes := #[]
  staticTypes := #[]
  resolved := #[]
  callSites := []
  init := .initialized
  statics := none
  mirror := none

def pool0 : Array CpInfo := pool [(5, u "<init>"), (0, u "()V"), (1, .class_ 10), (1, u "java/lang/Object")] 113

def k0c0 : Code := { maxStack := 0, maxLocals := 1, code := object_method_1_code, exceptionTable := #[], attributes := #[] }
def k0m0 : Method := { name := "<init>", desc := "()V", sig := { parameters := [], returnType := none }, accessFlags := 1, code := some k0c0 }
/-- java/lang/Object -/
def k0 : Class := { plain "java/lang/Object" none with
  accessFlags := 33
  interfaces := #[]
  cf := some (fileOf pool0 8 #[] #[{ accessFlags := 1, nameIndex := 5, descriptorIndex := 6, attributes := #[] }] 33 0 #[] #[])
  fields := #[]
  methods := #[k0m0]
  instanceTypes := #[]
  staticTypes := #[]
  resolved := Array.replicate 124 none
  statics := none }

def pool1 : Array CpInfo := pool [(2, .class_ 4), (1, u "java/lang/Object"), (0, u "<init>"), (0, u "()V"), (0, .integer 8388607), (0, .methodref 9 10), (0, .class_ 11), (0, .nameAndType 12 13), (0, u "com/example/zedcube/zedcube/engine/NodesOccupiedAddressFromPinLaw"), (0, u "keep"), (0, u "(JII)J"), (0, .class_ 15), (0, u "com/example/zedcube/zedcube/engine/Nodes"), (0, .methodref 14 17), (0, .nameAndType 5 18), (0, u "(IZ)V"), (0, .methodref 14 20), (0, .nameAndType 21 22), (0, u "occupiedAddressFrom"), (0, u "([JI)I"), (0, .methodref 9 24), (0, .nameAndType 25 26), (0, u "expected"), (0, u "([ZII)I"), (0, .long 18446744073709551615), (1, .long 18446744069414584320), (1, .long 4294967295), (3, u "law"), (0, u "(IIJJJJ)Z")] 7

def k1m0 : Method := { name := "<init>", desc := "()V", sig := { parameters := [], returnType := none }, accessFlags := 1, code := none }
def k1c1 : Code := { maxStack := 6, maxLocals := 17, code := code, exceptionTable := #[], attributes := #[] }
def k1m1 : Method := { name := "law", desc := "(IIJJJJ)Z", sig := { parameters := [.int, .int, .long, .long, .long, .long], returnType := some .boolean }, accessFlags := 9, code := some k1c1 }
def k1c2 : Code := { maxStack := 4, maxLocals := 6, code := method_3_code, exceptionTable := #[], attributes := #[] }
def k1m2 : Method := { name := "keep", desc := "(JII)J", sig := { parameters := [.long, .int, .int], returnType := some .long }, accessFlags := 10, code := some k1c2 }
def k1c3 : Code := { maxStack := 2, maxLocals := 3, code := method_4_code, exceptionTable := #[], attributes := #[] }
def k1m3 : Method := { name := "expected", desc := "([ZII)I", sig := { parameters := [(.array .boolean), .int, .int], returnType := some .int }, accessFlags := 10, code := some k1c3 }
/-- com/example/zedcube/zedcube/engine/NodesOccupiedAddressFromPinLaw -/
def k1 : Class := { plain "com/example/zedcube/zedcube/engine/NodesOccupiedAddressFromPinLaw" (some 0) with
  accessFlags := 49
  interfaces := #[]
  cf := some (fileOf pool1 9 #[] #[{ accessFlags := 1, nameIndex := 5, descriptorIndex := 6, attributes := #[] }, { accessFlags := 9, nameIndex := 35, descriptorIndex := 36, attributes := #[] }, { accessFlags := 10, nameIndex := 12, descriptorIndex := 13, attributes := #[] }, { accessFlags := 10, nameIndex := 25, descriptorIndex := 26, attributes := #[] }] 49 2 #[] #[])
  fields := #[]
  methods := #[k1m0, k1m1, k1m2, k1m3]
  instanceTypes := #[]
  staticTypes := #[]
  resolved := Array.replicate 44 none
  statics := none }

def pool2 : Array CpInfo := pool [(1, .class_ 2), (0, u "com/example/zedcube/zedcube/engine/SlotList"), (0, .methodref 4 5), (0, .class_ 6), (0, .nameAndType 7 8), (0, u "java/lang/Object"), (0, u "<init>"), (0, u "()V"), (0, .fieldref 10 11), (0, .class_ 12), (0, .nameAndType 13 14), (0, u "com/example/zedcube/zedcube/engine/Nodes"), (0, u "dims"), (0, u "I"), (0, .fieldref 10 16), (0, .nameAndType 17 18), (0, u "arrayOnly"), (0, u "Z"), (0, .methodref 1 20), (0, .nameAndType 7 21), (0, u "(IIZ)V"), (0, .fieldref 10 23), (0, .nameAndType 24 25), (0, u "list"), (0, u "Lcom/example/zedcube/zedcube/engine/SlotList;"), (0, .fieldref 10 27), (0, .nameAndType 28 25), (0, u "blockSlots"), (0, .fieldref 10 30), (0, .nameAndType 31 25), (0, u "blockList"), (0, .methodref 33 34), (0, .class_ 35), (0, .nameAndType 36 37), (0, u "java/lang/Math"), (0, u "max"), (0, u "(II)I"), (0, .fieldref 10 39), (0, .nameAndType 40 14), (0, u "arrayKeys"), (35, u "([JI)I"), (15, u "occupiedAddressFrom"), (180, u "MAX_ARRAY_ONLY_DIMS"), (2, u "MAX_ARRAY_DIMS"), (1, u "LIST"), (1, u "ARRAY"), (1, u "BLOCKS"), (1, u "PACK"), (1, u "BIT_MASK"), (0, u "J"), (0, u "FORM_SHIFT"), (1, u "BLOCK_SHIFT"), (1, u "LEAST_BLOCK_SLOTS"), (1, u "(IZ)V")] 25

def k2c0 : Code := { maxStack := 6, maxLocals := 3, code := prog_13_method_1_code, exceptionTable := #[], attributes := #[] }
def k2m0 : Method := { name := "<init>", desc := "(IZ)V", sig := { parameters := [.int, .boolean], returnType := none }, accessFlags := 0, code := some k2c0 }
def k2c1 : Code := { maxStack := 4, maxLocals := 7, code := prog_13_method_9_code, exceptionTable := #[], attributes := #[] }
def k2m1 : Method := { name := "occupiedAddressFrom", desc := "([JI)I", sig := { parameters := [(.array .long), .int], returnType := some .int }, accessFlags := 0, code := some k2c1 }
/-- com/example/zedcube/zedcube/engine/Nodes -/
def k2 : Class := { plain "com/example/zedcube/zedcube/engine/Nodes" (some 0) with
  accessFlags := 48
  interfaces := #[]
  cf := some (fileOf pool2 10 #[] #[{ accessFlags := 0, nameIndex := 7, descriptorIndex := 294, attributes := #[] }, { accessFlags := 0, nameIndex := 92, descriptorIndex := 76, attributes := #[] }] 48 4 #[] #[{ accessFlags := 24, nameIndex := 273, descriptorIndex := 14, attributes := #[] }, { accessFlags := 26, nameIndex := 276, descriptorIndex := 14, attributes := #[] }, { accessFlags := 26, nameIndex := 278, descriptorIndex := 14, attributes := #[] }, { accessFlags := 26, nameIndex := 280, descriptorIndex := 14, attributes := #[] }, { accessFlags := 26, nameIndex := 282, descriptorIndex := 14, attributes := #[] }, { accessFlags := 26, nameIndex := 284, descriptorIndex := 14, attributes := #[] }, { accessFlags := 26, nameIndex := 286, descriptorIndex := 287, attributes := #[] }, { accessFlags := 26, nameIndex := 288, descriptorIndex := 14, attributes := #[] }, { accessFlags := 26, nameIndex := 290, descriptorIndex := 14, attributes := #[] }, { accessFlags := 26, nameIndex := 292, descriptorIndex := 14, attributes := #[] }, { accessFlags := 16, nameIndex := 13, descriptorIndex := 14, attributes := #[] }, { accessFlags := 18, nameIndex := 17, descriptorIndex := 18, attributes := #[] }, { accessFlags := 16, nameIndex := 24, descriptorIndex := 25, attributes := #[] }, { accessFlags := 18, nameIndex := 28, descriptorIndex := 25, attributes := #[] }, { accessFlags := 18, nameIndex := 31, descriptorIndex := 25, attributes := #[] }, { accessFlags := 18, nameIndex := 40, descriptorIndex := 14, attributes := #[] }])
  fields := #[{ name := "MAX_ARRAY_ONLY_DIMS", type := .int, accessFlags := 24, slot := 0, constantValue := 0 }, { name := "MAX_ARRAY_DIMS", type := .int, accessFlags := 26, slot := 1, constantValue := 0 }, { name := "LIST", type := .int, accessFlags := 26, slot := 2, constantValue := 0 }, { name := "ARRAY", type := .int, accessFlags := 26, slot := 3, constantValue := 0 }, { name := "BLOCKS", type := .int, accessFlags := 26, slot := 4, constantValue := 0 }, { name := "PACK", type := .int, accessFlags := 26, slot := 5, constantValue := 0 }, { name := "BIT_MASK", type := .long, accessFlags := 26, slot := 6, constantValue := 0 }, { name := "FORM_SHIFT", type := .int, accessFlags := 26, slot := 7, constantValue := 0 }, { name := "BLOCK_SHIFT", type := .int, accessFlags := 26, slot := 8, constantValue := 0 }, { name := "LEAST_BLOCK_SLOTS", type := .int, accessFlags := 26, slot := 9, constantValue := 0 }, { name := "dims", type := .int, accessFlags := 16, slot := 0, constantValue := 0 }, { name := "arrayOnly", type := .boolean, accessFlags := 18, slot := 1, constantValue := 0 }, { name := "list", type := (.object "com/example/zedcube/zedcube/engine/SlotList"), accessFlags := 16, slot := 2, constantValue := 0 }, { name := "blockSlots", type := (.object "com/example/zedcube/zedcube/engine/SlotList"), accessFlags := 18, slot := 3, constantValue := 0 }, { name := "blockList", type := (.object "com/example/zedcube/zedcube/engine/SlotList"), accessFlags := 18, slot := 4, constantValue := 0 }, { name := "arrayKeys", type := .int, accessFlags := 18, slot := 5, constantValue := 0 }]
  methods := #[k2m0, k2m1]
  instanceTypes := #[.int, .boolean, (.object "com/example/zedcube/zedcube/engine/SlotList"), (.object "com/example/zedcube/zedcube/engine/SlotList"), (.object "com/example/zedcube/zedcube/engine/SlotList"), .int]
  staticTypes := #[.int, .int, .int, .int, .int, .int, .long, .int, .int, .int]
  resolved := Array.replicate 320 none
  statics := none }

def pool3 : Array CpInfo := pool [(1, .class_ 2), (0, u "com/example/zedcube/zedcube/engine/SlotList"), (0, .methodref 4 5), (0, .class_ 6), (0, .nameAndType 7 8), (0, u "java/lang/Object"), (0, u "<init>"), (0, u "()V"), (0, .fieldref 1 10), (0, .nameAndType 11 12), (0, u "base"), (0, u "I"), (0, .fieldref 1 14), (0, .nameAndType 15 12), (0, u "keyLength"), (0, .fieldref 1 17), (0, .nameAndType 18 19), (0, u "keysApart"), (0, u "Z"), (0, .fieldref 1 21), (0, .nameAndType 22 12), (0, u "stride"), (0, .fieldref 1 24), (0, .nameAndType 25 12), (0, u "refsPerSlot"), (0, .methodref 27 28), (0, .class_ 29), (0, .nameAndType 30 31), (0, u "java/lang/Math"), (0, u "min"), (0, u "(II)I"), (0, .methodref 27 33), (0, .nameAndType 34 31), (0, u "max"), (0, .fieldref 1 36), (0, .nameAndType 37 12), (0, u "secondRead"), (4, .fieldref 1 43), (0, .nameAndType 44 12), (0, u "maxSlots"), (68, u "FIRST_CAPACITY"), (2, u "BLOCK_SLOTS"), (1, u "MAX_LIST_BYTES"), (1, u "COUNT_SHIFT"), (1, u "(IIZ)V")] 20

def k3c0 : Code := { maxStack := 6, maxLocals := 4, code := prog_17_method_1_code, exceptionTable := #[], attributes := #[] }
def k3m0 : Method := { name := "<init>", desc := "(IIZ)V", sig := { parameters := [.int, .int, .boolean], returnType := none }, accessFlags := 0, code := some k3c0 }
/-- com/example/zedcube/zedcube/engine/SlotList -/
def k3 : Class := { plain "com/example/zedcube/zedcube/engine/SlotList" (some 0) with
  accessFlags := 48
  interfaces := #[]
  cf := some (fileOf pool3 1 #[] #[{ accessFlags := 0, nameIndex := 7, descriptorIndex := 122, attributes := #[] }] 48 4 #[] #[{ accessFlags := 24, nameIndex := 113, descriptorIndex := 12, attributes := #[] }, { accessFlags := 24, nameIndex := 116, descriptorIndex := 12, attributes := #[] }, { accessFlags := 26, nameIndex := 118, descriptorIndex := 12, attributes := #[] }, { accessFlags := 24, nameIndex := 120, descriptorIndex := 12, attributes := #[] }, { accessFlags := 16, nameIndex := 11, descriptorIndex := 12, attributes := #[] }, { accessFlags := 16, nameIndex := 15, descriptorIndex := 12, attributes := #[] }, { accessFlags := 16, nameIndex := 18, descriptorIndex := 19, attributes := #[] }, { accessFlags := 18, nameIndex := 22, descriptorIndex := 12, attributes := #[] }, { accessFlags := 18, nameIndex := 25, descriptorIndex := 12, attributes := #[] }, { accessFlags := 18, nameIndex := 37, descriptorIndex := 12, attributes := #[] }, { accessFlags := 16, nameIndex := 44, descriptorIndex := 12, attributes := #[] }])
  fields := #[{ name := "FIRST_CAPACITY", type := .int, accessFlags := 24, slot := 0, constantValue := 0 }, { name := "BLOCK_SLOTS", type := .int, accessFlags := 24, slot := 1, constantValue := 0 }, { name := "MAX_LIST_BYTES", type := .int, accessFlags := 26, slot := 2, constantValue := 0 }, { name := "COUNT_SHIFT", type := .int, accessFlags := 24, slot := 3, constantValue := 0 }, { name := "base", type := .int, accessFlags := 16, slot := 0, constantValue := 0 }, { name := "keyLength", type := .int, accessFlags := 16, slot := 1, constantValue := 0 }, { name := "keysApart", type := .boolean, accessFlags := 16, slot := 2, constantValue := 0 }, { name := "stride", type := .int, accessFlags := 18, slot := 3, constantValue := 0 }, { name := "refsPerSlot", type := .int, accessFlags := 18, slot := 4, constantValue := 0 }, { name := "secondRead", type := .int, accessFlags := 18, slot := 5, constantValue := 0 }, { name := "maxSlots", type := .int, accessFlags := 16, slot := 6, constantValue := 0 }]
  methods := #[k3m0]
  instanceTypes := #[.int, .int, .boolean, .int, .int, .int, .int]
  staticTypes := #[.int, .int, .int, .int]
  resolved := Array.replicate 143 none
  statics := none }

def pool4 : Array CpInfo := pool [(1, .class_ 2), (0, u "java/lang/Math"), (1, .class_ 6), (1, u "java/lang/Object"), (0, u "<init>"), (0, u "()V"), (89, .class_ 100), (1, u "java/lang/Math$RandomNumberGeneratorHolder"), (71, u "negativeZeroFloatBits"), (0, u "J"), (2, u "negativeZeroDoubleBits"), (21, u "max"), (2, u "min"), (43, u "$assertionsDisabled"), (0, u "Z"), (88, u "(II)I"), (2, u "twoToTheDoubleScaleDown"), (0, u "D"), (4, u "twoToTheDoubleScaleUp"), (9, u "E"), (3, u "PI"), (2, u "TAU"), (2, u "DEGREES_TO_RADIANS"), (0, u "RADIANS_TO_DEGREES")] 94

def k4m0 : Method := { name := "<init>", desc := "()V", sig := { parameters := [], returnType := none }, accessFlags := 2, code := none }
def k4c1 : Code := { maxStack := 2, maxLocals := 2, code := jdk_29_method_65_code, exceptionTable := #[], attributes := #[] }
def k4m1 : Method := { name := "max", desc := "(II)I", sig := { parameters := [.int, .int], returnType := some .int }, accessFlags := 9, code := some k4c1 }
def k4c2 : Code := { maxStack := 2, maxLocals := 2, code := jdk_29_method_69_code, exceptionTable := #[], attributes := #[] }
def k4m2 : Method := { name := "min", desc := "(II)I", sig := { parameters := [.int, .int], returnType := some .int }, accessFlags := 9, code := some k4c2 }
/-- java/lang/Math -/
def k4 : Class := { plain "java/lang/Math" (some 0) with
  accessFlags := 49
  interfaces := #[]
  cf := some (fileOf pool4 1 #[.nestMembers #[98]] #[{ accessFlags := 2, nameIndex := 7, descriptorIndex := 8, attributes := #[] }, { accessFlags := 9, nameIndex := 198, descriptorIndex := 335, attributes := #[] }, { accessFlags := 9, nameIndex := 201, descriptorIndex := 335, attributes := #[] }] 49 4 #[] #[{ accessFlags := 25, nameIndex := 354, descriptorIndex := 339, attributes := #[] }, { accessFlags := 25, nameIndex := 358, descriptorIndex := 339, attributes := #[] }, { accessFlags := 25, nameIndex := 361, descriptorIndex := 339, attributes := #[] }, { accessFlags := 26, nameIndex := 364, descriptorIndex := 339, attributes := #[] }, { accessFlags := 26, nameIndex := 365, descriptorIndex := 339, attributes := #[] }, { accessFlags := 26, nameIndex := 172, descriptorIndex := 173, attributes := #[] }, { accessFlags := 26, nameIndex := 176, descriptorIndex := 173, attributes := #[] }, { accessFlags := 8, nameIndex := 344, descriptorIndex := 339, attributes := #[] }, { accessFlags := 8, nameIndex := 338, descriptorIndex := 339, attributes := #[] }, { accessFlags := 4120, nameIndex := 245, descriptorIndex := 246, attributes := #[] }])
  fields := #[{ name := "E", type := .double, accessFlags := 25, slot := 0, constantValue := 0 }, { name := "PI", type := .double, accessFlags := 25, slot := 1, constantValue := 0 }, { name := "TAU", type := .double, accessFlags := 25, slot := 2, constantValue := 0 }, { name := "DEGREES_TO_RADIANS", type := .double, accessFlags := 26, slot := 3, constantValue := 0 }, { name := "RADIANS_TO_DEGREES", type := .double, accessFlags := 26, slot := 4, constantValue := 0 }, { name := "negativeZeroFloatBits", type := .long, accessFlags := 26, slot := 5, constantValue := 0 }, { name := "negativeZeroDoubleBits", type := .long, accessFlags := 26, slot := 6, constantValue := 0 }, { name := "twoToTheDoubleScaleUp", type := .double, accessFlags := 8, slot := 7, constantValue := 0 }, { name := "twoToTheDoubleScaleDown", type := .double, accessFlags := 8, slot := 8, constantValue := 0 }, { name := "$assertionsDisabled", type := .boolean, accessFlags := 4120, slot := 9, constantValue := 0 }]
  methods := #[k4m0, k4m1, k4m2]
  instanceTypes := #[]
  staticTypes := #[.double, .double, .double, .double, .double, .long, .long, .double, .double, .boolean]
  resolved := Array.replicate 460 none
  statics := none }

def pool5 : Array CpInfo := pool [(1, u "java/lang/Cloneable"), (0, .class_ 1), (0, u "java/lang/Object"), (0, .class_ 3)] 3

/-- java/lang/Cloneable -/
def k5 : Class := { plain "java/lang/Cloneable" (some 0) with
  accessFlags := 1537
  interfaces := #[]
  cf := some (fileOf pool5 2 #[] #[] 1537 4 #[] #[])
  fields := #[]
  methods := #[]
  instanceTypes := #[]
  staticTypes := #[]
  resolved := Array.replicate 8 none
  statics := none }

def pool6 : Array CpInfo := pool [(1, u "java/io/Serializable"), (0, .class_ 1), (0, u "java/lang/Object"), (0, .class_ 3)] 3

/-- java/io/Serializable -/
def k6 : Class := { plain "java/io/Serializable" (some 0) with
  accessFlags := 1537
  interfaces := #[]
  cf := some (fileOf pool6 2 #[] #[] 1537 4 #[] #[])
  fields := #[]
  methods := #[]
  instanceTypes := #[]
  staticTypes := #[]
  resolved := Array.replicate 8 none
  statics := none }

/-- the primitive boolean -/
def k7 : Class := { plain "boolean" none with kind := .primitive 'Z', accessFlags := 0x411 }
/-- [Z -/
def k8 : Class := { plain "[Z" (some 0) with kind := .array 7 .boolean, interfaces := #[5, 6], accessFlags := 1041 }

/-- the primitive byte -/
def k9 : Class := { plain "byte" none with kind := .primitive 'B', accessFlags := 0x411 }
/-- [B -/
def k10 : Class := { plain "[B" (some 0) with kind := .array 9 .byte, interfaces := #[5, 6], accessFlags := 1041 }

/-- the primitive int -/
def k11 : Class := { plain "int" none with kind := .primitive 'I', accessFlags := 0x411 }
/-- [I -/
def k12 : Class := { plain "[I" (some 0) with kind := .array 11 .int, interfaces := #[5, 6], accessFlags := 1041 }

/-- the primitive long -/
def k13 : Class := { plain "long" none with kind := .primitive 'J', accessFlags := 0x411 }
/-- [J -/
def k14 : Class := { plain "[J" (some 0) with kind := .array 13 .long, interfaces := #[5, 6], accessFlags := 1041 }

def heap : Heap := #[]
def classes : Array Class := #[k0, k1, k2, k3, k4, k5, k6, k7, k8, k9, k10, k11, k12, k13, k14]
def interned : List (Array UInt16 × Addr) := []
def slotsUsed : Nat := 0
def theMethod : MethodId := ⟨1, 1⟩
def args0 : Array Value := #[.int 300, .int 5, .long 7, .long 8, .long 9, .long 10]
def aboutOver (below : List Frame) : State where
  vm := { classes := classes, interned := interned.toArray }
  heap := heap
  slotsUsed := slotsUsed
  threads := #[{ frames := .invoking theMethod args0 :: below }]
def below0 : List Frame := [.native { method := ⟨0, 0⟩, args := #[] }]
def about1 : State := aboutOver below0
def p0 : Program := .bare "" "" ""
def e0 : Env := launch0.env 0 0 0
theorem w_frames : about1.frames = Frame.invoking theMethod args0 :: below0 := rfl
set_option maxRecDepth 65536 in
theorem w_args : argsFit about1.vm theMethod args0 = true := by decide +kernel
set_option maxRecDepth 65536 in
theorem w_heap : heapFits about1 = true := by decide +kernel
set_option maxRecDepth 65536 in
theorem w_runnable : about1.curStatus? = some .runnable := by decide +kernel
set_option maxRecDepth 65536 in
theorem w_alone : about1.alone = true := by decide +kernel
set_option maxRecDepth 65536 in
theorem w_named : about1.methodNamed? x = some theMethod := by decide +kernel
set_option maxRecDepth 65536 in
theorem w_hears : about1.hears theMethod below0 = true := by decide +kernel
set_option maxRecDepth 65536 in
theorem w_ripe : about1.ripe theMethod args0 below0 = true := by decide +kernel
theorem w_running : about1.status = .running := rfl
set_option maxRecDepth 65536 in
theorem w_room : about1.hasRoom e0.platform room_1 = true :=
  launch0.hasRoom_least _ room_1 (by decide +kernel) (by decide +kernel) (by decide +kernel) (by decide +kernel) (by decide +kernel) (by decide +kernel)
theorem allAtoms_all (ts : List Jvm.Cond) (a : Array Jvm.Value) (st : Jvm.State) : (allAtoms ts).before a st = ts.all (fun c => c.before a st) := by
  induction ts with
  | nil => rfl
  | cons c t ih =>
    show (Jvm.Cond.and c (allAtoms t)).before a st = _
    rw [Jvm.Cond.before_and, ih, List.all_cons]
def words1 : List Jvm.Cond := Jvm.Cond.code x code maxLocals ret :: tables_1
/-- a 'code' word, met by the world's own term for the bytes: nothing is compared byte by byte -/
theorem code_word {y : MethodName} {bytes : ByteArray} {mx : Nat} {rt : Option FieldType} {a : Array Value} {s : State} {m : MethodId} {meth : Method} {c : Code} (h1 : s.methodNamed? y = some m) (h2 : s.vm.method? m = some meth) (h3 : meth.code = some c) (h4 : c.code = bytes)
    (h5 : (c.maxLocals == mx && c.exceptionTable.isEmpty && decide (c.maxStack ≤ mostOperands) && decide (meth.sig.returnType = rt) && !meth.locks && decide (parseMethodDescriptor y.desc = some meth.sig)) = true) : (Jvm.Cond.code y bytes mx rt).before a s = true := by
  simp only [Bool.and_eq_true, beq_iff_eq, Bool.not_eq_true', decide_eq_true_eq] at h5
  obtain ⟨⟨⟨⟨⟨g1, g2⟩, g3⟩, g4⟩, g5⟩, g6⟩ := h5
  simp [Cond.before, Cond.holds, Cond.value, h1, h2, h3, h4, g1, g2, g3, g4, g5, g6]
def isCode : Jvm.Cond → Bool
  | .code _ _ _ _ => true
  | _ => false
theorem all_split {L : List Jvm.Cond} {P : Jvm.Cond → Bool} (h1 : L.all (fun c => isCode c || P c) = true) (h2 : ∀ c ∈ L.filter isCode, P c = true) : L.all P = true := by
  refine List.all_eq_true.mpr fun c hc => ?_
  have h := List.all_eq_true.mp h1 c hc
  rcases Bool.eq_false_or_eq_true (isCode c) with hi | hi
  · exact h2 c (List.mem_filter.mpr ⟨hc, hi⟩)
  · simpa [hi] using h
set_option maxRecDepth 65536 in
theorem w_c0 : (Jvm.Cond.code x code maxLocals ret).before args0 about1 = true := code_word (m := ⟨1, 1⟩) (meth := k1m1) (c := k1c1) (by decide +kernel) rfl rfl rfl (by decide +kernel)
set_option maxRecDepth 65536 in
theorem w_c1 : (Jvm.Cond.code ({ cls := "com/example/zedcube/zedcube/engine/NodesOccupiedAddressFromPinLaw", name := "keep", desc := "(JII)J" } : Jvm.MethodName) method_3_code (6 : Nat) (Option.some Jvm.ClassFile.FieldType.long)).before args0 about1 = true := code_word (m := ⟨1, 2⟩) (meth := k1m2) (c := k1c2) (by decide +kernel) rfl rfl rfl (by decide +kernel)
set_option maxRecDepth 65536 in
theorem w_c2 : (Jvm.Cond.code ({ cls := "com/example/zedcube/zedcube/engine/Nodes", name := "<init>", desc := "(IZ)V" } : Jvm.MethodName) prog_13_method_1_code (3 : Nat) (Option.none : Option Jvm.ClassFile.FieldType)).before args0 about1 = true := code_word (m := ⟨2, 0⟩) (meth := k2m0) (c := k2c0) (by decide +kernel) rfl rfl rfl (by decide +kernel)
set_option maxRecDepth 65536 in
theorem w_c3 : (Jvm.Cond.code ({ cls := "java/lang/Object", name := "<init>", desc := "()V" } : Jvm.MethodName) object_method_1_code (1 : Nat) (Option.none : Option Jvm.ClassFile.FieldType)).before args0 about1 = true := code_word (m := ⟨0, 0⟩) (meth := k0m0) (c := k0c0) (by decide +kernel) rfl rfl rfl (by decide +kernel)
set_option maxRecDepth 65536 in
theorem w_c4 : (Jvm.Cond.code ({ cls := "com/example/zedcube/zedcube/engine/SlotList", name := "<init>", desc := "(IIZ)V" } : Jvm.MethodName) prog_17_method_1_code (4 : Nat) (Option.none : Option Jvm.ClassFile.FieldType)).before args0 about1 = true := code_word (m := ⟨3, 0⟩) (meth := k3m0) (c := k3c0) (by decide +kernel) rfl rfl rfl (by decide +kernel)
set_option maxRecDepth 65536 in
theorem w_c5 : (Jvm.Cond.code ({ cls := "java/lang/Math", name := "min", desc := "(II)I" } : Jvm.MethodName) jdk_29_method_69_code (2 : Nat) (Option.some Jvm.ClassFile.FieldType.int)).before args0 about1 = true := code_word (m := ⟨4, 2⟩) (meth := k4m2) (c := k4c2) (by decide +kernel) rfl rfl rfl (by decide +kernel)
set_option maxRecDepth 65536 in
theorem w_c6 : (Jvm.Cond.code ({ cls := "java/lang/Math", name := "max", desc := "(II)I" } : Jvm.MethodName) jdk_29_method_65_code (2 : Nat) (Option.some Jvm.ClassFile.FieldType.int)).before args0 about1 = true := code_word (m := ⟨4, 1⟩) (meth := k4m1) (c := k4c1) (by decide +kernel) rfl rfl rfl (by decide +kernel)
set_option maxRecDepth 65536 in
theorem w_c7 : (Jvm.Cond.code ({ cls := "com/example/zedcube/zedcube/engine/Nodes", name := "occupiedAddressFrom", desc := "([JI)I" } : Jvm.MethodName) prog_13_method_9_code (7 : Nat) (Option.some Jvm.ClassFile.FieldType.int)).before args0 about1 = true := code_word (m := ⟨2, 1⟩) (meth := k2m1) (c := k2c1) (by decide +kernel) rfl rfl rfl (by decide +kernel)
set_option maxRecDepth 65536 in
theorem w_c8 : (Jvm.Cond.code ({ cls := "com/example/zedcube/zedcube/engine/NodesOccupiedAddressFromPinLaw", name := "expected", desc := "([ZII)I" } : Jvm.MethodName) method_4_code (3 : Nat) (Option.some Jvm.ClassFile.FieldType.int)).before args0 about1 = true := code_word (m := ⟨1, 3⟩) (meth := k1m3) (c := k1c3) (by decide +kernel) rfl rfl rfl (by decide +kernel)
def codes1 : List Jvm.Cond := [Jvm.Cond.code x code maxLocals ret, Jvm.Cond.code ({ cls := "com/example/zedcube/zedcube/engine/NodesOccupiedAddressFromPinLaw", name := "keep", desc := "(JII)J" } : Jvm.MethodName) method_3_code (6 : Nat) (Option.some Jvm.ClassFile.FieldType.long), Jvm.Cond.code ({ cls := "com/example/zedcube/zedcube/engine/Nodes", name := "<init>", desc := "(IZ)V" } : Jvm.MethodName) prog_13_method_1_code (3 : Nat) (Option.none : Option Jvm.ClassFile.FieldType), Jvm.Cond.code ({ cls := "java/lang/Object", name := "<init>", desc := "()V" } : Jvm.MethodName) object_method_1_code (1 : Nat) (Option.none : Option Jvm.ClassFile.FieldType), Jvm.Cond.code ({ cls := "com/example/zedcube/zedcube/engine/SlotList", name := "<init>", desc := "(IIZ)V" } : Jvm.MethodName) prog_17_method_1_code (4 : Nat) (Option.none : Option Jvm.ClassFile.FieldType), Jvm.Cond.code ({ cls := "java/lang/Math", name := "min", desc := "(II)I" } : Jvm.MethodName) jdk_29_method_69_code (2 : Nat) (Option.some Jvm.ClassFile.FieldType.int), Jvm.Cond.code ({ cls := "java/lang/Math", name := "max", desc := "(II)I" } : Jvm.MethodName) jdk_29_method_65_code (2 : Nat) (Option.some Jvm.ClassFile.FieldType.int), Jvm.Cond.code ({ cls := "com/example/zedcube/zedcube/engine/Nodes", name := "occupiedAddressFrom", desc := "([JI)I" } : Jvm.MethodName) prog_13_method_9_code (7 : Nat) (Option.some Jvm.ClassFile.FieldType.int), Jvm.Cond.code ({ cls := "com/example/zedcube/zedcube/engine/NodesOccupiedAddressFromPinLaw", name := "expected", desc := "([ZII)I" } : Jvm.MethodName) method_4_code (3 : Nat) (Option.some Jvm.ClassFile.FieldType.int)]
set_option maxRecDepth 65536 in
theorem codes_eq : words1.filter isCode = codes1 := rfl
theorem w_codes : ∀ c ∈ words1.filter isCode, c.before args0 about1 = true := by
  rw [codes_eq]
  intro c hc
  simp only [codes1, List.mem_cons, List.not_mem_nil, or_false] at hc
  rcases hc with rfl | rfl | rfl | rfl | rfl | rfl | rfl | rfl | rfl
  · exact w_c0
  · exact w_c1
  · exact w_c2
  · exact w_c3
  · exact w_c4
  · exact w_c5
  · exact w_c6
  · exact w_c7
  · exact w_c8
set_option maxRecDepth 65536 in
theorem w_t1 : (words1.take 24).all (fun c => isCode c || c.before args0 about1) = true := by decide +kernel
set_option maxRecDepth 65536 in
theorem w_t2 : ((words1.drop 24).take 24).all (fun c => isCode c || c.before args0 about1) = true := by decide +kernel
set_option maxRecDepth 65536 in
theorem w_t3 : ((words1.drop 24).drop 24).all (fun c => isCode c || c.before args0 about1) = true := by decide +kernel
theorem w_tables : (allAtoms (Jvm.Cond.code x code maxLocals ret :: tables_1)).before args0 about1 = true := by
  rw [allAtoms_all]
  show words1.all (fun c => c.before args0 about1) = true
  refine all_split ?_ w_codes
  rw [← List.take_append_drop 24 words1, List.all_append, w_t1, ← List.take_append_drop 24 (words1.drop 24), List.all_append, w_t2, w_t3]
  rfl
set_option maxRecDepth 65536 in
theorem w_case : (Jvm.Cond.and given_1 narrow_1).before args0 about1 = true := by decide +kernel
theorem w_applies : (headSpec (Jvm.Cond.code x code maxLocals ret :: tables_1) room_1).applies x e0.platform about1 = true :=
  (Spec.applies_iff w_frames).mpr ⟨w_running, w_runnable, w_alone, w_named, w_hears, w_ripe, w_room, w_tables⟩
theorem atStart : AtStart classFile x code maxLocals ret World_1 tables_1 room_1 Calls_1 rest_1 Pre_1 launch0 p0 e0 about1 theMethod args0 below0 :=
  ⟨lists_1, trivial, launch0.admits_env _ _ _, launch0.least_env, fairChoices_fair.cas, fairChoices_fair.clock, w_frames, w_args, w_heap, w_applies, trivial, trivial, w_case⟩
end start1
theorem witness_1 : WitnessClaimed_1 := ⟨start1.p0, start1.e0, start1.about1, start1.theMethod, start1.args0, start1.below0, start1.atStart⟩
end Jvm.Pilot.@@N@@
