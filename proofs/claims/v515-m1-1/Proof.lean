import JvmDerived
import JvmDerived.Pilot.@@N@@Statement
import JvmDerived.Pilot.@@N@@Code
set_option linter.unusedVariables false
set_option linter.unusedSimpArgs false
namespace Jvm.Pilot.@@N@@
open Jvm Jvm.ClassFile Sem Op Lib Jvm.Free Jvm.Stand Jvm.LawKit Jvm.RoadKit Bundle Jvm.Pilot.@@N@@.Jvm.D
/-- from any state that stands here with this heap the walk comes to a return with Q -/
def Go (p : Program) (l : Launch) (e : Env) (R : Room) (s : State) (m : MethodId) (args : Array Value) (below : List Frame) (meth : Method) (c : Code) (n0 : Nat) (Q : Option Value → Heap → Prop) (h : Heap) (k n : Nat) (f : JFrame) : Prop :=
  ∀ T L, Stand p l e R s m args below meth c T L k n → T.heap = h → Fr n0 L →
    ∃ s₂ o, Steps p.tables e below (T.setTop f) s₂ ∧ s₂.status = .running ∧ Ended s₂ below o ∧
      ∃ v L', o = .returned v ∧ (Q v s₂.heap ∧ Fr n0 L') ∧ FrameEnd s o s₂ L' R.cells R.slots
/-- what is known of the body that is walked -/
def Kx (Z : State) (own nm : String) (bytes : ByteArray) (ml : Nat) (rt : Option FieldType) (p : Program) (s : State) (m : MethodId) (meth : Method) (c : Code) : Prop :=
  p.tables.exec = Jvm.exec ∧ Z.Warmed39 s.vm ∧ s.vm.findClass own = some m.cls ∧ c.code = bytes ∧ c.maxLocals = ml ∧ meth.sig.returnType = rt ∧ meth.locks = false ∧ meth.name = nm
/-- a method's contract, at given arguments and heap -/
def Meets (l : Launch) (y : MethodName) (bytes : ByteArray) (ml : Nat) (rt : Option FieldType) (rm : Room) (Z : State) (as : Array Value) (h0 : Heap) (n0 : Nat) (Q : Option Value → Heap → Prop) : Prop :=
  ∀ ws : List Jvm.Cond, MetFree l y (head1 (Jvm.Cond.code y bytes ml rt :: ws) rm) (fun a U => a = as ∧ Z.Warmed39 U.vm ∧ U.heap = h0) (fun _ _ _ _ _ => True)
    (fun _ U o U' => ∃ v L, o = .returned v ∧ (Q v U'.heap ∧ Fr n0 L) ∧ FrameEnd U o U' L rm.cells rm.slots)
/-- an array of ints, bytes, booleans ..: its values as a list -/
def IA (Z : State) (h : Heap) (a : Addr) (ty : FieldType) (xs : List Int32) : Prop := ∃ cl : Cell, Arr Z h a cl ty ∧ cl.slots = (xs.map Value.int).toArray
/-- an array of longs -/
def LA (Z : State) (h : Heap) (a : Addr) (xs : List Int64) : Prop := ∃ cl : Cell, Arr Z h a cl .long ∧ cl.slots = (xs.map Value.long).toArray
section ArrFacts
variable {Z : State} {h h' : Heap} {a : Addr} {ty : FieldType} {xs : List Int32} {ys : List Int64} {ws : List Addr}
theorem IA.keep (F : IA Z h a ty xs) (K : Keep h h' ws) (q : a ∉ ws) : IA Z h' a ty xs := by obtain ⟨c, A, r⟩ := F; exact ⟨c, ⟨K.2.1 a c A.1 q, A.2⟩, r⟩
theorem LA.keep (F : LA Z h a ys) (K : Keep h h' ws) (q : a ∉ ws) : LA Z h' a ys := by obtain ⟨c, A, r⟩ := F; exact ⟨c, ⟨K.2.1 a c A.1 q, A.2⟩, r⟩
theorem IA.lt (F : IA Z h a ty xs) : a < h.size := by obtain ⟨c, A, -⟩ := F; exact A.lt
theorem LA.lt (F : LA Z h a ys) : a < h.size := by obtain ⟨c, A, -⟩ := F; exact A.lt
theorem IA.set {j : Nat} {x : Int32} (F : IA Z h a ty xs) (W : Wr h h' a j (.int x)) : IA Z h' a ty (xs.set j x) := by
  obtain ⟨c, A, r⟩ := F
  refine ⟨_, A.same W, ?_⟩
  simp [Cell.setSlot, r, List.map_set]
theorem LA.set {j : Nat} {x : Int64} (F : LA Z h a ys) (W : Wr h h' a j (.long x)) : LA Z h' a (ys.set j x) := by
  obtain ⟨c, A, r⟩ := F
  refine ⟨_, A.same W, ?_⟩
  simp [Cell.setSlot, r, List.map_set]
theorem keep_ext (E : Ext h h') : Keep h h' [] := (Keep.refl h []).ext E
theorem own_clamp {j : Int32} {n : Nat} (h0 : ¬ j < 0) (hn : j.toNatClampNeg < n) {cl : Cell} (hs : cl.slots.size = n) : ¬ (j < 0 ∨ cl.slots.size ≤ j.toNatClampNeg) := by
  rw [hs]; rintro (q | q)
  · exact h0 q
  · omega
theorem own_ne_of_lt {a b : Nat} {h : Heap} (q : a < h.size) (r : b = h.size) : a ≠ b := by omega
end ArrFacts
section GoSteps
variable {p : Program} {l : Launch} {e : Env} {R : Room} {s : State} {m : MethodId} {args : Array Value} {below : List Frame} {meth : Method} {c : Code} {n0 : Nat} {Q : Option Value → Heap → Prop} {h : Heap} {k n : Nat} {Z : State} {own nm : String} {bytes : ByteArray} {ml : Nat} {rt : Option FieldType} {Ls : Array Slot} {st : List Value} {a0 : Array Value}
theorem go_step {f f' : JFrame} (st : ∀ T L, Stand p l e R s m args below meth c T L k n → ∀ t, Steps p.tables e below (T.setTop f') t → Steps p.tables e below (T.setTop f) t) (hr : Go p l e R s m args below meth c n0 Q h k n f') : Go p l e R s m args below meth c n0 Q h k n f := by
  intro T L X eT N
  obtain ⟨s₂, o, S, r⟩ := hr T L X eT N
  exact ⟨s₂, o, st T L X _ S, r⟩
theorem go_mono {f : JFrame} {k' n' : Nat} (hk : k ≤ k') (hn : n ≤ n') (hr : Go p l e R s m args below meth c n0 Q h k' n' f) : Go p l e R s m args below meth c n0 Q h k n f := by
  intro T L X eT N
  exact hr T L (X.more hk hn) eT N
theorem go_post {f : JFrame} {Q' : Option Value → Heap → Prop} (hq : ∀ v h, Q' v h → Q v h) (hr : Go p l e R s m args below meth c n0 Q' h k n f) : Go p l e R s m args below meth c n0 Q h k n f := by
  intro T L X eT N
  obtain ⟨s₂, o, S, r1, r2, v, L', q1, q2, q3⟩ := hr T L X eT N
  exact ⟨s₂, o, S, r1, r2, v, L', q1, ⟨hq _ _ q2.1, q2.2⟩, q3⟩
theorem go_cast {pc : Nat} {k' n' : Nat} {st' : List Value} (q1 : k = k') (q2 : n = n') (q3 : st = st') (hr : Go p l e R s m args below meth c n0 Q h k' n' (mkF m pc Ls st')) : Go p l e R s m args below meth c n0 Q h k n (mkF m pc Ls st) := by subst q1 q2 q3; exact hr
theorem g_iload (K : Kx Z own nm bytes ml rt p s m meth c) (pc : Nat) {i : Nat} {v : Int32} (hd : decode bytes pc = .ok (.iload i, 2)) (hl : Ls[i]? = some (.val (.int v))) (hr : Go p l e R s m args below meth c n0 Q h k n (mkF m (pc + 2) Ls (.int v :: st))) : Go p l e R s m args below meth c n0 Q h k n (mkF m pc Ls st) :=
  go_step (fun T L X t S => XS.iload X.here K.1 rfl (hb K.2.2.2.1 hd) hl S) hr
theorem g_iloadN (K : Kx Z own nm bytes ml rt p s m meth c) (pc : Nat) {i : Fin 4} {v : Int32} (hd : decode bytes pc = .ok (.iload_n i, 1)) (hl : Ls[i.val]? = some (.val (.int v))) (hr : Go p l e R s m args below meth c n0 Q h k n (mkF m (pc + 1) Ls (.int v :: st))) : Go p l e R s m args below meth c n0 Q h k n (mkF m pc Ls st) :=
  go_step (fun T L X t S => XS.iloadN X.here K.1 rfl (hb K.2.2.2.1 hd) hl S) hr
theorem g_lload (K : Kx Z own nm bytes ml rt p s m meth c) (pc : Nat) {i : Nat} {v : Int64} (hd : decode bytes pc = .ok (.lload i, 2)) (hl : Ls[i]? = some (.val (.long v))) (hr : Go p l e R s m args below meth c n0 Q h k n (mkF m (pc + 2) Ls (.long v :: st))) : Go p l e R s m args below meth c n0 Q h k n (mkF m pc Ls st) :=
  go_step (fun T L X t S => XT.lload X.here K.1 rfl (hb K.2.2.2.1 hd) hl S) hr
theorem g_lloadN (K : Kx Z own nm bytes ml rt p s m meth c) (pc : Nat) {i : Fin 4} {v : Int64} (hd : decode bytes pc = .ok (.lload_n i, 1)) (hl : Ls[i.val]? = some (.val (.long v))) (hr : Go p l e R s m args below meth c n0 Q h k n (mkF m (pc + 1) Ls (.long v :: st))) : Go p l e R s m args below meth c n0 Q h k n (mkF m pc Ls st) :=
  go_step (fun T L X t S => XT.lloadN X.here K.1 rfl (hb K.2.2.2.1 hd) hl S) hr
theorem g_aload (K : Kx Z own nm bytes ml rt p s m meth c) (pc : Nat) {i : Nat} {v : Value} (hd : decode bytes pc = .ok (.aload i, 2)) (hl : Ls[i]? = some (.val v)) (hv : v.isRef = true) (hr : Go p l e R s m args below meth c n0 Q h k n (mkF m (pc + 2) Ls (v :: st))) : Go p l e R s m args below meth c n0 Q h k n (mkF m pc Ls st) :=
  go_step (fun T L X t S => XS.aload X.here K.1 rfl (hb K.2.2.2.1 hd) hl hv S) hr
theorem g_aloadN (K : Kx Z own nm bytes ml rt p s m meth c) (pc : Nat) {i : Fin 4} {v : Value} (hd : decode bytes pc = .ok (.aload_n i, 1)) (hl : Ls[i.val]? = some (.val v)) (hv : v.isRef = true) (hr : Go p l e R s m args below meth c n0 Q h k n (mkF m (pc + 1) Ls (v :: st))) : Go p l e R s m args below meth c n0 Q h k n (mkF m pc Ls st) :=
  go_step (fun T L X t S => XS.aloadN X.here K.1 rfl (hb K.2.2.2.1 hd) hl hv S) hr
theorem g_istore (K : Kx Z own nm bytes ml rt p s m meth c) (pc : Nat) {i : Nat} {v : Int32} (l' : Array Slot) (hd : decode bytes pc = .ok (.istore i, 2)) (hl : storeLocals Ls i (.int v) = some l') (hr : Go p l e R s m args below meth c n0 Q h k n (mkF m (pc + 2) l' st)) : Go p l e R s m args below meth c n0 Q h k n (mkF m pc Ls (.int v :: st)) :=
  go_step (fun T L X t S => XS.istore X.here K.1 rfl (hb K.2.2.2.1 hd) rfl hl S) hr
theorem g_istoreN (K : Kx Z own nm bytes ml rt p s m meth c) (pc : Nat) {i : Fin 4} {v : Int32} (l' : Array Slot) (hd : decode bytes pc = .ok (.istore_n i, 1)) (hl : storeLocals Ls i.val (.int v) = some l') (hr : Go p l e R s m args below meth c n0 Q h k n (mkF m (pc + 1) l' st)) : Go p l e R s m args below meth c n0 Q h k n (mkF m pc Ls (.int v :: st)) :=
  go_step (fun T L X t S => XS.istoreN X.here K.1 rfl (hb K.2.2.2.1 hd) rfl hl S) hr
theorem g_lstore (K : Kx Z own nm bytes ml rt p s m meth c) (pc : Nat) {i : Nat} {v : Int64} (l' : Array Slot) (hd : decode bytes pc = .ok (.lstore i, 2)) (hl : storeLocals Ls i (.long v) = some l') (hr : Go p l e R s m args below meth c n0 Q h k n (mkF m (pc + 2) l' st)) : Go p l e R s m args below meth c n0 Q h k n (mkF m pc Ls (.long v :: st)) :=
  go_step (fun T L X t S => XT.lstore X.here K.1 rfl (hb K.2.2.2.1 hd) rfl hl S) hr
theorem g_lstoreN (K : Kx Z own nm bytes ml rt p s m meth c) (pc : Nat) {i : Fin 4} {v : Int64} (l' : Array Slot) (hd : decode bytes pc = .ok (.lstore_n i, 1)) (hl : storeLocals Ls i.val (.long v) = some l') (hr : Go p l e R s m args below meth c n0 Q h k n (mkF m (pc + 1) l' st)) : Go p l e R s m args below meth c n0 Q h k n (mkF m pc Ls (.long v :: st)) :=
  go_step (fun T L X t S => XT.lstoreN X.here K.1 rfl (hb K.2.2.2.1 hd) rfl hl S) hr
theorem g_astore (K : Kx Z own nm bytes ml rt p s m meth c) (pc : Nat) {i : Nat} {v : Value} (l' : Array Slot) (hd : decode bytes pc = .ok (.astore i, 2)) (hv : v.isRef = true) (hl : storeLocals Ls i v = some l') (hr : Go p l e R s m args below meth c n0 Q h k n (mkF m (pc + 2) l' st)) : Go p l e R s m args below meth c n0 Q h k n (mkF m pc Ls (v :: st)) :=
  go_step (fun T L X t S => XS.astore X.here K.1 rfl (hb K.2.2.2.1 hd) rfl hv hl S) hr
theorem g_astoreN (K : Kx Z own nm bytes ml rt p s m meth c) (pc : Nat) {i : Fin 4} {v : Value} (l' : Array Slot) (hd : decode bytes pc = .ok (.astore_n i, 1)) (hv : v.isRef = true) (hl : storeLocals Ls i.val v = some l') (hr : Go p l e R s m args below meth c n0 Q h k n (mkF m (pc + 1) l' st)) : Go p l e R s m args below meth c n0 Q h k n (mkF m pc Ls (v :: st)) :=
  go_step (fun T L X t S => XS.astoreN X.here K.1 rfl (hb K.2.2.2.1 hd) rfl hv hl S) hr
theorem g_iconst (K : Kx Z own nm bytes ml rt p s m meth c) (pc : Nat) {i : Int} (v : Int32) (hd : decode bytes pc = .ok (.iconst i, 1)) (hv : Int32.ofInt i = v) (hr : Go p l e R s m args below meth c n0 Q h k n (mkF m (pc + 1) Ls (.int v :: st))) : Go p l e R s m args below meth c n0 Q h k n (mkF m pc Ls st) :=
  go_step (fun T L X t S => XT.iconstV X.here K.1 rfl v (hb K.2.2.2.1 hd) hv S) hr
theorem g_bipush (K : Kx Z own nm bytes ml rt p s m meth c) (pc : Nat) {i : Int} (v : Int32) (hd : decode bytes pc = .ok (.bipush i, 2)) (hv : (Int8.ofInt i).toInt32 = v) (hr : Go p l e R s m args below meth c n0 Q h k n (mkF m (pc + 2) Ls (.int v :: st))) : Go p l e R s m args below meth c n0 Q h k n (mkF m pc Ls st) :=
  go_step (fun T L X t S => XT.bipushV X.here K.1 rfl v (hb K.2.2.2.1 hd) hv S) hr
theorem g_sipush (K : Kx Z own nm bytes ml rt p s m meth c) (pc : Nat) {i : Int} (v : Int32) (hd : decode bytes pc = .ok (.sipush i, 3)) (hv : (Int16.ofInt i).toInt32 = v) (hr : Go p l e R s m args below meth c n0 Q h k n (mkF m (pc + 3) Ls (.int v :: st))) : Go p l e R s m args below meth c n0 Q h k n (mkF m pc Ls st) :=
  go_step (fun T L X t S => XT.sipushV X.here K.1 rfl v (hb K.2.2.2.1 hd) hv S) hr
theorem g_lconst (K : Kx Z own nm bytes ml rt p s m meth c) (pc : Nat) {i : Fin 2} (v : Int64) (hd : decode bytes pc = .ok (.lconst i, 1)) (hv : Int64.ofNat i = v) (hr : Go p l e R s m args below meth c n0 Q h k n (mkF m (pc + 1) Ls (.long v :: st))) : Go p l e R s m args below meth c n0 Q h k n (mkF m pc Ls st) :=
  go_step (fun T L X t S => XT.lconstV X.here K.1 rfl v (hb K.2.2.2.1 hd) hv S) hr
theorem g_aconst_null (K : Kx Z own nm bytes ml rt p s m meth c) (pc : Nat)  (hd : decode bytes pc = .ok (.aconst_null, 1))  (hr : Go p l e R s m args below meth c n0 Q h k n (mkF m (pc + 1) Ls (.null :: st))) : Go p l e R s m args below meth c n0 Q h k n (mkF m pc Ls st) :=
  go_step (fun T L X t S => XS.aconstNull X.here K.1 rfl (hb K.2.2.2.1 hd)  S) hr
theorem g_iinc (K : Kx Z own nm bytes ml rt p s m meth c) (pc : Nat) {i : Nat} {cst : Int} {x : Int32} (v : Int32) (l' : Array Slot) (hd : decode bytes pc = .ok (.iinc i cst, 3)) (hv : Int32.ofInt cst = v) (hl : Ls[i]? = some (.val (.int x))) (hl' : storeLocals Ls i (.int (x + v)) = some l') (hr : Go p l e R s m args below meth c n0 Q h k n (mkF m (pc + 3) l' st)) : Go p l e R s m args below meth c n0 Q h k n (mkF m pc Ls st) :=
  go_step (fun T L X t S => XT.iincV X.here K.1 rfl v (hb K.2.2.2.1 hd) hv hl hl' S) hr
theorem g_iadd (K : Kx Z own nm bytes ml rt p s m meth c) (pc : Nat) {x y : Int32} (hd : decode bytes pc = .ok (.iadd, 1))  (hr : Go p l e R s m args below meth c n0 Q h k n (mkF m (pc + 1) Ls (.int (x + y) :: st))) : Go p l e R s m args below meth c n0 Q h k n (mkF m pc Ls (.int y :: .int x :: st)) :=
  go_step (fun T L X t S => XS.iadd X.here K.1 rfl (hb K.2.2.2.1 hd) rfl S) hr
theorem g_isub (K : Kx Z own nm bytes ml rt p s m meth c) (pc : Nat) {x y : Int32} (hd : decode bytes pc = .ok (.isub, 1))  (hr : Go p l e R s m args below meth c n0 Q h k n (mkF m (pc + 1) Ls (.int (x - y) :: st))) : Go p l e R s m args below meth c n0 Q h k n (mkF m pc Ls (.int y :: .int x :: st)) :=
  go_step (fun T L X t S => XS.isub X.here K.1 rfl (hb K.2.2.2.1 hd) rfl S) hr
theorem g_imul (K : Kx Z own nm bytes ml rt p s m meth c) (pc : Nat) {x y : Int32} (hd : decode bytes pc = .ok (.imul, 1))  (hr : Go p l e R s m args below meth c n0 Q h k n (mkF m (pc + 1) Ls (.int (x * y) :: st))) : Go p l e R s m args below meth c n0 Q h k n (mkF m pc Ls (.int y :: .int x :: st)) :=
  go_step (fun T L X t S => XS.imul X.here K.1 rfl (hb K.2.2.2.1 hd) rfl S) hr
theorem g_iand (K : Kx Z own nm bytes ml rt p s m meth c) (pc : Nat) {x y : Int32} (hd : decode bytes pc = .ok (.iand, 1))  (hr : Go p l e R s m args below meth c n0 Q h k n (mkF m (pc + 1) Ls (.int (x &&& y) :: st))) : Go p l e R s m args below meth c n0 Q h k n (mkF m pc Ls (.int y :: .int x :: st)) :=
  go_step (fun T L X t S => XS.iand X.here K.1 rfl (hb K.2.2.2.1 hd) rfl S) hr
theorem g_ior (K : Kx Z own nm bytes ml rt p s m meth c) (pc : Nat) {x y : Int32} (hd : decode bytes pc = .ok (.ior, 1))  (hr : Go p l e R s m args below meth c n0 Q h k n (mkF m (pc + 1) Ls (.int (x ||| y) :: st))) : Go p l e R s m args below meth c n0 Q h k n (mkF m pc Ls (.int y :: .int x :: st)) :=
  go_step (fun T L X t S => XT.ior X.here K.1 rfl (hb K.2.2.2.1 hd) rfl S) hr
theorem g_ixor (K : Kx Z own nm bytes ml rt p s m meth c) (pc : Nat) {x y : Int32} (hd : decode bytes pc = .ok (.ixor, 1))  (hr : Go p l e R s m args below meth c n0 Q h k n (mkF m (pc + 1) Ls (.int (x ^^^ y) :: st))) : Go p l e R s m args below meth c n0 Q h k n (mkF m pc Ls (.int y :: .int x :: st)) :=
  go_step (fun T L X t S => XT.ixor X.here K.1 rfl (hb K.2.2.2.1 hd) rfl S) hr
theorem g_ishl (K : Kx Z own nm bytes ml rt p s m meth c) (pc : Nat) {x y : Int32} (hd : decode bytes pc = .ok (.ishl, 1))  (hr : Go p l e R s m args below meth c n0 Q h k n (mkF m (pc + 1) Ls (.int (x <<< (y &&& 31)) :: st))) : Go p l e R s m args below meth c n0 Q h k n (mkF m pc Ls (.int y :: .int x :: st)) :=
  go_step (fun T L X t S => XT.ishl X.here K.1 rfl (hb K.2.2.2.1 hd) rfl S) hr
theorem g_ishr (K : Kx Z own nm bytes ml rt p s m meth c) (pc : Nat) {x y : Int32} (hd : decode bytes pc = .ok (.ishr, 1))  (hr : Go p l e R s m args below meth c n0 Q h k n (mkF m (pc + 1) Ls (.int (x >>> (y &&& 31)) :: st))) : Go p l e R s m args below meth c n0 Q h k n (mkF m pc Ls (.int y :: .int x :: st)) :=
  go_step (fun T L X t S => XT.ishr X.here K.1 rfl (hb K.2.2.2.1 hd) rfl S) hr
theorem g_iushr (K : Kx Z own nm bytes ml rt p s m meth c) (pc : Nat) {x y : Int32} (hd : decode bytes pc = .ok (.iushr, 1))  (hr : Go p l e R s m args below meth c n0 Q h k n (mkF m (pc + 1) Ls (.int (XT.ushr x y) :: st))) : Go p l e R s m args below meth c n0 Q h k n (mkF m pc Ls (.int y :: .int x :: st)) :=
  go_step (fun T L X t S => XT.iushr X.here K.1 rfl (hb K.2.2.2.1 hd) rfl S) hr
theorem g_idiv (K : Kx Z own nm bytes ml rt p s m meth c) (pc : Nat) {x y : Int32} (hd : decode bytes pc = .ok (.idiv, 1)) (hy : y ≠ 0) (hr : Go p l e R s m args below meth c n0 Q h k n (mkF m (pc + 1) Ls (.int (x / y) :: st))) : Go p l e R s m args below meth c n0 Q h k n (mkF m pc Ls (.int y :: .int x :: st)) :=
  go_step (fun T L X t S => XS.idiv X.here K.1 rfl (hb K.2.2.2.1 hd) rfl hy S) hr
theorem g_irem (K : Kx Z own nm bytes ml rt p s m meth c) (pc : Nat) {x y : Int32} (hd : decode bytes pc = .ok (.irem, 1)) (hy : y ≠ 0) (hr : Go p l e R s m args below meth c n0 Q h k n (mkF m (pc + 1) Ls (.int (x % y) :: st))) : Go p l e R s m args below meth c n0 Q h k n (mkF m pc Ls (.int y :: .int x :: st)) :=
  go_step (fun T L X t S => iremM X K.1 rfl (hb K.2.2.2.1 hd) rfl hy S) hr
theorem g_ineg (K : Kx Z own nm bytes ml rt p s m meth c) (pc : Nat) {x : Int32} (hd : decode bytes pc = .ok (.ineg, 1))  (hr : Go p l e R s m args below meth c n0 Q h k n (mkF m (pc + 1) Ls (.int (-x) :: st))) : Go p l e R s m args below meth c n0 Q h k n (mkF m pc Ls (.int x :: st)) :=
  go_step (fun T L X t S => XS.ineg X.here K.1 rfl (hb K.2.2.2.1 hd) rfl S) hr
theorem g_ladd (K : Kx Z own nm bytes ml rt p s m meth c) (pc : Nat) {x y : Int64} (hd : decode bytes pc = .ok (.ladd, 1))  (hr : Go p l e R s m args below meth c n0 Q h k n (mkF m (pc + 1) Ls (.long (x + y) :: st))) : Go p l e R s m args below meth c n0 Q h k n (mkF m pc Ls (.long y :: .long x :: st)) :=
  go_step (fun T L X t S => XT.ladd X.here K.1 rfl (hb K.2.2.2.1 hd) rfl S) hr
theorem g_lsub (K : Kx Z own nm bytes ml rt p s m meth c) (pc : Nat) {x y : Int64} (hd : decode bytes pc = .ok (.lsub, 1))  (hr : Go p l e R s m args below meth c n0 Q h k n (mkF m (pc + 1) Ls (.long (x - y) :: st))) : Go p l e R s m args below meth c n0 Q h k n (mkF m pc Ls (.long y :: .long x :: st)) :=
  go_step (fun T L X t S => XT.lsub X.here K.1 rfl (hb K.2.2.2.1 hd) rfl S) hr
theorem g_lmul (K : Kx Z own nm bytes ml rt p s m meth c) (pc : Nat) {x y : Int64} (hd : decode bytes pc = .ok (.lmul, 1))  (hr : Go p l e R s m args below meth c n0 Q h k n (mkF m (pc + 1) Ls (.long (x * y) :: st))) : Go p l e R s m args below meth c n0 Q h k n (mkF m pc Ls (.long y :: .long x :: st)) :=
  go_step (fun T L X t S => XT.lmul X.here K.1 rfl (hb K.2.2.2.1 hd) rfl S) hr
theorem g_land (K : Kx Z own nm bytes ml rt p s m meth c) (pc : Nat) {x y : Int64} (hd : decode bytes pc = .ok (.land, 1))  (hr : Go p l e R s m args below meth c n0 Q h k n (mkF m (pc + 1) Ls (.long (x &&& y) :: st))) : Go p l e R s m args below meth c n0 Q h k n (mkF m pc Ls (.long y :: .long x :: st)) :=
  go_step (fun T L X t S => XT.land X.here K.1 rfl (hb K.2.2.2.1 hd) rfl S) hr
theorem g_lor (K : Kx Z own nm bytes ml rt p s m meth c) (pc : Nat) {x y : Int64} (hd : decode bytes pc = .ok (.lor, 1))  (hr : Go p l e R s m args below meth c n0 Q h k n (mkF m (pc + 1) Ls (.long (x ||| y) :: st))) : Go p l e R s m args below meth c n0 Q h k n (mkF m pc Ls (.long y :: .long x :: st)) :=
  go_step (fun T L X t S => XT.lor X.here K.1 rfl (hb K.2.2.2.1 hd) rfl S) hr
theorem g_lxor (K : Kx Z own nm bytes ml rt p s m meth c) (pc : Nat) {x y : Int64} (hd : decode bytes pc = .ok (.lxor, 1))  (hr : Go p l e R s m args below meth c n0 Q h k n (mkF m (pc + 1) Ls (.long (x ^^^ y) :: st))) : Go p l e R s m args below meth c n0 Q h k n (mkF m pc Ls (.long y :: .long x :: st)) :=
  go_step (fun T L X t S => XT.lxor X.here K.1 rfl (hb K.2.2.2.1 hd) rfl S) hr
theorem g_ldiv (K : Kx Z own nm bytes ml rt p s m meth c) (pc : Nat) {x y : Int64} (hd : decode bytes pc = .ok (.ldiv, 1)) (hy : y ≠ 0) (hr : Go p l e R s m args below meth c n0 Q h k n (mkF m (pc + 1) Ls (.long (x / y) :: st))) : Go p l e R s m args below meth c n0 Q h k n (mkF m pc Ls (.long y :: .long x :: st)) :=
  go_step (fun T L X t S => XT.ldiv X.here K.1 rfl (hb K.2.2.2.1 hd) rfl hy S) hr
theorem g_lshl (K : Kx Z own nm bytes ml rt p s m meth c) (pc : Nat) {x : Int64} {y : Int32} (hd : decode bytes pc = .ok (.lshl, 1))  (hr : Go p l e R s m args below meth c n0 Q h k n (mkF m (pc + 1) Ls (.long (x <<< (y.toInt64 &&& 63)) :: st))) : Go p l e R s m args below meth c n0 Q h k n (mkF m pc Ls (.int y :: .long x :: st)) :=
  go_step (fun T L X t S => XT.lshl X.here K.1 rfl (hb K.2.2.2.1 hd) rfl S) hr
theorem g_lshr (K : Kx Z own nm bytes ml rt p s m meth c) (pc : Nat) {x : Int64} {y : Int32} (hd : decode bytes pc = .ok (.lshr, 1))  (hr : Go p l e R s m args below meth c n0 Q h k n (mkF m (pc + 1) Ls (.long (x >>> (y.toInt64 &&& 63)) :: st))) : Go p l e R s m args below meth c n0 Q h k n (mkF m pc Ls (.int y :: .long x :: st)) :=
  go_step (fun T L X t S => XT.lshr X.here K.1 rfl (hb K.2.2.2.1 hd) rfl S) hr
theorem g_lushr (K : Kx Z own nm bytes ml rt p s m meth c) (pc : Nat) {x : Int64} {y : Int32} (hd : decode bytes pc = .ok (.lushr, 1))  (hr : Go p l e R s m args below meth c n0 Q h k n (mkF m (pc + 1) Ls (.long (XT.ushrL x y) :: st))) : Go p l e R s m args below meth c n0 Q h k n (mkF m pc Ls (.int y :: .long x :: st)) :=
  go_step (fun T L X t S => XT.lushr X.here K.1 rfl (hb K.2.2.2.1 hd) rfl S) hr
theorem g_lneg (K : Kx Z own nm bytes ml rt p s m meth c) (pc : Nat) {x : Int64} (hd : decode bytes pc = .ok (.lneg, 1))  (hr : Go p l e R s m args below meth c n0 Q h k n (mkF m (pc + 1) Ls (.long (-x) :: st))) : Go p l e R s m args below meth c n0 Q h k n (mkF m pc Ls (.long x :: st)) :=
  go_step (fun T L X t S => XT.lneg X.here K.1 rfl (hb K.2.2.2.1 hd) rfl S) hr
theorem g_i2l (K : Kx Z own nm bytes ml rt p s m meth c) (pc : Nat) {x : Int32} (hd : decode bytes pc = .ok (.i2l, 1))  (hr : Go p l e R s m args below meth c n0 Q h k n (mkF m (pc + 1) Ls (.long x.toInt64 :: st))) : Go p l e R s m args below meth c n0 Q h k n (mkF m pc Ls (.int x :: st)) :=
  go_step (fun T L X t S => XT.i2l X.here K.1 rfl (hb K.2.2.2.1 hd) rfl S) hr
theorem g_l2i (K : Kx Z own nm bytes ml rt p s m meth c) (pc : Nat) {x : Int64} (hd : decode bytes pc = .ok (.l2i, 1))  (hr : Go p l e R s m args below meth c n0 Q h k n (mkF m (pc + 1) Ls (.int x.toInt32 :: st))) : Go p l e R s m args below meth c n0 Q h k n (mkF m pc Ls (.long x :: st)) :=
  go_step (fun T L X t S => XT.l2i X.here K.1 rfl (hb K.2.2.2.1 hd) rfl S) hr
theorem g_i2b (K : Kx Z own nm bytes ml rt p s m meth c) (pc : Nat) {x : Int32} (hd : decode bytes pc = .ok (.i2b, 1))  (hr : Go p l e R s m args below meth c n0 Q h k n (mkF m (pc + 1) Ls (.int x.toInt8.toInt32 :: st))) : Go p l e R s m args below meth c n0 Q h k n (mkF m pc Ls (.int x :: st)) :=
  go_step (fun T L X t S => XT.i2b X.here K.1 rfl (hb K.2.2.2.1 hd) rfl S) hr
theorem g_i2s (K : Kx Z own nm bytes ml rt p s m meth c) (pc : Nat) {x : Int32} (hd : decode bytes pc = .ok (.i2s, 1))  (hr : Go p l e R s m args below meth c n0 Q h k n (mkF m (pc + 1) Ls (.int x.toInt16.toInt32 :: st))) : Go p l e R s m args below meth c n0 Q h k n (mkF m pc Ls (.int x :: st)) :=
  go_step (fun T L X t S => XT.i2s X.here K.1 rfl (hb K.2.2.2.1 hd) rfl S) hr
theorem g_lcmp (K : Kx Z own nm bytes ml rt p s m meth c) (pc : Nat) {x y : Int64} (hd : decode bytes pc = .ok (.lcmp, 1))  (hr : Go p l e R s m args below meth c n0 Q h k n (mkF m (pc + 1) Ls (.int (XT.cmpL x y) :: st))) : Go p l e R s m args below meth c n0 Q h k n (mkF m pc Ls (.long y :: .long x :: st)) :=
  go_step (fun T L X t S => XT.lcmp X.here K.1 rfl (hb K.2.2.2.1 hd) rfl S) hr
theorem g_dup (K : Kx Z own nm bytes ml rt p s m meth c) (pc : Nat) {v : Value} (hd : decode bytes pc = .ok (.dup, 1)) (hc : v.category = 1) (hr : Go p l e R s m args below meth c n0 Q h k n (mkF m (pc + 1) Ls (v :: v :: st))) : Go p l e R s m args below meth c n0 Q h k n (mkF m pc Ls (v :: st)) :=
  go_step (fun T L X t S => XS.dup X.here K.1 rfl (hb K.2.2.2.1 hd) rfl hc S) hr
theorem g_pop (K : Kx Z own nm bytes ml rt p s m meth c) (pc : Nat) {v : Value} (hd : decode bytes pc = .ok (.pop, 1)) (hc : v.category = 1) (hr : Go p l e R s m args below meth c n0 Q h k n (mkF m (pc + 1) Ls st)) : Go p l e R s m args below meth c n0 Q h k n (mkF m pc Ls (v :: st)) :=
  go_step (fun T L X t S => XT.pop X.here K.1 rfl (hb K.2.2.2.1 hd) rfl hc S) hr
theorem g_goto (K : Kx Z own nm bytes ml rt p s m meth c) (pc pc' : Nat) {o : Int} (hd : decode bytes pc = .ok (.goto o, 3)) (ho : 0 ≤ (pc : Int) + o) (hp : ((pc : Int) + o).toNat = pc') (hr : Go p l e R s m args below meth c n0 Q h k n (mkF m pc' Ls st)) : Go p l e R s m args below meth c n0 Q h k n (mkF m pc Ls st) :=
  go_step (fun T L X t S => XS.goto X.here K.1 rfl rfl (hb K.2.2.2.1 hd) ho hp S) hr
theorem g_if_eq (K : Kx Z own nm bytes ml rt p s m meth c) (pc pc' : Nat) {o : Int} {x : Int32} (hd : decode bytes pc = .ok (.ifCond .eq o, 3)) (ho : 0 ≤ (pc : Int) + o) (hp : ((pc : Int) + o).toNat = pc') (hT : x = 0 → Go p l e R s m args below meth c n0 Q h k n (mkF m pc' Ls st)) (hF : ¬ x = 0 → Go p l e R s m args below meth c n0 Q h k n (mkF m (pc + 3) Ls st)) : Go p l e R s m args below meth c n0 Q h k n (mkF m pc Ls (.int x :: st)) := by
  by_cases q : x = 0
  · exact go_step (fun T L X t S => XS.ifYes X.here K.1 rfl rfl (hb K.2.2.2.1 hd) rfl (XT.i0_eq_t q) ho hp S) (hT q)
  · exact go_step (fun T L X t S => XS.ifNo X.here K.1 rfl (hb K.2.2.2.1 hd) rfl (XT.i0_eq_f q) S) (hF q)
theorem g_ii_eq (K : Kx Z own nm bytes ml rt p s m meth c) (pc pc' : Nat) {o : Int} {x y : Int32} (hd : decode bytes pc = .ok (.if_icmp .eq o, 3)) (ho : 0 ≤ (pc : Int) + o) (hp : ((pc : Int) + o).toNat = pc') (hT : x = y → Go p l e R s m args below meth c n0 Q h k n (mkF m pc' Ls st)) (hF : ¬ x = y → Go p l e R s m args below meth c n0 Q h k n (mkF m (pc + 3) Ls st)) : Go p l e R s m args below meth c n0 Q h k n (mkF m pc Ls (.int y :: .int x :: st)) := by
  by_cases q : x = y
  · exact go_step (fun T L X t S => XS.icmpYes X.here K.1 rfl rfl (hb K.2.2.2.1 hd) rfl (XT.ii_eq_t q) ho hp S) (hT q)
  · exact go_step (fun T L X t S => XS.icmpNo X.here K.1 rfl (hb K.2.2.2.1 hd) rfl (XT.ii_eq_f q) S) (hF q)
theorem g_ll_eq (K : Kx Z own nm bytes ml rt p s m meth c) (pc pc' : Nat) {o : Int} {x y : Int64} (hd : decode bytes pc = .ok (.ifCond .eq o, 3)) (ho : 0 ≤ (pc : Int) + o) (hp : ((pc : Int) + o).toNat = pc') (hT : x = y → Go p l e R s m args below meth c n0 Q h k n (mkF m pc' Ls st)) (hF : ¬ x = y → Go p l e R s m args below meth c n0 Q h k n (mkF m (pc + 3) Ls st)) : Go p l e R s m args below meth c n0 Q h k n (mkF m pc Ls (.int (XT.cmpL x y) :: st)) := by
  by_cases q : x = y
  · exact go_step (fun T L X t S => XS.ifYes X.here K.1 rfl rfl (hb K.2.2.2.1 hd) rfl (XT.ll_eq_t q) ho hp S) (hT q)
  · exact go_step (fun T L X t S => XS.ifNo X.here K.1 rfl (hb K.2.2.2.1 hd) rfl (XT.ll_eq_f q) S) (hF q)
theorem g_if_ne (K : Kx Z own nm bytes ml rt p s m meth c) (pc pc' : Nat) {o : Int} {x : Int32} (hd : decode bytes pc = .ok (.ifCond .ne o, 3)) (ho : 0 ≤ (pc : Int) + o) (hp : ((pc : Int) + o).toNat = pc') (hT : ¬ x = 0 → Go p l e R s m args below meth c n0 Q h k n (mkF m pc' Ls st)) (hF : x = 0 → Go p l e R s m args below meth c n0 Q h k n (mkF m (pc + 3) Ls st)) : Go p l e R s m args below meth c n0 Q h k n (mkF m pc Ls (.int x :: st)) := by
  by_cases q : x = 0
  · exact go_step (fun T L X t S => XS.ifNo X.here K.1 rfl (hb K.2.2.2.1 hd) rfl (XT.i0_ne_f q) S) (hF q)
  · exact go_step (fun T L X t S => XS.ifYes X.here K.1 rfl rfl (hb K.2.2.2.1 hd) rfl (XT.i0_ne_t q) ho hp S) (hT q)
theorem g_ii_ne (K : Kx Z own nm bytes ml rt p s m meth c) (pc pc' : Nat) {o : Int} {x y : Int32} (hd : decode bytes pc = .ok (.if_icmp .ne o, 3)) (ho : 0 ≤ (pc : Int) + o) (hp : ((pc : Int) + o).toNat = pc') (hT : ¬ x = y → Go p l e R s m args below meth c n0 Q h k n (mkF m pc' Ls st)) (hF : x = y → Go p l e R s m args below meth c n0 Q h k n (mkF m (pc + 3) Ls st)) : Go p l e R s m args below meth c n0 Q h k n (mkF m pc Ls (.int y :: .int x :: st)) := by
  by_cases q : x = y
  · exact go_step (fun T L X t S => XS.icmpNo X.here K.1 rfl (hb K.2.2.2.1 hd) rfl (XT.ii_ne_f q) S) (hF q)
  · exact go_step (fun T L X t S => XS.icmpYes X.here K.1 rfl rfl (hb K.2.2.2.1 hd) rfl (XT.ii_ne_t q) ho hp S) (hT q)
theorem g_ll_ne (K : Kx Z own nm bytes ml rt p s m meth c) (pc pc' : Nat) {o : Int} {x y : Int64} (hd : decode bytes pc = .ok (.ifCond .ne o, 3)) (ho : 0 ≤ (pc : Int) + o) (hp : ((pc : Int) + o).toNat = pc') (hT : ¬ x = y → Go p l e R s m args below meth c n0 Q h k n (mkF m pc' Ls st)) (hF : x = y → Go p l e R s m args below meth c n0 Q h k n (mkF m (pc + 3) Ls st)) : Go p l e R s m args below meth c n0 Q h k n (mkF m pc Ls (.int (XT.cmpL x y) :: st)) := by
  by_cases q : x = y
  · exact go_step (fun T L X t S => XS.ifNo X.here K.1 rfl (hb K.2.2.2.1 hd) rfl (XT.ll_ne_f q) S) (hF q)
  · exact go_step (fun T L X t S => XS.ifYes X.here K.1 rfl rfl (hb K.2.2.2.1 hd) rfl (XT.ll_ne_t q) ho hp S) (hT q)
theorem g_if_lt (K : Kx Z own nm bytes ml rt p s m meth c) (pc pc' : Nat) {o : Int} {x : Int32} (hd : decode bytes pc = .ok (.ifCond .lt o, 3)) (ho : 0 ≤ (pc : Int) + o) (hp : ((pc : Int) + o).toNat = pc') (hT : x < 0 → Go p l e R s m args below meth c n0 Q h k n (mkF m pc' Ls st)) (hF : ¬ x < 0 → Go p l e R s m args below meth c n0 Q h k n (mkF m (pc + 3) Ls st)) : Go p l e R s m args below meth c n0 Q h k n (mkF m pc Ls (.int x :: st)) := by
  by_cases q : x < 0
  · exact go_step (fun T L X t S => XS.ifYes X.here K.1 rfl rfl (hb K.2.2.2.1 hd) rfl (XT.i0_lt_t q) ho hp S) (hT q)
  · exact go_step (fun T L X t S => XS.ifNo X.here K.1 rfl (hb K.2.2.2.1 hd) rfl (XT.i0_lt_f q) S) (hF q)
theorem g_ii_lt (K : Kx Z own nm bytes ml rt p s m meth c) (pc pc' : Nat) {o : Int} {x y : Int32} (hd : decode bytes pc = .ok (.if_icmp .lt o, 3)) (ho : 0 ≤ (pc : Int) + o) (hp : ((pc : Int) + o).toNat = pc') (hT : x < y → Go p l e R s m args below meth c n0 Q h k n (mkF m pc' Ls st)) (hF : ¬ x < y → Go p l e R s m args below meth c n0 Q h k n (mkF m (pc + 3) Ls st)) : Go p l e R s m args below meth c n0 Q h k n (mkF m pc Ls (.int y :: .int x :: st)) := by
  by_cases q : x < y
  · exact go_step (fun T L X t S => XS.icmpYes X.here K.1 rfl rfl (hb K.2.2.2.1 hd) rfl (XT.ii_lt_t q) ho hp S) (hT q)
  · exact go_step (fun T L X t S => XS.icmpNo X.here K.1 rfl (hb K.2.2.2.1 hd) rfl (XT.ii_lt_f q) S) (hF q)
theorem g_ll_lt (K : Kx Z own nm bytes ml rt p s m meth c) (pc pc' : Nat) {o : Int} {x y : Int64} (hd : decode bytes pc = .ok (.ifCond .lt o, 3)) (ho : 0 ≤ (pc : Int) + o) (hp : ((pc : Int) + o).toNat = pc') (hT : x < y → Go p l e R s m args below meth c n0 Q h k n (mkF m pc' Ls st)) (hF : ¬ x < y → Go p l e R s m args below meth c n0 Q h k n (mkF m (pc + 3) Ls st)) : Go p l e R s m args below meth c n0 Q h k n (mkF m pc Ls (.int (XT.cmpL x y) :: st)) := by
  by_cases q : x < y
  · exact go_step (fun T L X t S => XS.ifYes X.here K.1 rfl rfl (hb K.2.2.2.1 hd) rfl (XT.ll_lt_t q) ho hp S) (hT q)
  · exact go_step (fun T L X t S => XS.ifNo X.here K.1 rfl (hb K.2.2.2.1 hd) rfl (XT.ll_lt_f q) S) (hF q)
theorem g_if_ge (K : Kx Z own nm bytes ml rt p s m meth c) (pc pc' : Nat) {o : Int} {x : Int32} (hd : decode bytes pc = .ok (.ifCond .ge o, 3)) (ho : 0 ≤ (pc : Int) + o) (hp : ((pc : Int) + o).toNat = pc') (hT : ¬ x < 0 → Go p l e R s m args below meth c n0 Q h k n (mkF m pc' Ls st)) (hF : x < 0 → Go p l e R s m args below meth c n0 Q h k n (mkF m (pc + 3) Ls st)) : Go p l e R s m args below meth c n0 Q h k n (mkF m pc Ls (.int x :: st)) := by
  by_cases q : x < 0
  · exact go_step (fun T L X t S => XS.ifNo X.here K.1 rfl (hb K.2.2.2.1 hd) rfl (XT.i0_ge_f q) S) (hF q)
  · exact go_step (fun T L X t S => XS.ifYes X.here K.1 rfl rfl (hb K.2.2.2.1 hd) rfl (XT.i0_ge_t q) ho hp S) (hT q)
theorem g_ii_ge (K : Kx Z own nm bytes ml rt p s m meth c) (pc pc' : Nat) {o : Int} {x y : Int32} (hd : decode bytes pc = .ok (.if_icmp .ge o, 3)) (ho : 0 ≤ (pc : Int) + o) (hp : ((pc : Int) + o).toNat = pc') (hT : ¬ x < y → Go p l e R s m args below meth c n0 Q h k n (mkF m pc' Ls st)) (hF : x < y → Go p l e R s m args below meth c n0 Q h k n (mkF m (pc + 3) Ls st)) : Go p l e R s m args below meth c n0 Q h k n (mkF m pc Ls (.int y :: .int x :: st)) := by
  by_cases q : x < y
  · exact go_step (fun T L X t S => XS.icmpNo X.here K.1 rfl (hb K.2.2.2.1 hd) rfl (XT.ii_ge_f q) S) (hF q)
  · exact go_step (fun T L X t S => XS.icmpYes X.here K.1 rfl rfl (hb K.2.2.2.1 hd) rfl (XT.ii_ge_t q) ho hp S) (hT q)
theorem g_ll_ge (K : Kx Z own nm bytes ml rt p s m meth c) (pc pc' : Nat) {o : Int} {x y : Int64} (hd : decode bytes pc = .ok (.ifCond .ge o, 3)) (ho : 0 ≤ (pc : Int) + o) (hp : ((pc : Int) + o).toNat = pc') (hT : ¬ x < y → Go p l e R s m args below meth c n0 Q h k n (mkF m pc' Ls st)) (hF : x < y → Go p l e R s m args below meth c n0 Q h k n (mkF m (pc + 3) Ls st)) : Go p l e R s m args below meth c n0 Q h k n (mkF m pc Ls (.int (XT.cmpL x y) :: st)) := by
  by_cases q : x < y
  · exact go_step (fun T L X t S => XS.ifNo X.here K.1 rfl (hb K.2.2.2.1 hd) rfl (XT.ll_ge_f q) S) (hF q)
  · exact go_step (fun T L X t S => XS.ifYes X.here K.1 rfl rfl (hb K.2.2.2.1 hd) rfl (XT.ll_ge_t q) ho hp S) (hT q)
theorem g_if_gt (K : Kx Z own nm bytes ml rt p s m meth c) (pc pc' : Nat) {o : Int} {x : Int32} (hd : decode bytes pc = .ok (.ifCond .gt o, 3)) (ho : 0 ≤ (pc : Int) + o) (hp : ((pc : Int) + o).toNat = pc') (hT : 0 < x → Go p l e R s m args below meth c n0 Q h k n (mkF m pc' Ls st)) (hF : ¬ 0 < x → Go p l e R s m args below meth c n0 Q h k n (mkF m (pc + 3) Ls st)) : Go p l e R s m args below meth c n0 Q h k n (mkF m pc Ls (.int x :: st)) := by
  by_cases q : 0 < x
  · exact go_step (fun T L X t S => XS.ifYes X.here K.1 rfl rfl (hb K.2.2.2.1 hd) rfl (XT.i0_gt_t q) ho hp S) (hT q)
  · exact go_step (fun T L X t S => XS.ifNo X.here K.1 rfl (hb K.2.2.2.1 hd) rfl (XT.i0_gt_f q) S) (hF q)
theorem g_ii_gt (K : Kx Z own nm bytes ml rt p s m meth c) (pc pc' : Nat) {o : Int} {x y : Int32} (hd : decode bytes pc = .ok (.if_icmp .gt o, 3)) (ho : 0 ≤ (pc : Int) + o) (hp : ((pc : Int) + o).toNat = pc') (hT : y < x → Go p l e R s m args below meth c n0 Q h k n (mkF m pc' Ls st)) (hF : ¬ y < x → Go p l e R s m args below meth c n0 Q h k n (mkF m (pc + 3) Ls st)) : Go p l e R s m args below meth c n0 Q h k n (mkF m pc Ls (.int y :: .int x :: st)) := by
  by_cases q : y < x
  · exact go_step (fun T L X t S => XS.icmpYes X.here K.1 rfl rfl (hb K.2.2.2.1 hd) rfl (XT.ii_gt_t q) ho hp S) (hT q)
  · exact go_step (fun T L X t S => XS.icmpNo X.here K.1 rfl (hb K.2.2.2.1 hd) rfl (XT.ii_gt_f q) S) (hF q)
theorem g_ll_gt (K : Kx Z own nm bytes ml rt p s m meth c) (pc pc' : Nat) {o : Int} {x y : Int64} (hd : decode bytes pc = .ok (.ifCond .gt o, 3)) (ho : 0 ≤ (pc : Int) + o) (hp : ((pc : Int) + o).toNat = pc') (hT : y < x → Go p l e R s m args below meth c n0 Q h k n (mkF m pc' Ls st)) (hF : ¬ y < x → Go p l e R s m args below meth c n0 Q h k n (mkF m (pc + 3) Ls st)) : Go p l e R s m args below meth c n0 Q h k n (mkF m pc Ls (.int (XT.cmpL x y) :: st)) := by
  by_cases q : y < x
  · exact go_step (fun T L X t S => XS.ifYes X.here K.1 rfl rfl (hb K.2.2.2.1 hd) rfl (XT.ll_gt_t q) ho hp S) (hT q)
  · exact go_step (fun T L X t S => XS.ifNo X.here K.1 rfl (hb K.2.2.2.1 hd) rfl (XT.ll_gt_f q) S) (hF q)
theorem g_if_le (K : Kx Z own nm bytes ml rt p s m meth c) (pc pc' : Nat) {o : Int} {x : Int32} (hd : decode bytes pc = .ok (.ifCond .le o, 3)) (ho : 0 ≤ (pc : Int) + o) (hp : ((pc : Int) + o).toNat = pc') (hT : ¬ 0 < x → Go p l e R s m args below meth c n0 Q h k n (mkF m pc' Ls st)) (hF : 0 < x → Go p l e R s m args below meth c n0 Q h k n (mkF m (pc + 3) Ls st)) : Go p l e R s m args below meth c n0 Q h k n (mkF m pc Ls (.int x :: st)) := by
  by_cases q : 0 < x
  · exact go_step (fun T L X t S => XS.ifNo X.here K.1 rfl (hb K.2.2.2.1 hd) rfl (XT.i0_le_f q) S) (hF q)
  · exact go_step (fun T L X t S => XS.ifYes X.here K.1 rfl rfl (hb K.2.2.2.1 hd) rfl (XT.i0_le_t q) ho hp S) (hT q)
theorem g_ii_le (K : Kx Z own nm bytes ml rt p s m meth c) (pc pc' : Nat) {o : Int} {x y : Int32} (hd : decode bytes pc = .ok (.if_icmp .le o, 3)) (ho : 0 ≤ (pc : Int) + o) (hp : ((pc : Int) + o).toNat = pc') (hT : ¬ y < x → Go p l e R s m args below meth c n0 Q h k n (mkF m pc' Ls st)) (hF : y < x → Go p l e R s m args below meth c n0 Q h k n (mkF m (pc + 3) Ls st)) : Go p l e R s m args below meth c n0 Q h k n (mkF m pc Ls (.int y :: .int x :: st)) := by
  by_cases q : y < x
  · exact go_step (fun T L X t S => XS.icmpNo X.here K.1 rfl (hb K.2.2.2.1 hd) rfl (XT.ii_le_f q) S) (hF q)
  · exact go_step (fun T L X t S => XS.icmpYes X.here K.1 rfl rfl (hb K.2.2.2.1 hd) rfl (XT.ii_le_t q) ho hp S) (hT q)
theorem g_ll_le (K : Kx Z own nm bytes ml rt p s m meth c) (pc pc' : Nat) {o : Int} {x y : Int64} (hd : decode bytes pc = .ok (.ifCond .le o, 3)) (ho : 0 ≤ (pc : Int) + o) (hp : ((pc : Int) + o).toNat = pc') (hT : ¬ y < x → Go p l e R s m args below meth c n0 Q h k n (mkF m pc' Ls st)) (hF : y < x → Go p l e R s m args below meth c n0 Q h k n (mkF m (pc + 3) Ls st)) : Go p l e R s m args below meth c n0 Q h k n (mkF m pc Ls (.int (XT.cmpL x y) :: st)) := by
  by_cases q : y < x
  · exact go_step (fun T L X t S => XS.ifNo X.here K.1 rfl (hb K.2.2.2.1 hd) rfl (XT.ll_le_f q) S) (hF q)
  · exact go_step (fun T L X t S => XS.ifYes X.here K.1 rfl rfl (hb K.2.2.2.1 hd) rfl (XT.ll_le_t q) ho hp S) (hT q)
theorem g_aa_eq (K : Kx Z own nm bytes ml rt p s m meth c) (pc pc' : Nat) {o : Int} {x y : Value} (hx' : x.isRef = true) (hy' : y.isRef = true) (hd : decode bytes pc = .ok (.if_acmp .eq o, 3)) (ho : 0 ≤ (pc : Int) + o) (hp : ((pc : Int) + o).toNat = pc') (hT : x = y → Go p l e R s m args below meth c n0 Q h k n (mkF m pc' Ls st)) (hF : ¬ x = y → Go p l e R s m args below meth c n0 Q h k n (mkF m (pc + 3) Ls st)) : Go p l e R s m args below meth c n0 Q h k n (mkF m pc Ls (y :: x :: st)) := by
  by_cases q : x = y
  · exact go_step (fun T L X t S => XT.acmpYes X.here K.1 rfl rfl (hb K.2.2.2.1 hd) rfl hx' hy' (XT.aa_eq_t q) ho hp S) (hT q)
  · exact go_step (fun T L X t S => XT.acmpNo X.here K.1 rfl (hb K.2.2.2.1 hd) rfl hx' hy' (XT.aa_eq_f q) S) (hF q)
theorem g_aa_ne (K : Kx Z own nm bytes ml rt p s m meth c) (pc pc' : Nat) {o : Int} {x y : Value} (hx' : x.isRef = true) (hy' : y.isRef = true) (hd : decode bytes pc = .ok (.if_acmp .ne o, 3)) (ho : 0 ≤ (pc : Int) + o) (hp : ((pc : Int) + o).toNat = pc') (hT : ¬ x = y → Go p l e R s m args below meth c n0 Q h k n (mkF m pc' Ls st)) (hF : x = y → Go p l e R s m args below meth c n0 Q h k n (mkF m (pc + 3) Ls st)) : Go p l e R s m args below meth c n0 Q h k n (mkF m pc Ls (y :: x :: st)) := by
  by_cases q : x = y
  · exact go_step (fun T L X t S => XT.acmpNo X.here K.1 rfl (hb K.2.2.2.1 hd) rfl hx' hy' (XT.aa_ne_f q) S) (hF q)
  · exact go_step (fun T L X t S => XT.acmpYes X.here K.1 rfl rfl (hb K.2.2.2.1 hd) rfl hx' hy' (XT.aa_ne_t q) ho hp S) (hT q)
theorem g_ifnull_ref (K : Kx Z own nm bytes ml rt p s m meth c) (pc : Nat) {o : Int} {b : Addr} (hd : decode bytes pc = .ok (.ifnull o, 3)) (hr : Go p l e R s m args below meth c n0 Q h k n (mkF m (pc + 3) Ls st)) : Go p l e R s m args below meth c n0 Q h k n (mkF m pc Ls (.ref b :: st)) :=
  go_step (fun T L X t S => XS.ifnullNo X.here K.1 rfl (hb K.2.2.2.1 hd) rfl S) hr
theorem g_ifnull_null (K : Kx Z own nm bytes ml rt p s m meth c) (pc pc' : Nat) {o : Int} (hd : decode bytes pc = .ok (.ifnull o, 3)) (ho : 0 ≤ (pc : Int) + o) (hp : ((pc : Int) + o).toNat = pc') (hr : Go p l e R s m args below meth c n0 Q h k n (mkF m pc' Ls st)) : Go p l e R s m args below meth c n0 Q h k n (mkF m pc Ls (.null :: st)) :=
  go_step (fun T L X t S => XS.ifnullYes X.here K.1 rfl rfl (hb K.2.2.2.1 hd) rfl ho hp S) hr
theorem g_ldc (K : Kx Z own nm bytes ml rt p s m meth c) (pc : Nat) {i : Nat} {v : Int32} (hd : decode bytes pc = .ok (.ldc i, 2)) (w : (Jvm.Cond.constant own i v).before a0 Z = true) (hr : Go p l e R s m args below meth c n0 Q h k n (mkF m (pc + 2) Ls (.int v :: st))) : Go p l e R s m args below meth c n0 Q h k n (mkF m pc Ls st) :=
  go_step (fun T L X t S => X.ldcI K.1 K.2.2.1 (mvT K.2.1 w) rfl (hb K.2.2.2.1 hd) S) hr
theorem g_ldc_w (K : Kx Z own nm bytes ml rt p s m meth c) (pc : Nat) {i : Nat} {v : Int32} (hd : decode bytes pc = .ok (.ldc_w i, 3)) (w : (Jvm.Cond.constant own i v).before a0 Z = true) (hr : Go p l e R s m args below meth c n0 Q h k n (mkF m (pc + 3) Ls (.int v :: st))) : Go p l e R s m args below meth c n0 Q h k n (mkF m pc Ls st) :=
  go_step (fun T L X t S => X.ldcWI K.1 K.2.2.1 (mvT K.2.1 w) rfl (hb K.2.2.2.1 hd) S) hr
theorem g_ldc2_w (K : Kx Z own nm bytes ml rt p s m meth c) (pc : Nat) {i : Nat} {v : Int64} (hd : decode bytes pc = .ok (.ldc2_w i, 3)) (w : (Jvm.Cond.constantLong own i v).before a0 Z = true) (hr : Go p l e R s m args below meth c n0 Q h k n (mkF m (pc + 3) Ls (.long v :: st))) : Go p l e R s m args below meth c n0 Q h k n (mkF m pc Ls st) :=
  go_step (fun T L X t S => X.ldc2J K.1 K.2.2.1 (mvT K.2.1 w) rfl (hb K.2.2.2.1 hd) S) hr
theorem g_ireturn (K : Kx Z own nm bytes ml rt p s m meth c) (pc : Nat) {z : Int32} (hd : decode bytes pc = .ok (.ireturn, 1)) (hrt : rt = some .int)  (hk : k ≤ R.cells) (hn : n ≤ R.slots) (hq : Q (some (.int z)) h) : Go p l e R s m args below meth c n0 Q h k n (mkF m pc Ls [.int z]) := by
  intro T L X eT N
  obtain ⟨fs, hr, hrun, hended, hW, hsame⟩ := X.leave (v := some (.int z)) (fun hh => by first | rfl | (rw [K.2.2.2.2.2.1, hrt] at hh; cases hh)) K.2.2.2.2.2.2.1
  refine ⟨_, _, X.ireturnOut K.1 (K.2.2.2.2.2.1.trans hrt) rfl (Or.inl rfl) (hb K.2.2.2.1 hd) hr, hrun, hended, _, L, rfl, ⟨?_, N⟩, ⟨_, rfl⟩, hW, hsame.mono hk hn⟩
  show Q _ T.heap
  rw [eT]; exact hq
theorem g_retN (K : Kx Z own nm bytes ml rt p s m meth c) (pc : Nat) {z : Int32} (t : FieldType) (hd : decode bytes pc = .ok (.ireturn, 1)) (hrt : rt = some t) (ht : t = .boolean ∨ t = .byte ∨ t = .char ∨ t = .short) (hk : k ≤ R.cells) (hn : n ≤ R.slots) (hq : Q (some (.int (nar t z))) h) : Go p l e R s m args below meth c n0 Q h k n (mkF m pc Ls (.int z :: st)) := by
  intro T L X eT N
  obtain ⟨fs, hr, hrun, hended, hW, hsame⟩ := X.leave (v := some (.int (nar t z))) (fun hh => by first | rfl | (rw [K.2.2.2.2.2.1, hrt] at hh; cases hh)) K.2.2.2.2.2.2.1
  refine ⟨_, _, retN X K.1 (K.2.2.2.2.2.1.trans hrt) ht (hb K.2.2.2.1 hd) hr, hrun, hended, _, L, rfl, ⟨?_, N⟩, ⟨_, rfl⟩, hW, hsame.mono hk hn⟩
  show Q _ T.heap
  rw [eT]; exact hq
theorem g_lreturn (K : Kx Z own nm bytes ml rt p s m meth c) (pc : Nat) {z : Int64} (hd : decode bytes pc = .ok (.lreturn, 1)) (hrt : rt = some .long)  (hk : k ≤ R.cells) (hn : n ≤ R.slots) (hq : Q (some (.long z)) h) : Go p l e R s m args below meth c n0 Q h k n (mkF m pc Ls [.long z]) := by
  intro T L X eT N
  obtain ⟨fs, hr, hrun, hended, hW, hsame⟩ := X.leave (v := some (.long z)) (fun hh => by first | rfl | (rw [K.2.2.2.2.2.1, hrt] at hh; cases hh)) K.2.2.2.2.2.2.1
  refine ⟨_, _, X.lreturnOut K.1 (K.2.2.2.2.2.1.trans hrt) (hb K.2.2.2.1 hd) hr, hrun, hended, _, L, rfl, ⟨?_, N⟩, ⟨_, rfl⟩, hW, hsame.mono hk hn⟩
  show Q _ T.heap
  rw [eT]; exact hq
theorem g_areturn (K : Kx Z own nm bytes ml rt p s m meth c) (pc : Nat) {w : Value} (t : FieldType) (hd : decode bytes pc = .ok (.areturn, 1)) (hrt : rt = some t) (hw : w.isRef = true) (ht : t.isReference = true) (hk : k ≤ R.cells) (hn : n ≤ R.slots) (hq : Q (some w) h) : Go p l e R s m args below meth c n0 Q h k n (mkF m pc Ls [w]) := by
  intro T L X eT N
  obtain ⟨fs, hr, hrun, hended, hW, hsame⟩ := X.leave (v := some w) (fun hh => by first | rfl | (rw [K.2.2.2.2.2.1, hrt] at hh; cases hh)) K.2.2.2.2.2.2.1
  refine ⟨_, _, X.areturnOut K.1 hw (K.2.2.2.2.2.1.trans hrt) ht (hb K.2.2.2.1 hd) hr, hrun, hended, _, L, rfl, ⟨?_, N⟩, ⟨_, rfl⟩, hW, hsame.mono hk hn⟩
  show Q _ T.heap
  rw [eT]; exact hq
theorem g_return (K : Kx Z own nm bytes ml rt p s m meth c) (pc : Nat)  (hd : decode bytes pc = .ok (.return_, 1)) (hrt : rt = none)  (hk : k ≤ R.cells) (hn : n ≤ R.slots) (hq : Q none h) : Go p l e R s m args below meth c n0 Q h k n (mkF m pc Ls []) := by
  intro T L X eT N
  obtain ⟨fs, hr, hrun, hended, hW, hsame⟩ := X.leave (v := none) (fun hh => by first | rfl | (rw [K.2.2.2.2.2.1, hrt] at hh; cases hh)) K.2.2.2.2.2.2.1
  refine ⟨_, _, X.returnOut K.1 (K.2.2.2.2.2.1.trans hrt) (hb K.2.2.2.1 hd) hr, hrun, hended, _, L, rfl, ⟨?_, N⟩, ⟨_, rfl⟩, hW, hsame.mono hk hn⟩
  show Q _ T.heap
  rw [eT]; exact hq
theorem g_getfield (K : Kx Z own nm bytes ml rt p s m meth c) (pc : Nat) {i : Nat} {C f d : String} {a : Addr} {v : Value} (hd : decode bytes pc = .ok (.getfield i, 3)) (w : (Jvm.Cond.fieldLink own i C f d).before a0 Z = true) (F : Fld Z h a C f d v) (hr : Go p l e R s m args below meth c n0 Q h k n (mkF m (pc + 3) Ls (v :: st))) : Go p l e R s m args below meth c n0 Q h k n (mkF m pc Ls (.ref a :: st)) := by
  intro T L X eT N
  obtain ⟨T', X', e', stp⟩ := getF X K.1 K.2.1 K.2.2.1 (host := "") (Or.inl w) Via.refl eT F (g := mkF m pc Ls (.ref a :: st)) rfl rfl (hb K.2.2.2.1 hd)
  obtain ⟨s₂, o, S, r⟩ := hr T' L X' e' N
  exact ⟨s₂, o, stp _ S, r⟩
theorem g_putfield (K : Kx Z own nm bytes ml rt p s m meth c) (pc : Nat) {i kk : Nat} {C f d : String} {a : Addr} {v old : Value} (ty : FieldType) (hd : decode bytes pc = .ok (.putfield i, 3)) (w : (Jvm.Cond.fieldLink own i C f d).before a0 Z = true) (F : Fld Z h a C f d old) (E : Exa Z h a C) (Lw : (Jvm.Cond.lays C C f d).before a0 Z = true ∨ ((Jvm.Cond.laysFinal C C f d).before a0 Z = true ∧ own = C ∧ nm = "<init>")) (wi : (Jvm.Cond.instantiable C kk).before a0 Z = true) (hty : parseFieldDescriptor d = some ty) (hnv : narrow ty v = v) (hfv : fits ty v = true) (ha : n0 ≤ a) (hr : ∀ h', Wr h h' a (Jvm.RoadKit.slotOf Z C f d) v → Keep h h' [a] → Go p l e R s m args below meth c n0 Q h' k n (mkF m (pc + 3) Ls st)) : Go p l e R s m args below meth c n0 Q h k n (mkF m pc Ls (v :: .ref a :: st)) := by
  intro T L X eT N
  obtain ⟨T', h', X', e', W, stp⟩ := putF X K.1 K.2.1 K.2.2.1 (host := "") (Or.inl w) Via.refl eT F E (Lw.imp id fun q => ⟨q.1, q.2.1, K.2.2.2.2.2.2.2.trans q.2.2⟩) wi hty hnv hfv (g := mkF m pc Ls (v :: .ref a :: st)) rfl rfl (hb K.2.2.2.1 hd)
  obtain ⟨s₂, o, S, r⟩ := hr h' W (Keep.of_wr W) T' _ X' e' (Fr.snoc X' N ha)
  exact ⟨s₂, o, stp _ S, r⟩
theorem g_new (K : Kx Z own nm bytes ml rt p s m meth c) (pc : Nat) {i kk : Nat} {C : String} (hd : decode bytes pc = .ok (.new i, 3)) (w : (Jvm.Cond.classLink own i C).before a0 Z = true) (wi : (Jvm.Cond.instantiable C kk).before a0 Z = true) (wz : (Jvm.Cond.initialized C).before a0 Z = true) (hk : k + 1 ≤ R.cells) (hn : n + kk ≤ R.slots) (hr : ∀ h' a, a = h.size → Keep h h' [] → Exa Z h' a C → (∀ {O f d : String} {ty : FieldType}, Laid Z a0 C O f d → parseFieldDescriptor d = some ty → Fld Z h' a O f d (defaultValue ty)) → Go p l e R s m args below meth c n0 Q h' (k + 1) (n + kk) (mkF m (pc + 3) Ls (.ref a :: st))) : Go p l e R s m args below meth c n0 Q h k n (mkF m pc Ls st) := by
  intro T L X eT N
  obtain ⟨T', h', X', e', E, A, D, -, stp⟩ := newO X K.1 K.2.1 K.2.2.1 w wi wz eT (g := mkF m pc Ls st) rfl (hb K.2.2.2.1 hd) hk hn
  obtain ⟨s₂, o, S, r⟩ := hr h' h.size rfl (keep_ext E) A D T' L X' e' N
  exact ⟨s₂, o, stp _ S, r⟩
theorem g_initO (K : Kx Z own nm bytes ml rt p s m meth c) (pc : Nat) {i : Nat} {a : Addr} (hd : decode bytes pc = .ok (.invokespecial i, 3)) (w1 : (Jvm.Cond.methodLink own i Lib.objectInit).before a0 Z = true) (w2 : (Jvm.Cond.instanceMethod Lib.objectInit).before a0 Z = true) (w3 : (Jvm.Cond.code Lib.objectInit ⟨#[0xb1]⟩ 1 none).before a0 Z = true) (hls : Ls.size = ml) (hf : 1 ≤ R.frames) (W : Nat) (hW : (st.map fun v => v.category).sum ≤ W) (hlo : W + 12 ≤ R.locals) (hr : Go p l e R s m args below meth c n0 Q h k n (mkF m (pc + 3) Ls st)) : Go p l e R s m args below meth c n0 Q h k n (mkF m pc Ls (.ref a :: st)) := by
  intro T L X eT N
  obtain ⟨T', X', e', stp⟩ := initO X K.1 K.2.1 K.2.2.1 w1 w2 w3 eT (g := mkF m pc Ls (.ref a :: st)) rfl (hls.trans K.2.2.2.2.1.symm) rfl (hb K.2.2.2.1 hd) hf (W := W) (by show 2 * 0 + _ ≤ _; omega) hlo
  obtain ⟨s₂, o, S, r⟩ := hr T' L X' e' N
  exact ⟨s₂, o, stp _ S, r⟩
theorem g_newI (K : Kx Z own nm bytes ml rt p s m meth c) (pc : Nat) {aty : ArrayType} {z : Int32} (ty : FieldType) (hd : decode bytes pc = .ok (.newarray aty, 2)) (hty : newarray.typeOf aty = ty) (hdef : defaultValue ty = .int 0) (w : (Jvm.Cond.arrayClass ty).before a0 Z = true) (hz : ¬ z < 0) (cap : Nat) (hcap : z.toNatClampNeg ≤ cap) (hb8 : cap * 8 ≤ 536870912) (hk : k + 1 ≤ R.cells) (hn : n + cap ≤ R.slots) (hr : ∀ h' a, a = h.size → Keep h h' [] → IA Z h' a ty (List.replicate z.toNatClampNeg 0) → Go p l e R s m args below meth c n0 Q h' (k + 1) (n + cap) (mkF m (pc + 2) Ls (.ref a :: st))) : Go p l e R s m args below meth c n0 Q h k n (mkF m pc Ls (.int z :: st)) := by
  subst hty
  intro T L X eT N
  obtain ⟨T', h', cA, X', e', E, A, stp⟩ := newP X K.1 K.2.1 w eT (g := mkF m pc Ls (.int z :: st)) rfl (hb K.2.2.2.1 hd) rfl hz hcap hb8 hk hn
  obtain ⟨s₂, o, S, r⟩ := hr h' h.size rfl (keep_ext E) ⟨_, A, by simp [newA, hdef]⟩ T' L X' e' N
  exact ⟨s₂, o, stp _ S, r⟩
theorem g_newJ (K : Kx Z own nm bytes ml rt p s m meth c) (pc : Nat) {z : Int32} (hd : decode bytes pc = .ok (.newarray .long, 2)) (w : (Jvm.Cond.arrayClass .long).before a0 Z = true) (hz : ¬ z < 0) (cap : Nat) (hcap : z.toNatClampNeg ≤ cap) (hb8 : cap * 8 ≤ 536870912) (hk : k + 1 ≤ R.cells) (hn : n + cap ≤ R.slots) (hr : ∀ h' a, a = h.size → Keep h h' [] → LA Z h' a (List.replicate z.toNatClampNeg 0) → Go p l e R s m args below meth c n0 Q h' (k + 1) (n + cap) (mkF m (pc + 2) Ls (.ref a :: st))) : Go p l e R s m args below meth c n0 Q h k n (mkF m pc Ls (.int z :: st)) := by
  intro T L X eT N
  obtain ⟨T', h', cA, X', e', E, A, stp⟩ := newP X K.1 K.2.1 (aty := .long) w eT (g := mkF m pc Ls (.int z :: st)) rfl (hb K.2.2.2.1 hd) rfl hz hcap hb8 hk hn
  obtain ⟨s₂, o, S, r⟩ := hr h' h.size rfl (keep_ext E) ⟨_, A, by simp [newA, defaultValue, newarray.typeOf]⟩ T' L X' e' N
  exact ⟨s₂, o, stp _ S, r⟩
theorem g_iaload (K : Kx Z own nm bytes ml rt p s m meth c) (pc : Nat) {a : Addr} {xs : List Int32} {j : Int32} (v : Int32) (hd : decode bytes pc = .ok (.iaload, 1)) (F : IA Z h a .int xs) (hj : ¬ j < 0) (hv : xs[j.toNatClampNeg]? = some v) (hr : Go p l e R s m args below meth c n0 Q h k n (mkF m (pc + 1) Ls (.int v :: st))) : Go p l e R s m args below meth c n0 Q h k n (mkF m pc Ls (.int j :: .ref a :: st)) := by
  intro T L X eT N
  obtain ⟨cl, A, es⟩ := F
  obtain ⟨s₂, o, S, r⟩ := hr T L X eT N
  have hlt : j.toNatClampNeg < xs.length := (List.getElem?_eq_some_iff.mp hv).1
  refine ⟨s₂, o, X.iaload K.1 (j := j) (v := (.int v)) (by rw [eT]; exact A.1) (State.isArrayOf_alike K.2.1.alike A.2.1) A.2.2 (own_clamp hj hlt (by simp [es])) (by rw [es]; simp [hv]) (g := mkF m pc Ls (.int j :: .ref a :: st)) rfl rfl (hb K.2.2.2.1 hd) _ S, r⟩
theorem g_baload (K : Kx Z own nm bytes ml rt p s m meth c) (pc : Nat) {a : Addr} {xs : List Int32} {j : Int32} (v : Int32) (hd : decode bytes pc = .ok (.baload, 1)) (F : IA Z h a .byte xs) (hj : ¬ j < 0) (hv : xs[j.toNatClampNeg]? = some v) (hr : Go p l e R s m args below meth c n0 Q h k n (mkF m (pc + 1) Ls (.int v :: st))) : Go p l e R s m args below meth c n0 Q h k n (mkF m pc Ls (.int j :: .ref a :: st)) := by
  intro T L X eT N
  obtain ⟨cl, A, es⟩ := F
  obtain ⟨s₂, o, S, r⟩ := hr T L X eT N
  have hlt : j.toNatClampNeg < xs.length := (List.getElem?_eq_some_iff.mp hv).1
  refine ⟨s₂, o, X.baloadBytes K.1 (j := j) (v := (.int v)) (by rw [eT]; exact A.1) (State.isArrayOf_alike K.2.1.alike A.2.1) A.2.2 (own_clamp hj hlt (by simp [es])) (by rw [es]; simp [hv]) (g := mkF m pc Ls (.int j :: .ref a :: st)) rfl rfl (hb K.2.2.2.1 hd) _ S, r⟩
theorem g_zaload (K : Kx Z own nm bytes ml rt p s m meth c) (pc : Nat) {a : Addr} {xs : List Int32} {j : Int32} (v : Int32) (hd : decode bytes pc = .ok (.baload, 1)) (F : IA Z h a .boolean xs) (hj : ¬ j < 0) (hv : xs[j.toNatClampNeg]? = some v) (hr : Go p l e R s m args below meth c n0 Q h k n (mkF m (pc + 1) Ls (.int v :: st))) : Go p l e R s m args below meth c n0 Q h k n (mkF m pc Ls (.int j :: .ref a :: st)) := by
  intro T L X eT N
  obtain ⟨cl, A, es⟩ := F
  obtain ⟨s₂, o, S, r⟩ := hr T L X eT N
  have hlt : j.toNatClampNeg < xs.length := (List.getElem?_eq_some_iff.mp hv).1
  refine ⟨s₂, o, X.baloadBooleans K.1 (j := j) (v := (.int v)) (by rw [eT]; exact A.1) (State.isArrayOf_alike K.2.1.alike A.2.1) A.2.2 (own_clamp hj hlt (by simp [es])) (by rw [es]; simp [hv]) (g := mkF m pc Ls (.int j :: .ref a :: st)) rfl rfl (hb K.2.2.2.1 hd) _ S, r⟩
theorem g_saload (K : Kx Z own nm bytes ml rt p s m meth c) (pc : Nat) {a : Addr} {xs : List Int32} {j : Int32} (v : Int32) (hd : decode bytes pc = .ok (.saload, 1)) (F : IA Z h a .short xs) (hj : ¬ j < 0) (hv : xs[j.toNatClampNeg]? = some v) (hr : Go p l e R s m args below meth c n0 Q h k n (mkF m (pc + 1) Ls (.int v :: st))) : Go p l e R s m args below meth c n0 Q h k n (mkF m pc Ls (.int j :: .ref a :: st)) := by
  intro T L X eT N
  obtain ⟨cl, A, es⟩ := F
  obtain ⟨s₂, o, S, r⟩ := hr T L X eT N
  have hlt : j.toNatClampNeg < xs.length := (List.getElem?_eq_some_iff.mp hv).1
  refine ⟨s₂, o, X.saload K.1 (j := j) (v := (.int v)) (by rw [eT]; exact A.1) (State.isArrayOf_alike K.2.1.alike A.2.1) A.2.2 (own_clamp hj hlt (by simp [es])) (by rw [es]; simp [hv]) (g := mkF m pc Ls (.int j :: .ref a :: st)) rfl rfl (hb K.2.2.2.1 hd) _ S, r⟩
theorem g_laload (K : Kx Z own nm bytes ml rt p s m meth c) (pc : Nat) {a : Addr} {xs : List Int64} {j : Int32} (v : Int64) (hd : decode bytes pc = .ok (.laload, 1)) (F : LA Z h a xs) (hj : ¬ j < 0) (hv : xs[j.toNatClampNeg]? = some v) (hr : Go p l e R s m args below meth c n0 Q h k n (mkF m (pc + 1) Ls (.long v :: st))) : Go p l e R s m args below meth c n0 Q h k n (mkF m pc Ls (.int j :: .ref a :: st)) := by
  intro T L X eT N
  obtain ⟨cl, A, es⟩ := F
  obtain ⟨s₂, o, S, r⟩ := hr T L X eT N
  have hlt : j.toNatClampNeg < xs.length := (List.getElem?_eq_some_iff.mp hv).1
  refine ⟨s₂, o, X.laload K.1 (j := j) (v := (.long v)) (by rw [eT]; exact A.1) (State.isArrayOf_alike K.2.1.alike A.2.1) A.2.2 (own_clamp hj hlt (by simp [es])) (by rw [es]; simp [hv]) (g := mkF m pc Ls (.int j :: .ref a :: st)) rfl rfl (hb K.2.2.2.1 hd) _ S, r⟩
theorem g_iastore (K : Kx Z own nm bytes ml rt p s m meth c) (pc : Nat) {a : Addr} {xs : List Int32} {j : Int32} {x : Int32} (hd : decode bytes pc = .ok (.iastore, 1)) (F : IA Z h a .int xs) (hj : ¬ j < 0) (hlt : j.toNatClampNeg < xs.length) (ha : n0 ≤ a) (hr : ∀ h', Keep h h' [a] → IA Z h' a .int (xs.set j.toNatClampNeg (x)) → Go p l e R s m args below meth c n0 Q h' k n (mkF m (pc + 1) Ls st)) : Go p l e R s m args below meth c n0 Q h k n (mkF m pc Ls (.int x :: .int j :: .ref a :: st)) := by
  intro T L X eT N
  have F' := F
  obtain ⟨cl, A, es⟩ := F
  obtain ⟨T', h', X', e', W, stp⟩ := stI X K.1 K.2.1 eT A (j := j) (x := x) (own_clamp hj hlt (by simp [es])) (g := mkF m pc Ls (.int x :: .int j :: .ref a :: st)) rfl rfl (hb K.2.2.2.1 hd)
  obtain ⟨s₂, o, S, r⟩ := hr h' (Keep.of_wr W) (F'.set W) T' _ X' e' (Fr.snoc X' N ha)
  exact ⟨s₂, o, stp _ S, r⟩
theorem g_bastore (K : Kx Z own nm bytes ml rt p s m meth c) (pc : Nat) {a : Addr} {xs : List Int32} {j : Int32} {x : Int32} (hd : decode bytes pc = .ok (.bastore, 1)) (F : IA Z h a .byte xs) (hj : ¬ j < 0) (hlt : j.toNatClampNeg < xs.length) (ha : n0 ≤ a) (hr : ∀ h', Keep h h' [a] → IA Z h' a .byte (xs.set j.toNatClampNeg (nar .byte x)) → Go p l e R s m args below meth c n0 Q h' k n (mkF m (pc + 1) Ls st)) : Go p l e R s m args below meth c n0 Q h k n (mkF m pc Ls (.int x :: .int j :: .ref a :: st)) := by
  intro T L X eT N
  have F' := F
  obtain ⟨cl, A, es⟩ := F
  obtain ⟨T', h', X', e', W, stp⟩ := stB X K.1 K.2.1 eT A (j := j) (x := x) (own_clamp hj hlt (by simp [es])) (g := mkF m pc Ls (.int x :: .int j :: .ref a :: st)) rfl rfl (hb K.2.2.2.1 hd)
  obtain ⟨s₂, o, S, r⟩ := hr h' (Keep.of_wr W) (F'.set W) T' _ X' e' (Fr.snoc X' N ha)
  exact ⟨s₂, o, stp _ S, r⟩
theorem g_zastore (K : Kx Z own nm bytes ml rt p s m meth c) (pc : Nat) {a : Addr} {xs : List Int32} {j : Int32} {x : Int32} (hd : decode bytes pc = .ok (.bastore, 1)) (F : IA Z h a .boolean xs) (hj : ¬ j < 0) (hlt : j.toNatClampNeg < xs.length) (ha : n0 ≤ a) (hr : ∀ h', Keep h h' [a] → IA Z h' a .boolean (xs.set j.toNatClampNeg (nar .boolean x)) → Go p l e R s m args below meth c n0 Q h' k n (mkF m (pc + 1) Ls st)) : Go p l e R s m args below meth c n0 Q h k n (mkF m pc Ls (.int x :: .int j :: .ref a :: st)) := by
  intro T L X eT N
  have F' := F
  obtain ⟨cl, A, es⟩ := F
  obtain ⟨T', h', X', e', W, stp⟩ := stZ X K.1 K.2.1 eT A (j := j) (x := x) (own_clamp hj hlt (by simp [es])) (g := mkF m pc Ls (.int x :: .int j :: .ref a :: st)) rfl rfl (hb K.2.2.2.1 hd)
  obtain ⟨s₂, o, S, r⟩ := hr h' (Keep.of_wr W) (F'.set W) T' _ X' e' (Fr.snoc X' N ha)
  exact ⟨s₂, o, stp _ S, r⟩
theorem g_sastore (K : Kx Z own nm bytes ml rt p s m meth c) (pc : Nat) {a : Addr} {xs : List Int32} {j : Int32} {x : Int32} (hd : decode bytes pc = .ok (.sastore, 1)) (F : IA Z h a .short xs) (hj : ¬ j < 0) (hlt : j.toNatClampNeg < xs.length) (ha : n0 ≤ a) (hr : ∀ h', Keep h h' [a] → IA Z h' a .short (xs.set j.toNatClampNeg (nar .short x)) → Go p l e R s m args below meth c n0 Q h' k n (mkF m (pc + 1) Ls st)) : Go p l e R s m args below meth c n0 Q h k n (mkF m pc Ls (.int x :: .int j :: .ref a :: st)) := by
  intro T L X eT N
  have F' := F
  obtain ⟨cl, A, es⟩ := F
  obtain ⟨T', h', X', e', W, stp⟩ := stS X K.1 K.2.1 eT A (j := j) (x := x) (own_clamp hj hlt (by simp [es])) (g := mkF m pc Ls (.int x :: .int j :: .ref a :: st)) rfl rfl (hb K.2.2.2.1 hd)
  obtain ⟨s₂, o, S, r⟩ := hr h' (Keep.of_wr W) (F'.set W) T' _ X' e' (Fr.snoc X' N ha)
  exact ⟨s₂, o, stp _ S, r⟩
theorem g_lastore (K : Kx Z own nm bytes ml rt p s m meth c) (pc : Nat) {a : Addr} {xs : List Int64} {j : Int32} {x : Int64} (hd : decode bytes pc = .ok (.lastore, 1)) (F : LA Z h a xs) (hj : ¬ j < 0) (hlt : j.toNatClampNeg < xs.length) (ha : n0 ≤ a) (hr : ∀ h', Keep h h' [a] → LA Z h' a (xs.set j.toNatClampNeg (x)) → Go p l e R s m args below meth c n0 Q h' k n (mkF m (pc + 1) Ls st)) : Go p l e R s m args below meth c n0 Q h k n (mkF m pc Ls (.long x :: .int j :: .ref a :: st)) := by
  intro T L X eT N
  have F' := F
  obtain ⟨cl, A, es⟩ := F
  obtain ⟨T', h', X', e', W, stp⟩ := stJ X K.1 K.2.1 eT A (j := j) (x := x) (own_clamp hj hlt (by simp [es])) (g := mkF m pc Ls (.long x :: .int j :: .ref a :: st)) rfl rfl (hb K.2.2.2.1 hd)
  obtain ⟨s₂, o, S, r⟩ := hr h' (Keep.of_wr W) (F'.set W) T' _ X' e' (Fr.snoc X' N ha)
  exact ⟨s₂, o, stp _ S, r⟩
theorem g_alen (K : Kx Z own nm bytes ml rt p s m meth c) (pc : Nat) {a : Addr} {ty : FieldType} {xs : List Int32} (v : Int32) (hd : decode bytes pc = .ok (.arraylength, 1)) (F : IA Z h a ty xs) (hv : xs.length.toInt32 = v) (hr : Go p l e R s m args below meth c n0 Q h k n (mkF m (pc + 1) Ls (.int v :: st))) : Go p l e R s m args below meth c n0 Q h k n (mkF m pc Ls (.ref a :: st)) := by
  intro T L X eT N
  obtain ⟨cl, A, es⟩ := F
  obtain ⟨s₂, o, S, r⟩ := hr T L X eT N
  have hq : cl.slots.size.toInt32 = v := by rw [es]; simpa using hv
  refine ⟨s₂, o, X.arraylength K.1 (cell := cl) (by rw [eT]; exact A.1) (State.isArrayOf_alike K.2.1.alike A.2.1) (g := mkF m pc Ls (.ref a :: st)) rfl (rest := st) rfl (hb K.2.2.2.1 hd) _ ?_, r⟩
  rw [hq]; exact S
theorem g_callS (K : Kx Z own nm bytes ml rt p s m meth c) (pc : Nat) {i : Nat} {y : MethodName} {b2 : ByteArray} {ml2 : Nat} {rt2 : Option FieldType} {rm : Room} {Q' : Option Value → Heap → Prop} {sig : MethodDescriptor} {S0 : List Value} (argsL : List Value) (W : Nat) (hd : decode bytes pc = .ok (.invokestatic i, 3))
    (M : Meets l y b2 ml2 rt2 rm Z argsL.toArray h n0 Q') (wl : (Jvm.Cond.methodLink own i y).before a0 Z = true) (ws : (Jvm.Cond.static y).before a0 Z = true) (wz : (Jvm.Cond.initialized y.cls).before a0 Z = true) (wc : (Jvm.Cond.code y b2 ml2 rt2).before a0 Z = true) (hy : y.cls ≠ "java/lang/invoke/MethodHandle" ∧ y.cls ≠ "java/lang/invoke/VarHandle")
    (hpd : parseMethodDescriptor y.desc = some sig) (hlen : argsL.length = sig.parameters.length) (hS : S0 = argsL.reverse ++ st) (hW : (st.map fun v => v.category).sum ≤ W) (hls : Ls.size = ml) (hf : rm.frames + 1 ≤ R.frames) (hlo : W + (ml2 + 11) + rm.locals ≤ R.locals) (hk : k + rm.cells ≤ R.cells) (hn : n + rm.slots ≤ R.slots)
    (hr : ∀ v h', Q' v h' → Go p l e R s m args below meth c n0 Q h' (k + rm.cells) (n + rm.slots) (mkF m (pc + 3) Ls (v.toList ++ st))) : Go p l e R s m args below meth c n0 Q h k n (mkF m pc Ls S0) := by
  subst hS
  intro T L X eT N
  obtain ⟨v, vm₁, ⟨T', L', k', n'⟩, -, X', ⟨L2, hQ, l1, y1, z1⟩, stp⟩ := Jvm.LawKit.callS X K.1 (y := y) K.2.2.1 (mvT K.2.1 wl) (mvT K.2.1 ws) (mvT K.2.1 wz) (mvT K.2.1 wc) hy (backOf (W := W) (Q := fun v h L => Q' v h ∧ Fr n0 L) (M []) K.2.1 wc wz hf hlo) (g := mkF m pc Ls (argsL.reverse ++ st)) rfl (hls.trans K.2.2.2.2.1.symm) (argsL := argsL) (rest := st) (fun sg h => by cases hpd.symm.trans h; exact hlen) rfl (by show 2 * 0 + _ ≤ _; omega) (hb K.2.2.2.1 hd) (fun _ _ => ⟨rfl, eT, hk, hn⟩)
  dsimp only [Pt.U, Pt.locs, Pt.cells, Pt.slots] at X' l1 y1 z1 stp hQ
  subst l1 y1 z1
  obtain ⟨s₂, o, S, r⟩ := hr v _ hQ.1 T' _ X' rfl (Fr.app N hQ.2)
  exact ⟨s₂, o, stp _ S, r⟩
theorem g_callN (K : Kx Z own nm bytes ml rt p s m meth c) (pc : Nat) {i : Nat} {y : MethodName} {b2 : ByteArray} {ml2 : Nat} {rm : Room} {Q' : Option Value → Heap → Prop} {sig : MethodDescriptor} {S0 : List Value} {a : Addr} (argsL : List Value) (W : Nat) (hd : decode bytes pc = .ok (.invokespecial i, 3))
    (M : Meets l y b2 ml2 none rm Z (.ref a :: argsL).toArray h n0 Q') (hy1 : y.name = "<init>") (wl : (Jvm.Cond.methodLink own i y).before a0 Z = true) (wi : (Jvm.Cond.instanceMethod y).before a0 Z = true) (wz : (Jvm.Cond.initialized y.cls).before a0 Z = true) (wc : (Jvm.Cond.code y b2 ml2 none).before a0 Z = true) (hy : y.cls ≠ "java/lang/invoke/MethodHandle" ∧ y.cls ≠ "java/lang/invoke/VarHandle")
    (hpd : parseMethodDescriptor y.desc = some sig) (hlen : argsL.length = sig.parameters.length) (hS : S0 = argsL.reverse ++ .ref a :: st) (hW : (st.map fun v => v.category).sum ≤ W) (hls : Ls.size = ml) (hf : rm.frames + 1 ≤ R.frames) (hlo : W + (ml2 + 11) + rm.locals ≤ R.locals) (hk : k + rm.cells ≤ R.cells) (hn : n + rm.slots ≤ R.slots)
    (hr : ∀ v h', Q' v h' → Go p l e R s m args below meth c n0 Q h' (k + rm.cells) (n + rm.slots) (mkF m (pc + 3) Ls (v.toList ++ st))) : Go p l e R s m args below meth c n0 Q h k n (mkF m pc Ls S0) := by
  subst hS
  intro T L X eT N
  obtain ⟨v, vm₁, ⟨T', L', k', n'⟩, -, X', ⟨L2, hQ, l1, y1, z1⟩, stp⟩ := X.specialBack K.1 (y := y) hy1 K.2.2.1 (mvT K.2.1 wl) (mvT K.2.1 wi) (mvT K.2.1 wc) hy (backOf (W := W) (Q := fun v h L => Q' v h ∧ Fr n0 L) (M []) K.2.1 wc wz hf hlo) (g := mkF m pc Ls (argsL.reverse ++ .ref a :: st)) rfl (hls.trans K.2.2.2.2.1.symm) (Steps.refl _) (a := a) (argsL := argsL) (rest := st) (fun sg h => by cases hpd.symm.trans h; exact hlen) rfl (by show 2 * 0 + _ ≤ _; omega) (hb K.2.2.2.1 hd) (fun _ _ => ⟨rfl, eT, hk, hn⟩)
  dsimp only [Pt.U, Pt.locs, Pt.cells, Pt.slots] at X' l1 y1 z1 stp hQ
  subst l1 y1 z1
  obtain ⟨s₂, o, S, r⟩ := hr v _ hQ.1 T' _ X' rfl (Fr.app N hQ.2)
  exact ⟨s₂, o, stp.trans S, r⟩
theorem g_callV (K : Kx Z own nm bytes ml rt p s m meth c) (pc : Nat) {i : Nat} {y z : MethodName} {C : String} {b2 : ByteArray} {ml2 : Nat} {rt2 : Option FieldType} {rm : Room} {Q' : Option Value → Heap → Prop} {sig : MethodDescriptor} {S0 : List Value} {a : Addr} (argsL : List Value) (W : Nat) (hd : decode bytes pc = .ok (.invokevirtual i, 3))
    (M : Meets l z b2 ml2 rt2 rm Z (.ref a :: argsL).toArray h n0 Q') (E : Exa Z h a C) (wl : (Jvm.Cond.methodLink own i y).before a0 Z = true) (wd : (Jvm.Cond.declares y).before a0 Z = true) (wsel : (Jvm.Cond.selects C y z).before a0 Z = true) (wself : (Jvm.Cond.selects y.cls y y).before a0 Z = true) (wi : (Jvm.Cond.instanceMethod z).before a0 Z = true) (wz : (Jvm.Cond.initialized z.cls).before a0 Z = true) (wc : (Jvm.Cond.code z b2 ml2 rt2).before a0 Z = true) (hy : y.cls ≠ "java/lang/invoke/MethodHandle" ∧ y.cls ≠ "java/lang/invoke/VarHandle")
    (hpd : parseMethodDescriptor y.desc = some sig) (hlen : argsL.length = sig.parameters.length) (hS : S0 = argsL.reverse ++ .ref a :: st) (hW : (st.map fun v => v.category).sum ≤ W) (hls : Ls.size = ml) (hf : rm.frames + 1 ≤ R.frames) (hlo : W + (ml2 + 11) + rm.locals ≤ R.locals) (hk : k + rm.cells ≤ R.cells) (hn : n + rm.slots ≤ R.slots)
    (hr : ∀ v h', Q' v h' → Go p l e R s m args below meth c n0 Q h' (k + rm.cells) (n + rm.slots) (mkF m (pc + 3) Ls (v.toList ++ st))) : Go p l e R s m args below meth c n0 Q h k n (mkF m pc Ls S0) := by
  subst hS
  intro T L X eT N
  obtain ⟨cB, kB, q1, q2, q3⟩ := isOf K.2.1 eT E
  obtain ⟨v, vm₁, ⟨T', L', k', n'⟩, -, X', ⟨L2, hQ, l1, y1, z1⟩, stp⟩ := X.virtualBack K.1 (y := y) (z := z) K.2.2.1 (mvT K.2.1 wl) (mvT K.2.1 wd) (notFace_of_selects (args := #[]) (mvT K.2.1 wself)) (mvT K.2.1 wsel) (mvT K.2.1 wi) hy (backOf (W := W) (Q := fun v h L => Q' v h ∧ Fr n0 L) (M []) K.2.1 wc wz hf hlo) q1 q3 (g := mkF m pc Ls (argsL.reverse ++ .ref a :: st)) rfl (hls.trans K.2.2.2.2.1.symm) (Steps.refl _) (argsL := argsL) (rest := st) (fun sg h => by cases hpd.symm.trans h; exact hlen) rfl (by show 2 * 0 + _ ≤ _; omega) (hb K.2.2.2.1 hd) (fun _ _ => ⟨rfl, eT, hk, hn⟩)
  dsimp only [Pt.U, Pt.locs, Pt.cells, Pt.slots] at X' l1 y1 z1 stp hQ
  subst l1 y1 z1
  obtain ⟨s₂, o, S, r⟩ := hr v _ hQ.1 T' _ X' rfl (Fr.app N hQ.2)
  exact ⟨s₂, o, stp.trans S, r⟩
end GoSteps
theorem meets_of {l : Launch} {y : MethodName} {bytes : ByteArray} {ml : Nat} {rt : Option FieldType} {rm : Room} {Z : State} {as : Array Value} {h0 : Heap} {n0 : Nat} {Q : Option Value → Heap → Prop} (hx : plainFor y = true) {Ls : Array Slot} (hef : ∀ m, entryFrame m as ml = mkF m 0 Ls [])
    (body : ∀ p e s m below meth c, Kx Z y.cls y.name bytes ml rt p s m meth c → Go p l e rm s m as below meth c n0 Q h0 0 0 (mkF m 0 Ls [])) : Meets l y bytes ml rt rm Z as h0 n0 Q := by
  intro ws
  refine MetFree.of_bodySF hx hisR ?_
  intro p e s m args below meth c s₁ Bd hml0 hP hK
  obtain ⟨rfl, hZ, hh⟩ := hP
  have X0 : Stand p l e rm s m args below meth c s₁ [] 0 0 := Stand.of_body Bd
  have e0 : s₁.heap = h0 := by rw [← hh, Bd.state]; rfl
  obtain ⟨s₂, o, S, r1, r2, r3⟩ := body p e s m below meth c ⟨Bd.exec, hZ, findClass_of_methodNamed Bd.named, Bd.bytes, hml0, Bd.returns, Bd.notSynchronized, (name_of_methodNamed Bd.named Bd.method).1⟩ s₁ [] X0 e0 (Fr.nil n0)
  exact ⟨s₂, o, castTop (hef m) S, r1, r2, r3⟩
theorem tw {a0 : Array Value} {Z : State} {ts : List Jvm.Cond} (hw : ∀ d ∈ ts, d.before a0 Z = true) (i : Nat) {d : Jvm.Cond} (q : ts[i]? = some d) : d.before a0 Z = true := hw _ (List.mem_of_getElem? q)
theorem pn0 : plainName "com/example/gapwise/gapwise/Term$Utf8" = true := by first | (simp [plainName, overriddenIn]; done) | decide +kernel
theorem pd0 : parseMethodDescriptor "()V" = some ⟨[], none⟩ := by decide +kernel
theorem pd1 : parseMethodDescriptor "(B)I" = some ⟨[.byte], some .int⟩ := by decide +kernel
theorem pn1 : plainName "com/example/gapwise/gapwise/Utf8TakePinLaw" = true := by first | (simp [plainName, overriddenIn]; done) | decide +kernel
theorem pd2 : parseMethodDescriptor "(Lcom/example/gapwise/gapwise/Term$Utf8;I)Z" = some ⟨[(.object "com/example/gapwise/gapwise/Term$Utf8"), .int], some .boolean⟩ := by decide +kernel
theorem pd3 : parseMethodDescriptor "()Z" = some ⟨[], some .boolean⟩ := by decide +kernel
theorem pd4 : parseMethodDescriptor "(I)I" = some ⟨[.int], some .int⟩ := by decide +kernel
theorem pd5 : parseMethodDescriptor "(I)Z" = some ⟨[.int], some .boolean⟩ := by decide +kernel
theorem pd6 : parseMethodDescriptor "(IIIIII)Z" = some ⟨[.int, .int, .int, .int, .int, .int], some .boolean⟩ := by decide +kernel
theorem d1_0 : decode prog_244_method_1_code 0 = .ok (.aload_n 0, 1) := by decide +kernel
theorem d1_1 : decode prog_244_method_1_code 1 = .ok (.invokespecial 1, 3) := by decide +kernel
theorem d1_4 : decode prog_244_method_1_code 4 = .ok (.return_, 1) := by decide +kernel
theorem d2_0 : decode object_method_1_code 0 = .ok (.return_, 1) := by decide +kernel
theorem d3_0 : decode prog_244_method_3_code 0 = .ok (.iload_n 1, 1) := by decide +kernel
theorem d3_1 : decode prog_244_method_3_code 1 = .ok (.sipush 255, 3) := by decide +kernel
theorem d3_4 : decode prog_244_method_3_code 4 = .ok (.iand, 1) := by decide +kernel
theorem d3_5 : decode prog_244_method_3_code 5 = .ok (.istore_n 2, 1) := by decide +kernel
theorem d3_6 : decode prog_244_method_3_code 6 = .ok (.aload_n 0, 1) := by decide +kernel
theorem d3_7 : decode prog_244_method_3_code 7 = .ok (.getfield 7, 3) := by decide +kernel
theorem d3_10 : decode prog_244_method_3_code 10 = .ok (.ifCond .le 27, 3) := by decide +kernel
theorem d3_13 : decode prog_244_method_3_code 13 = .ok (.iload_n 2, 1) := by decide +kernel
theorem d3_14 : decode prog_244_method_3_code 14 = .ok (.aload_n 0, 1) := by decide +kernel
theorem d3_15 : decode prog_244_method_3_code 15 = .ok (.getfield 13, 3) := by decide +kernel
theorem d3_18 : decode prog_244_method_3_code 18 = .ok (.if_icmp .lt 11, 3) := by decide +kernel
theorem d3_21 : decode prog_244_method_3_code 21 = .ok (.iload_n 2, 1) := by decide +kernel
theorem d3_22 : decode prog_244_method_3_code 22 = .ok (.aload_n 0, 1) := by decide +kernel
theorem d3_23 : decode prog_244_method_3_code 23 = .ok (.getfield 16, 3) := by decide +kernel
theorem d3_26 : decode prog_244_method_3_code 26 = .ok (.if_icmp .le 11, 3) := by decide +kernel
theorem d3_29 : decode prog_244_method_3_code 29 = .ok (.aload_n 0, 1) := by decide +kernel
theorem d3_30 : decode prog_244_method_3_code 30 = .ok (.iconst 0, 1) := by decide +kernel
theorem d3_31 : decode prog_244_method_3_code 31 = .ok (.putfield 7, 3) := by decide +kernel
theorem d3_34 : decode prog_244_method_3_code 34 = .ok (.bipush (-3), 2) := by decide +kernel
theorem d3_36 : decode prog_244_method_3_code 36 = .ok (.ireturn, 1) := by decide +kernel
theorem d3_37 : decode prog_244_method_3_code 37 = .ok (.aload_n 0, 1) := by decide +kernel
theorem d3_38 : decode prog_244_method_3_code 38 = .ok (.getfield 7, 3) := by decide +kernel
theorem d3_41 : decode prog_244_method_3_code 41 = .ok (.ifCond .le 62, 3) := by decide +kernel
theorem d3_44 : decode prog_244_method_3_code 44 = .ok (.aload_n 0, 1) := by decide +kernel
theorem d3_45 : decode prog_244_method_3_code 45 = .ok (.aload_n 0, 1) := by decide +kernel
theorem d3_46 : decode prog_244_method_3_code 46 = .ok (.getfield 19, 3) := by decide +kernel
theorem d3_49 : decode prog_244_method_3_code 49 = .ok (.bipush 6, 2) := by decide +kernel
theorem d3_51 : decode prog_244_method_3_code 51 = .ok (.ishl, 1) := by decide +kernel
theorem d3_52 : decode prog_244_method_3_code 52 = .ok (.iload_n 2, 1) := by decide +kernel
theorem d3_53 : decode prog_244_method_3_code 53 = .ok (.bipush 63, 2) := by decide +kernel
theorem d3_55 : decode prog_244_method_3_code 55 = .ok (.iand, 1) := by decide +kernel
theorem d3_56 : decode prog_244_method_3_code 56 = .ok (.ior, 1) := by decide +kernel
theorem d3_57 : decode prog_244_method_3_code 57 = .ok (.putfield 19, 3) := by decide +kernel
theorem d3_60 : decode prog_244_method_3_code 60 = .ok (.aload_n 0, 1) := by decide +kernel
theorem d3_61 : decode prog_244_method_3_code 61 = .ok (.sipush 128, 3) := by decide +kernel
theorem d3_64 : decode prog_244_method_3_code 64 = .ok (.putfield 13, 3) := by decide +kernel
theorem d3_67 : decode prog_244_method_3_code 67 = .ok (.aload_n 0, 1) := by decide +kernel
theorem d3_68 : decode prog_244_method_3_code 68 = .ok (.sipush 191, 3) := by decide +kernel
theorem d3_71 : decode prog_244_method_3_code 71 = .ok (.putfield 16, 3) := by decide +kernel
theorem d3_74 : decode prog_244_method_3_code 74 = .ok (.aload_n 0, 1) := by decide +kernel
theorem d3_75 : decode prog_244_method_3_code 75 = .ok (.dup, 1) := by decide +kernel
theorem d3_76 : decode prog_244_method_3_code 76 = .ok (.getfield 7, 3) := by decide +kernel
theorem d3_79 : decode prog_244_method_3_code 79 = .ok (.iconst 1, 1) := by decide +kernel
theorem d3_80 : decode prog_244_method_3_code 80 = .ok (.isub, 1) := by decide +kernel
theorem d3_81 : decode prog_244_method_3_code 81 = .ok (.putfield 7, 3) := by decide +kernel
theorem d3_84 : decode prog_244_method_3_code 84 = .ok (.aload_n 0, 1) := by decide +kernel
theorem d3_85 : decode prog_244_method_3_code 85 = .ok (.getfield 7, 3) := by decide +kernel
theorem d3_88 : decode prog_244_method_3_code 88 = .ok (.ifCond .ne 10, 3) := by decide +kernel
theorem d3_91 : decode prog_244_method_3_code 91 = .ok (.aload_n 0, 1) := by decide +kernel
theorem d3_92 : decode prog_244_method_3_code 92 = .ok (.getfield 19, 3) := by decide +kernel
theorem d3_95 : decode prog_244_method_3_code 95 = .ok (.goto 4, 3) := by decide +kernel
theorem d3_98 : decode prog_244_method_3_code 98 = .ok (.iconst (-1), 1) := by decide +kernel
theorem d3_99 : decode prog_244_method_3_code 99 = .ok (.istore_n 3, 1) := by decide +kernel
theorem d3_100 : decode prog_244_method_3_code 100 = .ok (.goto 143, 3) := by decide +kernel
theorem d3_103 : decode prog_244_method_3_code 103 = .ok (.iload_n 2, 1) := by decide +kernel
theorem d3_104 : decode prog_244_method_3_code 104 = .ok (.sipush 128, 3) := by decide +kernel
theorem d3_107 : decode prog_244_method_3_code 107 = .ok (.if_icmp .ge 8, 3) := by decide +kernel
theorem d3_110 : decode prog_244_method_3_code 110 = .ok (.iload_n 2, 1) := by decide +kernel
theorem d3_111 : decode prog_244_method_3_code 111 = .ok (.istore_n 3, 1) := by decide +kernel
theorem d3_112 : decode prog_244_method_3_code 112 = .ok (.goto 131, 3) := by decide +kernel
theorem d3_115 : decode prog_244_method_3_code 115 = .ok (.iload_n 2, 1) := by decide +kernel
theorem d3_116 : decode prog_244_method_3_code 116 = .ok (.sipush 194, 3) := by decide +kernel
theorem d3_119 : decode prog_244_method_3_code 119 = .ok (.if_icmp .lt 121, 3) := by decide +kernel
theorem d3_122 : decode prog_244_method_3_code 122 = .ok (.iload_n 2, 1) := by decide +kernel
theorem d3_123 : decode prog_244_method_3_code 123 = .ok (.sipush 244, 3) := by decide +kernel
theorem d3_126 : decode prog_244_method_3_code 126 = .ok (.if_icmp .gt 114, 3) := by decide +kernel
theorem d3_129 : decode prog_244_method_3_code 129 = .ok (.aload_n 0, 1) := by decide +kernel
theorem d3_130 : decode prog_244_method_3_code 130 = .ok (.iload_n 2, 1) := by decide +kernel
theorem d3_131 : decode prog_244_method_3_code 131 = .ok (.sipush 224, 3) := by decide +kernel
theorem d3_134 : decode prog_244_method_3_code 134 = .ok (.if_icmp .ge 7, 3) := by decide +kernel
theorem d3_137 : decode prog_244_method_3_code 137 = .ok (.iconst 1, 1) := by decide +kernel
theorem d3_138 : decode prog_244_method_3_code 138 = .ok (.goto 15, 3) := by decide +kernel
theorem d3_141 : decode prog_244_method_3_code 141 = .ok (.iload_n 2, 1) := by decide +kernel
theorem d3_142 : decode prog_244_method_3_code 142 = .ok (.sipush 240, 3) := by decide +kernel
theorem d3_145 : decode prog_244_method_3_code 145 = .ok (.if_icmp .ge 7, 3) := by decide +kernel
theorem d3_148 : decode prog_244_method_3_code 148 = .ok (.iconst 2, 1) := by decide +kernel
theorem d3_149 : decode prog_244_method_3_code 149 = .ok (.goto 4, 3) := by decide +kernel
theorem d3_152 : decode prog_244_method_3_code 152 = .ok (.iconst 3, 1) := by decide +kernel
theorem d3_153 : decode prog_244_method_3_code 153 = .ok (.putfield 7, 3) := by decide +kernel
theorem d3_156 : decode prog_244_method_3_code 156 = .ok (.aload_n 0, 1) := by decide +kernel
theorem d3_157 : decode prog_244_method_3_code 157 = .ok (.iload_n 2, 1) := by decide +kernel
theorem d3_158 : decode prog_244_method_3_code 158 = .ok (.bipush 63, 2) := by decide +kernel
theorem d3_160 : decode prog_244_method_3_code 160 = .ok (.aload_n 0, 1) := by decide +kernel
theorem d3_161 : decode prog_244_method_3_code 161 = .ok (.getfield 7, 3) := by decide +kernel
theorem d3_164 : decode prog_244_method_3_code 164 = .ok (.ishr, 1) := by decide +kernel
theorem d3_165 : decode prog_244_method_3_code 165 = .ok (.iand, 1) := by decide +kernel
theorem d3_166 : decode prog_244_method_3_code 166 = .ok (.putfield 19, 3) := by decide +kernel
theorem d3_169 : decode prog_244_method_3_code 169 = .ok (.aload_n 0, 1) := by decide +kernel
theorem d3_170 : decode prog_244_method_3_code 170 = .ok (.iload_n 2, 1) := by decide +kernel
theorem d3_171 : decode prog_244_method_3_code 171 = .ok (.sipush 224, 3) := by decide +kernel
theorem d3_174 : decode prog_244_method_3_code 174 = .ok (.if_icmp .ne 9, 3) := by decide +kernel
theorem d3_177 : decode prog_244_method_3_code 177 = .ok (.sipush 160, 3) := by decide +kernel
theorem d3_180 : decode prog_244_method_3_code 180 = .ok (.goto 19, 3) := by decide +kernel
theorem d3_183 : decode prog_244_method_3_code 183 = .ok (.iload_n 2, 1) := by decide +kernel
theorem d3_184 : decode prog_244_method_3_code 184 = .ok (.sipush 240, 3) := by decide +kernel
theorem d3_187 : decode prog_244_method_3_code 187 = .ok (.if_icmp .ne 9, 3) := by decide +kernel
theorem d3_190 : decode prog_244_method_3_code 190 = .ok (.sipush 144, 3) := by decide +kernel
theorem d3_193 : decode prog_244_method_3_code 193 = .ok (.goto 6, 3) := by decide +kernel
theorem d3_196 : decode prog_244_method_3_code 196 = .ok (.sipush 128, 3) := by decide +kernel
theorem d3_199 : decode prog_244_method_3_code 199 = .ok (.putfield 13, 3) := by decide +kernel
theorem d3_202 : decode prog_244_method_3_code 202 = .ok (.aload_n 0, 1) := by decide +kernel
theorem d3_203 : decode prog_244_method_3_code 203 = .ok (.iload_n 2, 1) := by decide +kernel
theorem d3_204 : decode prog_244_method_3_code 204 = .ok (.sipush 237, 3) := by decide +kernel
theorem d3_207 : decode prog_244_method_3_code 207 = .ok (.if_icmp .ne 9, 3) := by decide +kernel
theorem d3_210 : decode prog_244_method_3_code 210 = .ok (.sipush 159, 3) := by decide +kernel
theorem d3_213 : decode prog_244_method_3_code 213 = .ok (.goto 19, 3) := by decide +kernel
theorem d3_216 : decode prog_244_method_3_code 216 = .ok (.iload_n 2, 1) := by decide +kernel
theorem d3_217 : decode prog_244_method_3_code 217 = .ok (.sipush 244, 3) := by decide +kernel
theorem d3_220 : decode prog_244_method_3_code 220 = .ok (.if_icmp .ne 9, 3) := by decide +kernel
theorem d3_223 : decode prog_244_method_3_code 223 = .ok (.sipush 143, 3) := by decide +kernel
theorem d3_226 : decode prog_244_method_3_code 226 = .ok (.goto 6, 3) := by decide +kernel
theorem d3_229 : decode prog_244_method_3_code 229 = .ok (.sipush 191, 3) := by decide +kernel
theorem d3_232 : decode prog_244_method_3_code 232 = .ok (.putfield 16, 3) := by decide +kernel
theorem d3_235 : decode prog_244_method_3_code 235 = .ok (.iconst (-1), 1) := by decide +kernel
theorem d3_236 : decode prog_244_method_3_code 236 = .ok (.istore_n 3, 1) := by decide +kernel
theorem d3_237 : decode prog_244_method_3_code 237 = .ok (.goto 6, 3) := by decide +kernel
theorem d3_240 : decode prog_244_method_3_code 240 = .ok (.bipush (-2), 2) := by decide +kernel
theorem d3_242 : decode prog_244_method_3_code 242 = .ok (.istore_n 3, 1) := by decide +kernel
theorem d3_243 : decode prog_244_method_3_code 243 = .ok (.iload_n 3, 1) := by decide +kernel
theorem d3_244 : decode prog_244_method_3_code 244 = .ok (.ireturn, 1) := by decide +kernel
theorem d4_0 : decode method_4_code 0 = .ok (.aload_n 0, 1) := by decide +kernel
theorem d4_1 : decode method_4_code 1 = .ok (.invokevirtual 15, 3) := by decide +kernel
theorem d4_4 : decode method_4_code 4 = .ok (.ifCond .eq 20, 3) := by decide +kernel
theorem d4_7 : decode method_4_code 7 = .ok (.aload_n 0, 1) := by decide +kernel
theorem d4_8 : decode method_4_code 8 = .ok (.iload_n 1, 1) := by decide +kernel
theorem d4_9 : decode method_4_code 9 = .ok (.i2b, 1) := by decide +kernel
theorem d4_10 : decode method_4_code 10 = .ok (.invokevirtual 19, 3) := by decide +kernel
theorem d4_13 : decode method_4_code 13 = .ok (.iload_n 1, 1) := by decide +kernel
theorem d4_14 : decode method_4_code 14 = .ok (.invokestatic 23, 3) := by decide +kernel
theorem d4_17 : decode method_4_code 17 = .ok (.if_icmp .ne 7, 3) := by decide +kernel
theorem d4_20 : decode method_4_code 20 = .ok (.iconst 1, 1) := by decide +kernel
theorem d4_21 : decode method_4_code 21 = .ok (.goto 4, 3) := by decide +kernel
theorem d4_24 : decode method_4_code 24 = .ok (.iconst 0, 1) := by decide +kernel
theorem d4_25 : decode method_4_code 25 = .ok (.ireturn, 1) := by decide +kernel
theorem d5_0 : decode prog_244_method_2_code 0 = .ok (.aload_n 0, 1) := by decide +kernel
theorem d5_1 : decode prog_244_method_2_code 1 = .ok (.getfield 7, 3) := by decide +kernel
theorem d5_4 : decode prog_244_method_2_code 4 = .ok (.ifCond .ne 7, 3) := by decide +kernel
theorem d5_7 : decode prog_244_method_2_code 7 = .ok (.iconst 1, 1) := by decide +kernel
theorem d5_8 : decode prog_244_method_2_code 8 = .ok (.goto 4, 3) := by decide +kernel
theorem d5_11 : decode prog_244_method_2_code 11 = .ok (.iconst 0, 1) := by decide +kernel
theorem d5_12 : decode prog_244_method_2_code 12 = .ok (.ireturn, 1) := by decide +kernel
theorem d6_0 : decode method_3_code 0 = .ok (.iload_n 0, 1) := by decide +kernel
theorem d6_1 : decode method_3_code 1 = .ok (.sipush 128, 3) := by decide +kernel
theorem d6_4 : decode method_3_code 4 = .ok (.if_icmp .ge 5, 3) := by decide +kernel
theorem d6_7 : decode method_3_code 7 = .ok (.iload_n 0, 1) := by decide +kernel
theorem d6_8 : decode method_3_code 8 = .ok (.ireturn, 1) := by decide +kernel
theorem d6_9 : decode method_3_code 9 = .ok (.iload_n 0, 1) := by decide +kernel
theorem d6_10 : decode method_3_code 10 = .ok (.invokestatic 7, 3) := by decide +kernel
theorem d6_13 : decode method_3_code 13 = .ok (.ifCond .eq 7, 3) := by decide +kernel
theorem d6_16 : decode method_3_code 16 = .ok (.iconst (-1), 1) := by decide +kernel
theorem d6_17 : decode method_3_code 17 = .ok (.goto 5, 3) := by decide +kernel
theorem d6_20 : decode method_3_code 20 = .ok (.bipush (-2), 2) := by decide +kernel
theorem d6_22 : decode method_3_code 22 = .ok (.ireturn, 1) := by decide +kernel
theorem d7_0 : decode method_2_code 0 = .ok (.iload_n 0, 1) := by decide +kernel
theorem d7_1 : decode method_2_code 1 = .ok (.iconst 5, 1) := by decide +kernel
theorem d7_2 : decode method_2_code 2 = .ok (.ishr, 1) := by decide +kernel
theorem d7_3 : decode method_2_code 3 = .ok (.bipush 6, 2) := by decide +kernel
theorem d7_5 : decode method_2_code 5 = .ok (.if_icmp .ne 7, 3) := by decide +kernel
theorem d7_8 : decode method_2_code 8 = .ok (.iconst 1, 1) := by decide +kernel
theorem d7_9 : decode method_2_code 9 = .ok (.goto 4, 3) := by decide +kernel
theorem d7_12 : decode method_2_code 12 = .ok (.iconst 0, 1) := by decide +kernel
theorem d7_13 : decode method_2_code 13 = .ok (.istore_n 1, 1) := by decide +kernel
theorem d7_14 : decode method_2_code 14 = .ok (.iload_n 0, 1) := by decide +kernel
theorem d7_15 : decode method_2_code 15 = .ok (.iconst 4, 1) := by decide +kernel
theorem d7_16 : decode method_2_code 16 = .ok (.ishr, 1) := by decide +kernel
theorem d7_17 : decode method_2_code 17 = .ok (.bipush 14, 2) := by decide +kernel
theorem d7_19 : decode method_2_code 19 = .ok (.if_icmp .ne 7, 3) := by decide +kernel
theorem d7_22 : decode method_2_code 22 = .ok (.iconst 1, 1) := by decide +kernel
theorem d7_23 : decode method_2_code 23 = .ok (.goto 4, 3) := by decide +kernel
theorem d7_26 : decode method_2_code 26 = .ok (.iconst 0, 1) := by decide +kernel
theorem d7_27 : decode method_2_code 27 = .ok (.istore_n 2, 1) := by decide +kernel
theorem d7_28 : decode method_2_code 28 = .ok (.iload_n 0, 1) := by decide +kernel
theorem d7_29 : decode method_2_code 29 = .ok (.iconst 3, 1) := by decide +kernel
theorem d7_30 : decode method_2_code 30 = .ok (.ishr, 1) := by decide +kernel
theorem d7_31 : decode method_2_code 31 = .ok (.bipush 30, 2) := by decide +kernel
theorem d7_33 : decode method_2_code 33 = .ok (.if_icmp .ne 7, 3) := by decide +kernel
theorem d7_36 : decode method_2_code 36 = .ok (.iconst 1, 1) := by decide +kernel
theorem d7_37 : decode method_2_code 37 = .ok (.goto 4, 3) := by decide +kernel
theorem d7_40 : decode method_2_code 40 = .ok (.iconst 0, 1) := by decide +kernel
theorem d7_41 : decode method_2_code 41 = .ok (.istore_n 3, 1) := by decide +kernel
theorem d7_42 : decode method_2_code 42 = .ok (.iload_n 1, 1) := by decide +kernel
theorem d7_43 : decode method_2_code 43 = .ok (.ifCond .eq 11, 3) := by decide +kernel
theorem d7_46 : decode method_2_code 46 = .ok (.iload_n 0, 1) := by decide +kernel
theorem d7_47 : decode method_2_code 47 = .ok (.bipush 31, 2) := by decide +kernel
theorem d7_49 : decode method_2_code 49 = .ok (.iand, 1) := by decide +kernel
theorem d7_50 : decode method_2_code 50 = .ok (.iconst 2, 1) := by decide +kernel
theorem d7_51 : decode method_2_code 51 = .ok (.if_icmp .ge 19, 3) := by decide +kernel
theorem d7_54 : decode method_2_code 54 = .ok (.iload_n 2, 1) := by decide +kernel
theorem d7_55 : decode method_2_code 55 = .ok (.ifCond .ne 15, 3) := by decide +kernel
theorem d7_58 : decode method_2_code 58 = .ok (.iload_n 3, 1) := by decide +kernel
theorem d7_59 : decode method_2_code 59 = .ok (.ifCond .eq 15, 3) := by decide +kernel
theorem d7_62 : decode method_2_code 62 = .ok (.iload_n 0, 1) := by decide +kernel
theorem d7_63 : decode method_2_code 63 = .ok (.bipush 7, 2) := by decide +kernel
theorem d7_65 : decode method_2_code 65 = .ok (.iand, 1) := by decide +kernel
theorem d7_66 : decode method_2_code 66 = .ok (.iconst 4, 1) := by decide +kernel
theorem d7_67 : decode method_2_code 67 = .ok (.if_icmp .gt 7, 3) := by decide +kernel
theorem d7_70 : decode method_2_code 70 = .ok (.iconst 1, 1) := by decide +kernel
theorem d7_71 : decode method_2_code 71 = .ok (.goto 4, 3) := by decide +kernel
theorem d7_74 : decode method_2_code 74 = .ok (.iconst 0, 1) := by decide +kernel
theorem d7_75 : decode method_2_code 75 = .ok (.ireturn, 1) := by decide +kernel
theorem own_and63 (y : Int32) : (y.toInt64 &&& 63).toBitVec = BitVec.ofNat 64 (y.toBitVec.toNat % 64) := by
  apply BitVec.eq_of_getLsbD_eq
  intro i hi
  have h63 : (63 : Int64).toBitVec = BitVec.ofNat 64 (2 ^ 6 - 1) := by decide
  have hm : (y.toBitVec.toNat % 64) = y.toBitVec.toNat % 2 ^ 6 := rfl
  rw [Int64.toBitVec_and, Int32.toBitVec_toInt64, BitVec.getLsbD_and, BitVec.getLsbD_signExtend, h63, BitVec.getLsbD_ofNat, Nat.testBit_two_pow_sub_one, BitVec.getLsbD_ofNat, hm, Nat.testBit_mod_two_pow]
  by_cases h6 : i < 6
  · have h32 : i < 32 := by omega
    simp [hi, h6, h32, BitVec.getLsbD]
  · simp [h6]
theorem bv_lshl (x : Int64) (y : Int32) : (x <<< (y.toInt64 &&& 63)).toBitVec = x.toBitVec <<< (y.toBitVec.toNat % 64) := by
  show x.toBitVec <<< ((y.toInt64 &&& 63).toBitVec.smod 64) = _
  rw [BitVec.shiftLeft_eq', own_and63, smod64 _ (Nat.mod_lt _ (by decide))]
theorem bv_lshr (x : Int64) (y : Int32) : (x >>> (y.toInt64 &&& 63)).toBitVec = x.toBitVec.sshiftRight (y.toBitVec.toNat % 64) := by
  show x.toBitVec.sshiftRight' ((y.toInt64 &&& 63).toBitVec.smod 64) = _
  rw [BitVec.sshiftRight_eq', own_and63, smod64 _ (Nat.mod_lt _ (by decide))]
theorem bv_lushr (x : Int64) (y : Int32) : (XT.ushrL x y).toBitVec = x.toBitVec >>> (y.toBitVec.toNat % 64) := by
  show x.toBitVec >>> ((y.toInt64 &&& 63).toBitVec % 64) = _
  rw [BitVec.ushiftRight_eq', own_and63, BitVec.toNat_umod, BitVec.toNat_ofNat]
  congr 1
  show y.toBitVec.toNat % 64 % 2 ^ 64 % 64 = _
  omega
theorem bv_ishl (x y : Int32) : (x <<< (y &&& 31)).toBitVec = x.toBitVec <<< (y.toBitVec.toNat % 32) := by
  show x.toBitVec <<< ((y &&& 31).toBitVec.smod 32) = _
  rw [BitVec.shiftLeft_eq', sm32 y _ rfl]
theorem bv_ishr (x y : Int32) : (x >>> (y &&& 31)).toBitVec = x.toBitVec.sshiftRight (y.toBitVec.toNat % 32) := by
  show x.toBitVec.sshiftRight' ((y &&& 31).toBitVec.smod 32) = _
  rw [BitVec.sshiftRight_eq', sm32 y _ rfl]
theorem bv_iushr (x y : Int32) : (XT.ushr x y).toBitVec = x.toBitVec >>> (y.toBitVec.toNat % 32) := by
  show x.toBitVec >>> ((y &&& 31).toBitVec % 32) = _
  have h1 : (y &&& 31).toBitVec.toNat = y.toBitVec.toNat % 32 := by
    show (y.toBitVec &&& (31 : Int32).toBitVec).toNat = _
    rw [BitVec.toNat_and, show (31 : Int32).toBitVec.toNat = 2 ^ 5 - 1 from by decide, Nat.and_two_pow_sub_one_eq_mod]
  rw [BitVec.ushiftRight_eq', BitVec.toNat_umod, h1]
  congr 1
  show y.toBitVec.toNat % 32 % 32 = _
  omega
theorem u64 (x : Int64) : (x.toBitVec.toNat : Int) = x.toInt % 18446744073709551616 := by
  have h := x.toBitVec.isLt
  show _ = x.toBitVec.toInt % _
  rw [BitVec.toInt_eq_toNat_cond]; split <;> omega
theorem u32 (x : Int32) : (x.toBitVec.toNat : Int) = x.toInt % 4294967296 := by
  have h := x.toBitVec.isLt
  show _ = x.toBitVec.toInt % _
  rw [BitVec.toInt_eq_toNat_cond]; split <;> omega
theorem i64 (x : Int64) : x.toInt = if x.toBitVec.toNat < 9223372036854775808 then (x.toBitVec.toNat : Int) else (x.toBitVec.toNat : Int) - 18446744073709551616 := by
  have h := x.toBitVec.isLt
  show x.toBitVec.toInt = _
  rw [BitVec.toInt_eq_toNat_cond]; split <;> split <;> omega
/-- a logical shift by a known count, as a number -/
theorem n_lushr (x : Int64) (y : Int32) (k : Nat) (hk : y.toBitVec.toNat % 64 = k) : (XT.ushrL x y).toBitVec.toNat = x.toBitVec.toNat / 2 ^ k := by
  rw [bv_lushr, hk, BitVec.toNat_ushiftRight, Nat.shiftRight_eq_div_pow]
theorem n_iushr (x y : Int32) (k : Nat) (hk : y.toBitVec.toNat % 32 = k) : (XT.ushr x y).toBitVec.toNat = x.toBitVec.toNat / 2 ^ k := by
  rw [bv_iushr, hk, BitVec.toNat_ushiftRight, Nat.shiftRight_eq_div_pow]
theorem nn32 (y : Int32) (h : 0 ≤ y.toInt) : y.toBitVec.toNat = y.toInt.toNat := by
  have h1 := u32 y
  have := y.toInt_lt
  omega
theorem nn64 (y : Int64) (h : 0 ≤ y.toInt) : y.toBitVec.toNat = y.toInt.toNat := by
  have h1 := u64 y
  have := y.toInt_lt
  omega
theorem own_mask (y : Int32) (hy : 0 ≤ y.toInt ∧ y.toInt < 64) (K : Nat) (hK : K < 64) : (((1 : Int64) <<< (y.toInt64 &&& 63)) - 1).toBitVec.getLsbD K = decide (K < y.toInt.toNat) := by
  have hW : y.toBitVec.toNat % 64 = y.toInt.toNat := by rw [nn32 y hy.1]; omega
  rw [Int64.toBitVec_sub, bv_lshl, hW]
  have h2 : y.toInt.toNat < 64 := by omega
  generalize y.toInt.toNat = W at *
  have e : (1 : Int64).toBitVec <<< W - (1 : Int64).toBitVec = BitVec.ofNat 64 (2 ^ W - 1) := by
    apply BitVec.eq_of_toNat_eq
    have p1 : 2 ^ W < 2 ^ 64 := Nat.pow_lt_pow_right (by decide) h2
    have p2 : 0 < 2 ^ W := Nat.two_pow_pos W
    rw [BitVec.toNat_sub, BitVec.toNat_shiftLeft, Nat.shiftLeft_eq, BitVec.toNat_ofNat, show (1 : Int64).toBitVec.toNat = 1 from by decide, Nat.one_mul]
    generalize 2 ^ W = P at *
    omega
  rw [e, BitVec.getLsbD_ofNat, Nat.testBit_two_pow_sub_one]
  simp [hK]
theorem own_bit (x : Int64) (y : Int32) : (XT.ushrL x y &&& (1 : Int64)) = if x.toBitVec.getLsbD (y.toBitVec.toNat % 64) then 1 else 0 := by
  apply Int64.toBitVec_inj.mp
  apply BitVec.eq_of_getLsbD_eq
  intro i hi
  rw [Int64.toBitVec_and, bv_lushr, BitVec.getLsbD_and, BitVec.getLsbD_ushiftRight]
  generalize y.toBitVec.toNat % 64 = k
  have h1 : (1 : Int64).toBitVec.getLsbD i = decide (i = 0) := by
    show (1#64).getLsbD i = _
    rw [BitVec.getLsbD_one]; simp
  rw [h1]
  by_cases q : i = 0
  · subst q
    cases h : x.toBitVec.getLsbD k <;> simp [h]
  · cases h : x.toBitVec.getLsbD k
    · simp [q]
    · simp [q, h1]
set_option maxRecDepth 65536 in
set_option maxHeartbeats 40000000 in
theorem rm_init (l : Launch) (Z : State) (a0 : Array Value) (hw : ∀ d ∈ tables_1, d.before a0 Z = true) (o : Addr) (h0 : Heap) (n0 : Nat) (Z0 : n0 ≤ h0.size)  (E_o : Exa Z h0 o "com/example/gapwise/gapwise/Term$Utf8") (g_o : n0 ≤ o) (F_o_left : Fld Z h0 o "com/example/gapwise/gapwise/Term$Utf8" "left" "I" (.int (0 : Int32))) (F_o_low : Fld Z h0 o "com/example/gapwise/gapwise/Term$Utf8" "low" "I" (.int (0 : Int32))) (F_o_high : Fld Z h0 o "com/example/gapwise/gapwise/Term$Utf8" "high" "I" (.int (0 : Int32))) (F_o_codePoint : Fld Z h0 o "com/example/gapwise/gapwise/Term$Utf8" "codePoint" "I" (.int (0 : Int32)))  :
    Meets l (⟨"com/example/gapwise/gapwise/Term$Utf8", "<init>", "()V"⟩ : MethodName) prog_244_method_1_code 1 none ({ frames := 1, cells := 0, slots := 0, locals := 12 } : Room) Z #[(.ref o)] h0 n0 (fun v h => v = none ∧ Keep h0 h [o] ∧ Exa Z h o "com/example/gapwise/gapwise/Term$Utf8" ∧ Fld Z h o "com/example/gapwise/gapwise/Term$Utf8" "left" "I" (.int (0 : Int32)) ∧ Fld Z h o "com/example/gapwise/gapwise/Term$Utf8" "low" "I" (.int (0 : Int32)) ∧ Fld Z h o "com/example/gapwise/gapwise/Term$Utf8" "high" "I" (.int (0 : Int32)) ∧ Fld Z h o "com/example/gapwise/gapwise/Term$Utf8" "codePoint" "I" (.int (0 : Int32))) := by
  refine meets_of (plainFor_of_name pn0) (Ls := #[.val (.ref o)]) (fun m => by first | (simp [entryFrame, mkF, argsToLocals, Value.category]; done) | rfl) ?_
  intro p e s m below meth c K
  replace K : Kx Z "com/example/gapwise/gapwise/Term$Utf8" "<init>" prog_244_method_1_code 1 none p s m meth c := K
  obtain ⟨Q, hQ⟩ : ∃ Q : Option Value → Heap → Prop, Q = (fun v h => v = none ∧ Keep h0 h [o] ∧ Exa Z h o "com/example/gapwise/gapwise/Term$Utf8" ∧ Fld Z h o "com/example/gapwise/gapwise/Term$Utf8" "left" "I" (.int (0 : Int32)) ∧ Fld Z h o "com/example/gapwise/gapwise/Term$Utf8" "low" "I" (.int (0 : Int32)) ∧ Fld Z h o "com/example/gapwise/gapwise/Term$Utf8" "high" "I" (.int (0 : Int32)) ∧ Fld Z h o "com/example/gapwise/gapwise/Term$Utf8" "codePoint" "I" (.int (0 : Int32))) := ⟨_, rfl⟩
  rw [← hQ]
  have KC0 := Keep.refl h0 [o]
  refine g_aloadN K 0 d1_0 rfl rfl ?_
  refine g_initO K 1 d1_1 (tw hw 6 rfl) (tw hw 7 rfl) (tw hw 8 rfl) rfl (by decide) 0 (Nat.le_of_eq rfl) (by decide) ?_
  refine g_return K 4 d1_4 rfl (by decide) (by decide) ?_
  rw [hQ]
  exact ⟨rfl, KC0, E_o, F_o_left, F_o_low, F_o_high, F_o_codePoint⟩
def f_take (lf : Int32) (lw : Int32) (hg : Int32) (cp : Int32) (bt : Int32) : Int32 := if 0 < lf then (if (bt &&& (255 : Int32)) < lw then (-3 : Int32) else (if hg < (bt &&& (255 : Int32)) then (-3 : Int32) else (if (lf - (1 : Int32)) = 0 then ((cp <<< ((6 : Int32) &&& 31)) ||| ((bt &&& (255 : Int32)) &&& (63 : Int32))) else (-1 : Int32)))) else (if (bt &&& (255 : Int32)) < (128 : Int32) then (bt &&& (255 : Int32)) else (if (bt &&& (255 : Int32)) < (194 : Int32) then (-2 : Int32) else (if (244 : Int32) < (bt &&& (255 : Int32)) then (-2 : Int32) else (-1 : Int32))))
def f_take_left (lf : Int32) (lw : Int32) (hg : Int32) (cp : Int32) (bt : Int32) : Int32 := if 0 < lf then (if (bt &&& (255 : Int32)) < lw then (0 : Int32) else (if hg < (bt &&& (255 : Int32)) then (0 : Int32) else (lf - (1 : Int32)))) else (if (bt &&& (255 : Int32)) < (128 : Int32) then lf else (if (bt &&& (255 : Int32)) < (194 : Int32) then lf else (if (244 : Int32) < (bt &&& (255 : Int32)) then lf else (if (bt &&& (255 : Int32)) < (224 : Int32) then (1 : Int32) else (if (bt &&& (255 : Int32)) < (240 : Int32) then (2 : Int32) else (3 : Int32))))))
def f_take_low (lf : Int32) (lw : Int32) (hg : Int32) (cp : Int32) (bt : Int32) : Int32 := if 0 < lf then (if (bt &&& (255 : Int32)) < lw then lw else (if hg < (bt &&& (255 : Int32)) then lw else (128 : Int32))) else (if (bt &&& (255 : Int32)) < (128 : Int32) then lw else (if (bt &&& (255 : Int32)) < (194 : Int32) then lw else (if (244 : Int32) < (bt &&& (255 : Int32)) then lw else (if (bt &&& (255 : Int32)) = (224 : Int32) then (160 : Int32) else (if (bt &&& (255 : Int32)) = (240 : Int32) then (144 : Int32) else (128 : Int32))))))
def f_take_high (lf : Int32) (lw : Int32) (hg : Int32) (cp : Int32) (bt : Int32) : Int32 := if 0 < lf then (if (bt &&& (255 : Int32)) < lw then hg else (if hg < (bt &&& (255 : Int32)) then hg else (191 : Int32))) else (if (bt &&& (255 : Int32)) < (128 : Int32) then hg else (if (bt &&& (255 : Int32)) < (194 : Int32) then hg else (if (244 : Int32) < (bt &&& (255 : Int32)) then hg else (if (bt &&& (255 : Int32)) = (237 : Int32) then (159 : Int32) else (if (bt &&& (255 : Int32)) = (244 : Int32) then (143 : Int32) else (191 : Int32))))))
def f_take_codePoint (lf : Int32) (lw : Int32) (hg : Int32) (cp : Int32) (bt : Int32) : Int32 := if 0 < lf then (if (bt &&& (255 : Int32)) < lw then cp else (if hg < (bt &&& (255 : Int32)) then cp else ((cp <<< ((6 : Int32) &&& 31)) ||| ((bt &&& (255 : Int32)) &&& (63 : Int32))))) else (if (bt &&& (255 : Int32)) < (128 : Int32) then cp else (if (bt &&& (255 : Int32)) < (194 : Int32) then cp else (if (244 : Int32) < (bt &&& (255 : Int32)) then cp else ((bt &&& (255 : Int32)) &&& ((63 : Int32) >>> ((if (bt &&& (255 : Int32)) < (224 : Int32) then (1 : Int32) else (if (bt &&& (255 : Int32)) < (240 : Int32) then (2 : Int32) else (3 : Int32))) &&& 31))))))
set_option maxRecDepth 65536 in
set_option maxHeartbeats 40000000 in
theorem rm_take (l : Launch) (Z : State) (a0 : Array Value) (hw : ∀ d ∈ tables_1, d.before a0 Z = true) (o : Addr) (bt : Int32) (h0 : Heap) (n0 : Nat) (Z0 : n0 ≤ h0.size) (lf : Int32) (lw : Int32) (hg : Int32) (cp : Int32) (E_o : Exa Z h0 o "com/example/gapwise/gapwise/Term$Utf8") (g_o : n0 ≤ o) (F_o_left : Fld Z h0 o "com/example/gapwise/gapwise/Term$Utf8" "left" "I" (.int lf)) (F_o_low : Fld Z h0 o "com/example/gapwise/gapwise/Term$Utf8" "low" "I" (.int lw)) (F_o_high : Fld Z h0 o "com/example/gapwise/gapwise/Term$Utf8" "high" "I" (.int hg)) (F_o_codePoint : Fld Z h0 o "com/example/gapwise/gapwise/Term$Utf8" "codePoint" "I" (.int cp))  :
    Meets l (⟨"com/example/gapwise/gapwise/Term$Utf8", "take", "(B)I"⟩ : MethodName) prog_244_method_3_code 4 (some .int) ({ frames := 0, cells := 0, slots := 0, locals := 0 } : Room) Z #[(.ref o), (.int bt)] h0 n0 (fun v h => v = some (Value.int (f_take lf lw hg cp bt)) ∧ Keep h0 h [o] ∧ Exa Z h o "com/example/gapwise/gapwise/Term$Utf8" ∧ Fld Z h o "com/example/gapwise/gapwise/Term$Utf8" "left" "I" (Value.int (f_take_left lf lw hg cp bt)) ∧ Fld Z h o "com/example/gapwise/gapwise/Term$Utf8" "low" "I" (Value.int (f_take_low lf lw hg cp bt)) ∧ Fld Z h o "com/example/gapwise/gapwise/Term$Utf8" "high" "I" (Value.int (f_take_high lf lw hg cp bt)) ∧ Fld Z h o "com/example/gapwise/gapwise/Term$Utf8" "codePoint" "I" (Value.int (f_take_codePoint lf lw hg cp bt))) := by
  refine meets_of (plainFor_of_name pn0) (Ls := #[.val (.ref o), .val (.int bt), .unset, .unset]) (fun m => by first | (simp [entryFrame, mkF, argsToLocals, Value.category]; done) | rfl) ?_
  intro p e s m below meth c K
  replace K : Kx Z "com/example/gapwise/gapwise/Term$Utf8" "take" prog_244_method_3_code 4 (some .int) p s m meth c := K
  obtain ⟨Q, hQ⟩ : ∃ Q : Option Value → Heap → Prop, Q = (fun v h => v = some (Value.int (f_take lf lw hg cp bt)) ∧ Keep h0 h [o] ∧ Exa Z h o "com/example/gapwise/gapwise/Term$Utf8" ∧ Fld Z h o "com/example/gapwise/gapwise/Term$Utf8" "left" "I" (Value.int (f_take_left lf lw hg cp bt)) ∧ Fld Z h o "com/example/gapwise/gapwise/Term$Utf8" "low" "I" (Value.int (f_take_low lf lw hg cp bt)) ∧ Fld Z h o "com/example/gapwise/gapwise/Term$Utf8" "high" "I" (Value.int (f_take_high lf lw hg cp bt)) ∧ Fld Z h o "com/example/gapwise/gapwise/Term$Utf8" "codePoint" "I" (Value.int (f_take_codePoint lf lw hg cp bt))) := ⟨_, rfl⟩
  rw [← hQ]
  have KC0 := Keep.refl h0 [o]
  refine g_iloadN K 0 d3_0 rfl ?_
  refine g_sipush K 1 (255 : Int32) d3_1 (by decide) ?_
  refine g_iand K 4 d3_4 ?_
  refine g_istoreN K 5 #[.val (.ref o), .val (.int bt), .val (.int (bt &&& (255 : Int32))), .unset] d3_5 rfl ?_
  refine g_aloadN K 6 d3_6 rfl rfl ?_
  refine g_getfield K 7 d3_7 (tw hw 14 rfl) F_o_left ?_
  refine g_if_le K 10 37 d3_10 (by decide) (by decide) ?_ ?_
  · intro c1
    refine g_aloadN K 37 d3_37 rfl rfl ?_
    refine g_getfield K 38 d3_38 (tw hw 14 rfl) F_o_left ?_
    refine g_if_le K 41 103 d3_41 (by decide) (by decide) ?_ ?_
    · intro c2
      refine g_iloadN K 103 d3_103 rfl ?_
      refine g_sipush K 104 (128 : Int32) d3_104 (by decide) ?_
      refine g_ii_ge K 107 115 d3_107 (by decide) (by decide) ?_ ?_
      · intro c3
        refine g_iloadN K 115 d3_115 rfl ?_
        refine g_sipush K 116 (194 : Int32) d3_116 (by decide) ?_
        refine g_ii_lt K 119 240 d3_119 (by decide) (by decide) ?_ ?_
        · intro c4
          refine g_bipush K 240 (-2 : Int32) d3_240 (by decide) ?_
          refine g_istoreN K 242 #[.val (.ref o), .val (.int bt), .val (.int (bt &&& (255 : Int32))), .val (.int (-2 : Int32))] d3_242 rfl ?_
          refine g_iloadN K 243 d3_243 rfl ?_
          refine g_ireturn K 244 d3_244 rfl (by decide) (by decide) ?_
          rw [hQ]
          exact ⟨(show some (Value.int _) = some (Value.int (f_take lf lw hg cp bt)) from by unfold f_take; first | (rw [if_neg c1, if_neg c3, if_pos c4]; done) | (rw [if_neg c1, if_neg c3, if_pos c4]; rfl)), KC0, E_o, (show Fld Z h0 o "com/example/gapwise/gapwise/Term$Utf8" "left" "I" (Value.int (f_take_left lf lw hg cp bt)) from by unfold f_take_left; rw [if_neg c1, if_neg c3, if_pos c4]; exact F_o_left), (show Fld Z h0 o "com/example/gapwise/gapwise/Term$Utf8" "low" "I" (Value.int (f_take_low lf lw hg cp bt)) from by unfold f_take_low; rw [if_neg c1, if_neg c3, if_pos c4]; exact F_o_low), (show Fld Z h0 o "com/example/gapwise/gapwise/Term$Utf8" "high" "I" (Value.int (f_take_high lf lw hg cp bt)) from by unfold f_take_high; rw [if_neg c1, if_neg c3, if_pos c4]; exact F_o_high), (show Fld Z h0 o "com/example/gapwise/gapwise/Term$Utf8" "codePoint" "I" (Value.int (f_take_codePoint lf lw hg cp bt)) from by unfold f_take_codePoint; rw [if_neg c1, if_neg c3, if_pos c4]; exact F_o_codePoint)⟩
        · intro c4
          refine g_iloadN K 122 d3_122 rfl ?_
          refine g_sipush K 123 (244 : Int32) d3_123 (by decide) ?_
          refine g_ii_gt K 126 240 d3_126 (by decide) (by decide) ?_ ?_
          · intro c5
            refine g_bipush K 240 (-2 : Int32) d3_240 (by decide) ?_
            refine g_istoreN K 242 #[.val (.ref o), .val (.int bt), .val (.int (bt &&& (255 : Int32))), .val (.int (-2 : Int32))] d3_242 rfl ?_
            refine g_iloadN K 243 d3_243 rfl ?_
            refine g_ireturn K 244 d3_244 rfl (by decide) (by decide) ?_
            rw [hQ]
            exact ⟨(show some (Value.int _) = some (Value.int (f_take lf lw hg cp bt)) from by unfold f_take; first | (rw [if_neg c1, if_neg c3, if_neg c4, if_pos c5]; done) | (rw [if_neg c1, if_neg c3, if_neg c4, if_pos c5]; rfl)), KC0, E_o, (show Fld Z h0 o "com/example/gapwise/gapwise/Term$Utf8" "left" "I" (Value.int (f_take_left lf lw hg cp bt)) from by unfold f_take_left; rw [if_neg c1, if_neg c3, if_neg c4, if_pos c5]; exact F_o_left), (show Fld Z h0 o "com/example/gapwise/gapwise/Term$Utf8" "low" "I" (Value.int (f_take_low lf lw hg cp bt)) from by unfold f_take_low; rw [if_neg c1, if_neg c3, if_neg c4, if_pos c5]; exact F_o_low), (show Fld Z h0 o "com/example/gapwise/gapwise/Term$Utf8" "high" "I" (Value.int (f_take_high lf lw hg cp bt)) from by unfold f_take_high; rw [if_neg c1, if_neg c3, if_neg c4, if_pos c5]; exact F_o_high), (show Fld Z h0 o "com/example/gapwise/gapwise/Term$Utf8" "codePoint" "I" (Value.int (f_take_codePoint lf lw hg cp bt)) from by unfold f_take_codePoint; rw [if_neg c1, if_neg c3, if_neg c4, if_pos c5]; exact F_o_codePoint)⟩
          · intro c5
            refine g_aloadN K 129 d3_129 rfl rfl ?_
            refine g_iloadN K 130 d3_130 rfl ?_
            refine g_sipush K 131 (224 : Int32) d3_131 (by decide) ?_
            have J7 : ∀ (z6 : Int32), z6 = (if (bt &&& (255 : Int32)) < (224 : Int32) then (1 : Int32) else (if (bt &&& (255 : Int32)) < (240 : Int32) then (2 : Int32) else (3 : Int32))) → Go p l e ({ frames := 0, cells := 0, slots := 0, locals := 0 } : Room) s m #[(.ref o), (.int bt)] below meth c n0 Q h0 0 0 (mkF m 153 #[.val (.ref o), .val (.int bt), .val (.int (bt &&& (255 : Int32))), .unset] [(.int z6), (.ref o)]) := by
              intro z6 hz6
              subst hz6
              refine g_putfield K 153 .int d3_153 (tw hw 14 rfl) F_o_left E_o (Or.inl (tw hw 15 rfl)) (tw hw 1 rfl) (by decide) (rfl) (rfl) g_o ?_
              intro h8 W9 Kp10
              have F11 := F_o_left.same W9
              have F12 := F_o_low.other W9 (Or.inr (slot_ne (C := "com/example/gapwise/gapwise/Term$Utf8") (Or.inl (tw hw 34 rfl)) (Or.inl (tw hw 15 rfl)) (by decide) (t := .int) (t' := .int) (by decide) (by decide)))
              have F13 := F_o_high.other W9 (Or.inr (slot_ne (C := "com/example/gapwise/gapwise/Term$Utf8") (Or.inl (tw hw 36 rfl)) (Or.inl (tw hw 15 rfl)) (by decide) (t := .int) (t' := .int) (by decide) (by decide)))
              have F14 := F_o_codePoint.other W9 (Or.inr (slot_ne (C := "com/example/gapwise/gapwise/Term$Utf8") (Or.inl (tw hw 32 rfl)) (Or.inl (tw hw 15 rfl)) (by decide) (t := .int) (t' := .int) (by decide) (by decide)))
              have E15 := E_o.keep Kp10
              have KC16 := KC0.trans Kp10 (allS (Or.inl (by simp)) all0)
              have Z17 := Nat.le_trans Z0 Kp10.1
              refine g_aloadN K 156 d3_156 rfl rfl ?_
              refine g_iloadN K 157 d3_157 rfl ?_
              refine g_bipush K 158 (63 : Int32) d3_158 (by decide) ?_
              refine g_aloadN K 160 d3_160 rfl rfl ?_
              refine g_getfield K 161 d3_161 (tw hw 14 rfl) F11 ?_
              refine g_ishr K 164 d3_164 ?_
              refine g_iand K 165 d3_165 ?_
              refine g_putfield K 166 .int d3_166 (tw hw 31 rfl) F14 E15 (Or.inl (tw hw 32 rfl)) (tw hw 1 rfl) (by decide) (rfl) (rfl) g_o ?_
              intro h18 W19 Kp20
              have F21 := F14.same W19
              have F22 := F12.other W19 (Or.inr (slot_ne (C := "com/example/gapwise/gapwise/Term$Utf8") (Or.inl (tw hw 34 rfl)) (Or.inl (tw hw 32 rfl)) (by decide) (t := .int) (t' := .int) (by decide) (by decide)))
              have F23 := F13.other W19 (Or.inr (slot_ne (C := "com/example/gapwise/gapwise/Term$Utf8") (Or.inl (tw hw 36 rfl)) (Or.inl (tw hw 32 rfl)) (by decide) (t := .int) (t' := .int) (by decide) (by decide)))
              have F24 := F11.other W19 (Or.inr (slot_ne (C := "com/example/gapwise/gapwise/Term$Utf8") (Or.inl (tw hw 15 rfl)) (Or.inl (tw hw 32 rfl)) (by decide) (t := .int) (t' := .int) (by decide) (by decide)))
              have E25 := E15.keep Kp20
              have KC26 := KC16.trans Kp20 (allS (Or.inl (by simp)) all0)
              have Z27 := Nat.le_trans Z17 Kp20.1
              refine g_aloadN K 169 d3_169 rfl rfl ?_
              refine g_iloadN K 170 d3_170 rfl ?_
              refine g_sipush K 171 (224 : Int32) d3_171 (by decide) ?_
              have J29 : ∀ (z28 : Int32), z28 = (if (bt &&& (255 : Int32)) = (224 : Int32) then (160 : Int32) else (if (bt &&& (255 : Int32)) = (240 : Int32) then (144 : Int32) else (128 : Int32))) → Go p l e ({ frames := 0, cells := 0, slots := 0, locals := 0 } : Room) s m #[(.ref o), (.int bt)] below meth c n0 Q h18 0 0 (mkF m 199 #[.val (.ref o), .val (.int bt), .val (.int (bt &&& (255 : Int32))), .unset] [(.int z28), (.ref o)]) := by
                intro z28 hz28
                subst hz28
                refine g_putfield K 199 .int d3_199 (tw hw 33 rfl) F22 E25 (Or.inl (tw hw 34 rfl)) (tw hw 1 rfl) (by decide) (rfl) (rfl) g_o ?_
                intro h30 W31 Kp32
                have F33 := F22.same W31
                have F34 := F23.other W31 (Or.inr (slot_ne (C := "com/example/gapwise/gapwise/Term$Utf8") (Or.inl (tw hw 36 rfl)) (Or.inl (tw hw 34 rfl)) (by decide) (t := .int) (t' := .int) (by decide) (by decide)))
                have F35 := F24.other W31 (Or.inr (slot_ne (C := "com/example/gapwise/gapwise/Term$Utf8") (Or.inl (tw hw 15 rfl)) (Or.inl (tw hw 34 rfl)) (by decide) (t := .int) (t' := .int) (by decide) (by decide)))
                have F36 := F21.other W31 (Or.inr (slot_ne (C := "com/example/gapwise/gapwise/Term$Utf8") (Or.inl (tw hw 32 rfl)) (Or.inl (tw hw 34 rfl)) (by decide) (t := .int) (t' := .int) (by decide) (by decide)))
                have E37 := E25.keep Kp32
                have KC38 := KC26.trans Kp32 (allS (Or.inl (by simp)) all0)
                have Z39 := Nat.le_trans Z27 Kp32.1
                refine g_aloadN K 202 d3_202 rfl rfl ?_
                refine g_iloadN K 203 d3_203 rfl ?_
                refine g_sipush K 204 (237 : Int32) d3_204 (by decide) ?_
                have J41 : ∀ (z40 : Int32), z40 = (if (bt &&& (255 : Int32)) = (237 : Int32) then (159 : Int32) else (if (bt &&& (255 : Int32)) = (244 : Int32) then (143 : Int32) else (191 : Int32))) → Go p l e ({ frames := 0, cells := 0, slots := 0, locals := 0 } : Room) s m #[(.ref o), (.int bt)] below meth c n0 Q h30 0 0 (mkF m 232 #[.val (.ref o), .val (.int bt), .val (.int (bt &&& (255 : Int32))), .unset] [(.int z40), (.ref o)]) := by
                  intro z40 hz40
                  subst hz40
                  refine g_putfield K 232 .int d3_232 (tw hw 35 rfl) F34 E37 (Or.inl (tw hw 36 rfl)) (tw hw 1 rfl) (by decide) (rfl) (rfl) g_o ?_
                  intro h42 W43 Kp44
                  have F45 := F34.same W43
                  have F46 := F35.other W43 (Or.inr (slot_ne (C := "com/example/gapwise/gapwise/Term$Utf8") (Or.inl (tw hw 15 rfl)) (Or.inl (tw hw 36 rfl)) (by decide) (t := .int) (t' := .int) (by decide) (by decide)))
                  have F47 := F36.other W43 (Or.inr (slot_ne (C := "com/example/gapwise/gapwise/Term$Utf8") (Or.inl (tw hw 32 rfl)) (Or.inl (tw hw 36 rfl)) (by decide) (t := .int) (t' := .int) (by decide) (by decide)))
                  have F48 := F33.other W43 (Or.inr (slot_ne (C := "com/example/gapwise/gapwise/Term$Utf8") (Or.inl (tw hw 34 rfl)) (Or.inl (tw hw 36 rfl)) (by decide) (t := .int) (t' := .int) (by decide) (by decide)))
                  have E49 := E37.keep Kp44
                  have KC50 := KC38.trans Kp44 (allS (Or.inl (by simp)) all0)
                  have Z51 := Nat.le_trans Z39 Kp44.1
                  refine g_iconst K 235 (-1 : Int32) d3_235 (by decide) ?_
                  refine g_istoreN K 236 #[.val (.ref o), .val (.int bt), .val (.int (bt &&& (255 : Int32))), .val (.int (-1 : Int32))] d3_236 rfl ?_
                  refine g_goto K 237 243 d3_237 (by decide) (by decide) ?_
                  refine g_iloadN K 243 d3_243 rfl ?_
                  refine g_ireturn K 244 d3_244 rfl (by decide) (by decide) ?_
                  rw [hQ]
                  exact ⟨(show some (Value.int _) = some (Value.int (f_take lf lw hg cp bt)) from by unfold f_take; first | (rw [if_neg c1, if_neg c3, if_neg c4, if_neg c5]; done) | (rw [if_neg c1, if_neg c3, if_neg c4, if_neg c5]; rfl)), KC50, E49, (show Fld Z h42 o "com/example/gapwise/gapwise/Term$Utf8" "left" "I" (Value.int (f_take_left lf lw hg cp bt)) from by unfold f_take_left; rw [if_neg c1, if_neg c3, if_neg c4, if_neg c5]; exact F46), (show Fld Z h42 o "com/example/gapwise/gapwise/Term$Utf8" "low" "I" (Value.int (f_take_low lf lw hg cp bt)) from by unfold f_take_low; rw [if_neg c1, if_neg c3, if_neg c4, if_neg c5]; exact F48), (show Fld Z h42 o "com/example/gapwise/gapwise/Term$Utf8" "high" "I" (Value.int (f_take_high lf lw hg cp bt)) from by unfold f_take_high; rw [if_neg c1, if_neg c3, if_neg c4, if_neg c5]; exact F45), (show Fld Z h42 o "com/example/gapwise/gapwise/Term$Utf8" "codePoint" "I" (Value.int (f_take_codePoint lf lw hg cp bt)) from by unfold f_take_codePoint; rw [if_neg c1, if_neg c3, if_neg c4, if_neg c5]; exact F47)⟩
                refine g_ii_ne K 207 216 d3_207 (by decide) (by decide) ?_ ?_
                · intro c52
                  refine g_iloadN K 216 d3_216 rfl ?_
                  refine g_sipush K 217 (244 : Int32) d3_217 (by decide) ?_
                  refine g_ii_ne K 220 229 d3_220 (by decide) (by decide) ?_ ?_
                  · intro c53
                    refine g_sipush K 229 (191 : Int32) d3_229 (by decide) ?_
                    exact J41 _ (by rw [if_neg c52, if_neg c53])
                  · intro c53
                    refine g_sipush K 223 (143 : Int32) d3_223 (by decide) ?_
                    refine g_goto K 226 232 d3_226 (by decide) (by decide) ?_
                    exact J41 _ (by rw [if_neg c52, if_pos c53])
                · intro c52
                  refine g_sipush K 210 (159 : Int32) d3_210 (by decide) ?_
                  refine g_goto K 213 232 d3_213 (by decide) (by decide) ?_
                  exact J41 _ (by rw [if_pos c52])
              refine g_ii_ne K 174 183 d3_174 (by decide) (by decide) ?_ ?_
              · intro c54
                refine g_iloadN K 183 d3_183 rfl ?_
                refine g_sipush K 184 (240 : Int32) d3_184 (by decide) ?_
                refine g_ii_ne K 187 196 d3_187 (by decide) (by decide) ?_ ?_
                · intro c55
                  refine g_sipush K 196 (128 : Int32) d3_196 (by decide) ?_
                  exact J29 _ (by rw [if_neg c54, if_neg c55])
                · intro c55
                  refine g_sipush K 190 (144 : Int32) d3_190 (by decide) ?_
                  refine g_goto K 193 199 d3_193 (by decide) (by decide) ?_
                  exact J29 _ (by rw [if_neg c54, if_pos c55])
              · intro c54
                refine g_sipush K 177 (160 : Int32) d3_177 (by decide) ?_
                refine g_goto K 180 199 d3_180 (by decide) (by decide) ?_
                exact J29 _ (by rw [if_pos c54])
            refine g_ii_ge K 134 141 d3_134 (by decide) (by decide) ?_ ?_
            · intro c56
              refine g_iloadN K 141 d3_141 rfl ?_
              refine g_sipush K 142 (240 : Int32) d3_142 (by decide) ?_
              refine g_ii_ge K 145 152 d3_145 (by decide) (by decide) ?_ ?_
              · intro c57
                refine g_iconst K 152 (3 : Int32) d3_152 (by decide) ?_
                exact J7 _ (by rw [if_neg c56, if_neg c57])
              · intro c57
                refine g_iconst K 148 (2 : Int32) d3_148 (by decide) ?_
                refine g_goto K 149 153 d3_149 (by decide) (by decide) ?_
                exact J7 _ (by rw [if_neg c56, if_pos c57])
            · intro c56
              refine g_iconst K 137 (1 : Int32) d3_137 (by decide) ?_
              refine g_goto K 138 153 d3_138 (by decide) (by decide) ?_
              exact J7 _ (by rw [if_pos c56])
      · intro c3
        refine g_iloadN K 110 d3_110 rfl ?_
        refine g_istoreN K 111 #[.val (.ref o), .val (.int bt), .val (.int (bt &&& (255 : Int32))), .val (.int (bt &&& (255 : Int32)))] d3_111 rfl ?_
        refine g_goto K 112 243 d3_112 (by decide) (by decide) ?_
        refine g_iloadN K 243 d3_243 rfl ?_
        refine g_ireturn K 244 d3_244 rfl (by decide) (by decide) ?_
        rw [hQ]
        exact ⟨(show some (Value.int _) = some (Value.int (f_take lf lw hg cp bt)) from by unfold f_take; first | (rw [if_neg c1, if_pos c3]; done) | (rw [if_neg c1, if_pos c3]; rfl)), KC0, E_o, (show Fld Z h0 o "com/example/gapwise/gapwise/Term$Utf8" "left" "I" (Value.int (f_take_left lf lw hg cp bt)) from by unfold f_take_left; rw [if_neg c1, if_pos c3]; exact F_o_left), (show Fld Z h0 o "com/example/gapwise/gapwise/Term$Utf8" "low" "I" (Value.int (f_take_low lf lw hg cp bt)) from by unfold f_take_low; rw [if_neg c1, if_pos c3]; exact F_o_low), (show Fld Z h0 o "com/example/gapwise/gapwise/Term$Utf8" "high" "I" (Value.int (f_take_high lf lw hg cp bt)) from by unfold f_take_high; rw [if_neg c1, if_pos c3]; exact F_o_high), (show Fld Z h0 o "com/example/gapwise/gapwise/Term$Utf8" "codePoint" "I" (Value.int (f_take_codePoint lf lw hg cp bt)) from by unfold f_take_codePoint; rw [if_neg c1, if_pos c3]; exact F_o_codePoint)⟩
    · intro c2
      exact absurd c2 c1
  · intro c1
    refine g_iloadN K 13 d3_13 rfl ?_
    refine g_aloadN K 14 d3_14 rfl rfl ?_
    refine g_getfield K 15 d3_15 (tw hw 33 rfl) F_o_low ?_
    refine g_ii_lt K 18 29 d3_18 (by decide) (by decide) ?_ ?_
    · intro c58
      refine g_aloadN K 29 d3_29 rfl rfl ?_
      refine g_iconst K 30 (0 : Int32) d3_30 (by decide) ?_
      refine g_putfield K 31 .int d3_31 (tw hw 14 rfl) F_o_left E_o (Or.inl (tw hw 15 rfl)) (tw hw 1 rfl) (by decide) (rfl) (rfl) g_o ?_
      intro h59 W60 Kp61
      have F62 := F_o_left.same W60
      have F63 := F_o_low.other W60 (Or.inr (slot_ne (C := "com/example/gapwise/gapwise/Term$Utf8") (Or.inl (tw hw 34 rfl)) (Or.inl (tw hw 15 rfl)) (by decide) (t := .int) (t' := .int) (by decide) (by decide)))
      have F64 := F_o_high.other W60 (Or.inr (slot_ne (C := "com/example/gapwise/gapwise/Term$Utf8") (Or.inl (tw hw 36 rfl)) (Or.inl (tw hw 15 rfl)) (by decide) (t := .int) (t' := .int) (by decide) (by decide)))
      have F65 := F_o_codePoint.other W60 (Or.inr (slot_ne (C := "com/example/gapwise/gapwise/Term$Utf8") (Or.inl (tw hw 32 rfl)) (Or.inl (tw hw 15 rfl)) (by decide) (t := .int) (t' := .int) (by decide) (by decide)))
      have E66 := E_o.keep Kp61
      have KC67 := KC0.trans Kp61 (allS (Or.inl (by simp)) all0)
      have Z68 := Nat.le_trans Z0 Kp61.1
      refine g_bipush K 34 (-3 : Int32) d3_34 (by decide) ?_
      refine g_ireturn K 36 d3_36 rfl (by decide) (by decide) ?_
      rw [hQ]
      exact ⟨(show some (Value.int _) = some (Value.int (f_take lf lw hg cp bt)) from by unfold f_take; first | (rw [if_pos c1, if_pos c58]; done) | (rw [if_pos c1, if_pos c58]; rfl)), KC67, E66, (show Fld Z h59 o "com/example/gapwise/gapwise/Term$Utf8" "left" "I" (Value.int (f_take_left lf lw hg cp bt)) from by unfold f_take_left; rw [if_pos c1, if_pos c58]; exact F62), (show Fld Z h59 o "com/example/gapwise/gapwise/Term$Utf8" "low" "I" (Value.int (f_take_low lf lw hg cp bt)) from by unfold f_take_low; rw [if_pos c1, if_pos c58]; exact F63), (show Fld Z h59 o "com/example/gapwise/gapwise/Term$Utf8" "high" "I" (Value.int (f_take_high lf lw hg cp bt)) from by unfold f_take_high; rw [if_pos c1, if_pos c58]; exact F64), (show Fld Z h59 o "com/example/gapwise/gapwise/Term$Utf8" "codePoint" "I" (Value.int (f_take_codePoint lf lw hg cp bt)) from by unfold f_take_codePoint; rw [if_pos c1, if_pos c58]; exact F65)⟩
    · intro c58
      refine g_iloadN K 21 d3_21 rfl ?_
      refine g_aloadN K 22 d3_22 rfl rfl ?_
      refine g_getfield K 23 d3_23 (tw hw 35 rfl) F_o_high ?_
      refine g_ii_le K 26 37 d3_26 (by decide) (by decide) ?_ ?_
      · intro c69
        refine g_aloadN K 37 d3_37 rfl rfl ?_
        refine g_getfield K 38 d3_38 (tw hw 14 rfl) F_o_left ?_
        refine g_if_le K 41 103 d3_41 (by decide) (by decide) ?_ ?_
        · intro c70
          exact absurd c1 c70
        · intro c70
          refine g_aloadN K 44 d3_44 rfl rfl ?_
          refine g_aloadN K 45 d3_45 rfl rfl ?_
          refine g_getfield K 46 d3_46 (tw hw 31 rfl) F_o_codePoint ?_
          refine g_bipush K 49 (6 : Int32) d3_49 (by decide) ?_
          refine g_ishl K 51 d3_51 ?_
          refine g_iloadN K 52 d3_52 rfl ?_
          refine g_bipush K 53 (63 : Int32) d3_53 (by decide) ?_
          refine g_iand K 55 d3_55 ?_
          refine g_ior K 56 d3_56 ?_
          refine g_putfield K 57 .int d3_57 (tw hw 31 rfl) F_o_codePoint E_o (Or.inl (tw hw 32 rfl)) (tw hw 1 rfl) (by decide) (rfl) (rfl) g_o ?_
          intro h71 W72 Kp73
          have F74 := F_o_codePoint.same W72
          have F75 := F_o_left.other W72 (Or.inr (slot_ne (C := "com/example/gapwise/gapwise/Term$Utf8") (Or.inl (tw hw 15 rfl)) (Or.inl (tw hw 32 rfl)) (by decide) (t := .int) (t' := .int) (by decide) (by decide)))
          have F76 := F_o_low.other W72 (Or.inr (slot_ne (C := "com/example/gapwise/gapwise/Term$Utf8") (Or.inl (tw hw 34 rfl)) (Or.inl (tw hw 32 rfl)) (by decide) (t := .int) (t' := .int) (by decide) (by decide)))
          have F77 := F_o_high.other W72 (Or.inr (slot_ne (C := "com/example/gapwise/gapwise/Term$Utf8") (Or.inl (tw hw 36 rfl)) (Or.inl (tw hw 32 rfl)) (by decide) (t := .int) (t' := .int) (by decide) (by decide)))
          have E78 := E_o.keep Kp73
          have KC79 := KC0.trans Kp73 (allS (Or.inl (by simp)) all0)
          have Z80 := Nat.le_trans Z0 Kp73.1
          refine g_aloadN K 60 d3_60 rfl rfl ?_
          refine g_sipush K 61 (128 : Int32) d3_61 (by decide) ?_
          refine g_putfield K 64 .int d3_64 (tw hw 33 rfl) F76 E78 (Or.inl (tw hw 34 rfl)) (tw hw 1 rfl) (by decide) (rfl) (rfl) g_o ?_
          intro h81 W82 Kp83
          have F84 := F76.same W82
          have F85 := F75.other W82 (Or.inr (slot_ne (C := "com/example/gapwise/gapwise/Term$Utf8") (Or.inl (tw hw 15 rfl)) (Or.inl (tw hw 34 rfl)) (by decide) (t := .int) (t' := .int) (by decide) (by decide)))
          have F86 := F77.other W82 (Or.inr (slot_ne (C := "com/example/gapwise/gapwise/Term$Utf8") (Or.inl (tw hw 36 rfl)) (Or.inl (tw hw 34 rfl)) (by decide) (t := .int) (t' := .int) (by decide) (by decide)))
          have F87 := F74.other W82 (Or.inr (slot_ne (C := "com/example/gapwise/gapwise/Term$Utf8") (Or.inl (tw hw 32 rfl)) (Or.inl (tw hw 34 rfl)) (by decide) (t := .int) (t' := .int) (by decide) (by decide)))
          have E88 := E78.keep Kp83
          have KC89 := KC79.trans Kp83 (allS (Or.inl (by simp)) all0)
          have Z90 := Nat.le_trans Z80 Kp83.1
          refine g_aloadN K 67 d3_67 rfl rfl ?_
          refine g_sipush K 68 (191 : Int32) d3_68 (by decide) ?_
          refine g_putfield K 71 .int d3_71 (tw hw 35 rfl) F86 E88 (Or.inl (tw hw 36 rfl)) (tw hw 1 rfl) (by decide) (rfl) (rfl) g_o ?_
          intro h91 W92 Kp93
          have F94 := F86.same W92
          have F95 := F85.other W92 (Or.inr (slot_ne (C := "com/example/gapwise/gapwise/Term$Utf8") (Or.inl (tw hw 15 rfl)) (Or.inl (tw hw 36 rfl)) (by decide) (t := .int) (t' := .int) (by decide) (by decide)))
          have F96 := F87.other W92 (Or.inr (slot_ne (C := "com/example/gapwise/gapwise/Term$Utf8") (Or.inl (tw hw 32 rfl)) (Or.inl (tw hw 36 rfl)) (by decide) (t := .int) (t' := .int) (by decide) (by decide)))
          have F97 := F84.other W92 (Or.inr (slot_ne (C := "com/example/gapwise/gapwise/Term$Utf8") (Or.inl (tw hw 34 rfl)) (Or.inl (tw hw 36 rfl)) (by decide) (t := .int) (t' := .int) (by decide) (by decide)))
          have E98 := E88.keep Kp93
          have KC99 := KC89.trans Kp93 (allS (Or.inl (by simp)) all0)
          have Z100 := Nat.le_trans Z90 Kp93.1
          refine g_aloadN K 74 d3_74 rfl rfl ?_
          refine g_dup K 75 d3_75 rfl ?_
          refine g_getfield K 76 d3_76 (tw hw 14 rfl) F95 ?_
          refine g_iconst K 79 (1 : Int32) d3_79 (by decide) ?_
          refine g_isub K 80 d3_80 ?_
          refine g_putfield K 81 .int d3_81 (tw hw 14 rfl) F95 E98 (Or.inl (tw hw 15 rfl)) (tw hw 1 rfl) (by decide) (rfl) (rfl) g_o ?_
          intro h101 W102 Kp103
          have F104 := F95.same W102
          have F105 := F96.other W102 (Or.inr (slot_ne (C := "com/example/gapwise/gapwise/Term$Utf8") (Or.inl (tw hw 32 rfl)) (Or.inl (tw hw 15 rfl)) (by decide) (t := .int) (t' := .int) (by decide) (by decide)))
          have F106 := F97.other W102 (Or.inr (slot_ne (C := "com/example/gapwise/gapwise/Term$Utf8") (Or.inl (tw hw 34 rfl)) (Or.inl (tw hw 15 rfl)) (by decide) (t := .int) (t' := .int) (by decide) (by decide)))
          have F107 := F94.other W102 (Or.inr (slot_ne (C := "com/example/gapwise/gapwise/Term$Utf8") (Or.inl (tw hw 36 rfl)) (Or.inl (tw hw 15 rfl)) (by decide) (t := .int) (t' := .int) (by decide) (by decide)))
          have E108 := E98.keep Kp103
          have KC109 := KC99.trans Kp103 (allS (Or.inl (by simp)) all0)
          have Z110 := Nat.le_trans Z100 Kp103.1
          refine g_aloadN K 84 d3_84 rfl rfl ?_
          refine g_getfield K 85 d3_85 (tw hw 14 rfl) F104 ?_
          have J112 : ∀ (z111 : Int32), z111 = (if (lf - (1 : Int32)) = 0 then ((cp <<< ((6 : Int32) &&& 31)) ||| ((bt &&& (255 : Int32)) &&& (63 : Int32))) else (-1 : Int32)) → Go p l e ({ frames := 0, cells := 0, slots := 0, locals := 0 } : Room) s m #[(.ref o), (.int bt)] below meth c n0 Q h101 0 0 (mkF m 99 #[.val (.ref o), .val (.int bt), .val (.int (bt &&& (255 : Int32))), .unset] [(.int z111)]) := by
            intro z111 hz111
            subst hz111
            refine g_istoreN K 99 #[.val (.ref o), .val (.int bt), .val (.int (bt &&& (255 : Int32))), .val (.int (if (lf - (1 : Int32)) = 0 then ((cp <<< ((6 : Int32) &&& 31)) ||| ((bt &&& (255 : Int32)) &&& (63 : Int32))) else (-1 : Int32)))] d3_99 rfl ?_
            refine g_goto K 100 243 d3_100 (by decide) (by decide) ?_
            refine g_iloadN K 243 d3_243 rfl ?_
            refine g_ireturn K 244 d3_244 rfl (by decide) (by decide) ?_
            rw [hQ]
            exact ⟨(show some (Value.int _) = some (Value.int (f_take lf lw hg cp bt)) from by unfold f_take; first | (rw [if_pos c1, if_neg c58, if_neg c69]; done) | (rw [if_pos c1, if_neg c58, if_neg c69]; rfl)), KC109, E108, (show Fld Z h101 o "com/example/gapwise/gapwise/Term$Utf8" "left" "I" (Value.int (f_take_left lf lw hg cp bt)) from by unfold f_take_left; rw [if_pos c1, if_neg c58, if_neg c69]; exact F104), (show Fld Z h101 o "com/example/gapwise/gapwise/Term$Utf8" "low" "I" (Value.int (f_take_low lf lw hg cp bt)) from by unfold f_take_low; rw [if_pos c1, if_neg c58, if_neg c69]; exact F106), (show Fld Z h101 o "com/example/gapwise/gapwise/Term$Utf8" "high" "I" (Value.int (f_take_high lf lw hg cp bt)) from by unfold f_take_high; rw [if_pos c1, if_neg c58, if_neg c69]; exact F107), (show Fld Z h101 o "com/example/gapwise/gapwise/Term$Utf8" "codePoint" "I" (Value.int (f_take_codePoint lf lw hg cp bt)) from by unfold f_take_codePoint; rw [if_pos c1, if_neg c58, if_neg c69]; exact F105)⟩
          refine g_if_ne K 88 98 d3_88 (by decide) (by decide) ?_ ?_
          · intro c113
            refine g_iconst K 98 (-1 : Int32) d3_98 (by decide) ?_
            exact J112 _ (by rw [if_neg c113])
          · intro c113
            refine g_aloadN K 91 d3_91 rfl rfl ?_
            refine g_getfield K 92 d3_92 (tw hw 31 rfl) F105 ?_
            refine g_goto K 95 99 d3_95 (by decide) (by decide) ?_
            exact J112 _ (by rw [if_pos c113])
      · intro c69
        refine g_aloadN K 29 d3_29 rfl rfl ?_
        refine g_iconst K 30 (0 : Int32) d3_30 (by decide) ?_
        refine g_putfield K 31 .int d3_31 (tw hw 14 rfl) F_o_left E_o (Or.inl (tw hw 15 rfl)) (tw hw 1 rfl) (by decide) (rfl) (rfl) g_o ?_
        intro h114 W115 Kp116
        have F117 := F_o_left.same W115
        have F118 := F_o_low.other W115 (Or.inr (slot_ne (C := "com/example/gapwise/gapwise/Term$Utf8") (Or.inl (tw hw 34 rfl)) (Or.inl (tw hw 15 rfl)) (by decide) (t := .int) (t' := .int) (by decide) (by decide)))
        have F119 := F_o_high.other W115 (Or.inr (slot_ne (C := "com/example/gapwise/gapwise/Term$Utf8") (Or.inl (tw hw 36 rfl)) (Or.inl (tw hw 15 rfl)) (by decide) (t := .int) (t' := .int) (by decide) (by decide)))
        have F120 := F_o_codePoint.other W115 (Or.inr (slot_ne (C := "com/example/gapwise/gapwise/Term$Utf8") (Or.inl (tw hw 32 rfl)) (Or.inl (tw hw 15 rfl)) (by decide) (t := .int) (t' := .int) (by decide) (by decide)))
        have E121 := E_o.keep Kp116
        have KC122 := KC0.trans Kp116 (allS (Or.inl (by simp)) all0)
        have Z123 := Nat.le_trans Z0 Kp116.1
        refine g_bipush K 34 (-3 : Int32) d3_34 (by decide) ?_
        refine g_ireturn K 36 d3_36 rfl (by decide) (by decide) ?_
        rw [hQ]
        exact ⟨(show some (Value.int _) = some (Value.int (f_take lf lw hg cp bt)) from by unfold f_take; first | (rw [if_pos c1, if_neg c58, if_pos c69]; done) | (rw [if_pos c1, if_neg c58, if_pos c69]; rfl)), KC122, E121, (show Fld Z h114 o "com/example/gapwise/gapwise/Term$Utf8" "left" "I" (Value.int (f_take_left lf lw hg cp bt)) from by unfold f_take_left; rw [if_pos c1, if_neg c58, if_pos c69]; exact F117), (show Fld Z h114 o "com/example/gapwise/gapwise/Term$Utf8" "low" "I" (Value.int (f_take_low lf lw hg cp bt)) from by unfold f_take_low; rw [if_pos c1, if_neg c58, if_pos c69]; exact F118), (show Fld Z h114 o "com/example/gapwise/gapwise/Term$Utf8" "high" "I" (Value.int (f_take_high lf lw hg cp bt)) from by unfold f_take_high; rw [if_pos c1, if_neg c58, if_pos c69]; exact F119), (show Fld Z h114 o "com/example/gapwise/gapwise/Term$Utf8" "codePoint" "I" (Value.int (f_take_codePoint lf lw hg cp bt)) from by unfold f_take_codePoint; rw [if_pos c1, if_neg c58, if_pos c69]; exact F120)⟩
def f_idle (lf : Int32) : Int32 := nar .boolean (if lf = 0 then (1 : Int32) else (0 : Int32))
set_option maxRecDepth 65536 in
set_option maxHeartbeats 40000000 in
theorem rm_idle (l : Launch) (Z : State) (a0 : Array Value) (hw : ∀ d ∈ tables_1, d.before a0 Z = true) (o : Addr) (h0 : Heap) (n0 : Nat) (Z0 : n0 ≤ h0.size) (lf : Int32) (F0 : Fld Z h0 o "com/example/gapwise/gapwise/Term$Utf8" "left" "I" (.int lf)) :
    Meets l (⟨"com/example/gapwise/gapwise/Term$Utf8", "idle", "()Z"⟩ : MethodName) prog_244_method_2_code 1 (some .boolean) ({ frames := 0, cells := 0, slots := 0, locals := 0 } : Room) Z #[(.ref o)] h0 n0 (fun v h => v = some (Value.int (f_idle lf)) ∧ h = h0) := by
  refine meets_of (plainFor_of_name pn0) (Ls := #[.val (.ref o)]) (fun m => by first | (simp [entryFrame, mkF, argsToLocals, Value.category]; done) | rfl) ?_
  intro p e s m below meth c K
  replace K : Kx Z "com/example/gapwise/gapwise/Term$Utf8" "idle" prog_244_method_2_code 1 (some .boolean) p s m meth c := K
  obtain ⟨Q, hQ⟩ : ∃ Q : Option Value → Heap → Prop, Q = (fun v h => v = some (Value.int (f_idle lf)) ∧ h = h0) := ⟨_, rfl⟩
  rw [← hQ]
  refine g_aloadN K 0 d5_0 rfl rfl ?_
  refine g_getfield K 1 d5_1 (tw hw 14 rfl) F0 ?_
  have J2 : ∀ (z1 : Int32), z1 = (if lf = 0 then (1 : Int32) else (0 : Int32)) → Go p l e ({ frames := 0, cells := 0, slots := 0, locals := 0 } : Room) s m #[(.ref o)] below meth c n0 Q h0 0 0 (mkF m 12 #[.val (.ref o)] [(.int z1)]) := by
    intro z1 hz1
    subst hz1
    refine g_retN K 12 .boolean d5_12 rfl (by simp) (by decide) (by decide) ?_
    rw [hQ]
    refine ⟨?_, rfl⟩
    show some (Value.int _) = some (Value.int (f_idle lf))
    unfold f_idle
    rfl
  refine g_if_ne K 4 11 d5_4 (by decide) (by decide) ?_ ?_
  · intro c3
    refine g_iconst K 11 (0 : Int32) d5_11 (by decide) ?_
    exact J2 _ (by rw [if_neg c3])
  · intro c3
    refine g_iconst K 7 (1 : Int32) d5_7 (by decide) ?_
    refine g_goto K 8 12 d5_8 (by decide) (by decide) ?_
    exact J2 _ (by rw [if_pos c3])
def f_leads (x : Int32) : Int32 := nar .boolean (if (if (x >>> ((5 : Int32) &&& 31)) = (6 : Int32) then (1 : Int32) else (0 : Int32)) = 0 then (if (if (x >>> ((4 : Int32) &&& 31)) = (14 : Int32) then (1 : Int32) else (0 : Int32)) = 0 then (if (if (x >>> ((3 : Int32) &&& 31)) = (30 : Int32) then (1 : Int32) else (0 : Int32)) = 0 then (0 : Int32) else (if (4 : Int32) < (x &&& (7 : Int32)) then (0 : Int32) else (1 : Int32))) else (1 : Int32)) else (if (x &&& (31 : Int32)) < (2 : Int32) then (if (if (x >>> ((4 : Int32) &&& 31)) = (14 : Int32) then (1 : Int32) else (0 : Int32)) = 0 then (if (if (x >>> ((3 : Int32) &&& 31)) = (30 : Int32) then (1 : Int32) else (0 : Int32)) = 0 then (0 : Int32) else (if (4 : Int32) < (x &&& (7 : Int32)) then (0 : Int32) else (1 : Int32))) else (1 : Int32)) else (1 : Int32)))
set_option maxRecDepth 65536 in
set_option maxHeartbeats 40000000 in
theorem rm_leads (l : Launch) (Z : State) (a0 : Array Value) (hw : ∀ d ∈ tables_1, d.before a0 Z = true) (x : Int32) (h0 : Heap) (n0 : Nat) (Z0 : n0 ≤ h0.size)   :
    Meets l (⟨"com/example/gapwise/gapwise/Utf8TakePinLaw", "leads", "(I)Z"⟩ : MethodName) method_2_code 4 (some .boolean) ({ frames := 0, cells := 0, slots := 0, locals := 0 } : Room) Z #[(.int x)] h0 n0 (fun v h => v = some (Value.int (f_leads x)) ∧ h = h0) := by
  refine meets_of (plainFor_of_name pn1) (Ls := #[.val (.int x), .unset, .unset, .unset]) (fun m => by first | (simp [entryFrame, mkF, argsToLocals, Value.category]; done) | rfl) ?_
  intro p e s m below meth c K
  replace K : Kx Z "com/example/gapwise/gapwise/Utf8TakePinLaw" "leads" method_2_code 4 (some .boolean) p s m meth c := K
  obtain ⟨Q, hQ⟩ : ∃ Q : Option Value → Heap → Prop, Q = (fun v h => v = some (Value.int (f_leads x)) ∧ h = h0) := ⟨_, rfl⟩
  rw [← hQ]
  refine g_iloadN K 0 d7_0 rfl ?_
  refine g_iconst K 1 (5 : Int32) d7_1 (by decide) ?_
  refine g_ishr K 2 d7_2 ?_
  refine g_bipush K 3 (6 : Int32) d7_3 (by decide) ?_
  have J2 : ∀ (z1 : Int32), z1 = (if (x >>> ((5 : Int32) &&& 31)) = (6 : Int32) then (1 : Int32) else (0 : Int32)) → Go p l e ({ frames := 0, cells := 0, slots := 0, locals := 0 } : Room) s m #[(.int x)] below meth c n0 Q h0 0 0 (mkF m 13 #[.val (.int x), .unset, .unset, .unset] [(.int z1)]) := by
    intro z1 hz1
    subst hz1
    refine g_istoreN K 13 #[.val (.int x), .val (.int (if (x >>> ((5 : Int32) &&& 31)) = (6 : Int32) then (1 : Int32) else (0 : Int32))), .unset, .unset] d7_13 rfl ?_
    refine g_iloadN K 14 d7_14 rfl ?_
    refine g_iconst K 15 (4 : Int32) d7_15 (by decide) ?_
    refine g_ishr K 16 d7_16 ?_
    refine g_bipush K 17 (14 : Int32) d7_17 (by decide) ?_
    have J4 : ∀ (z3 : Int32), z3 = (if (x >>> ((4 : Int32) &&& 31)) = (14 : Int32) then (1 : Int32) else (0 : Int32)) → Go p l e ({ frames := 0, cells := 0, slots := 0, locals := 0 } : Room) s m #[(.int x)] below meth c n0 Q h0 0 0 (mkF m 27 #[.val (.int x), .val (.int (if (x >>> ((5 : Int32) &&& 31)) = (6 : Int32) then (1 : Int32) else (0 : Int32))), .unset, .unset] [(.int z3)]) := by
      intro z3 hz3
      subst hz3
      refine g_istoreN K 27 #[.val (.int x), .val (.int (if (x >>> ((5 : Int32) &&& 31)) = (6 : Int32) then (1 : Int32) else (0 : Int32))), .val (.int (if (x >>> ((4 : Int32) &&& 31)) = (14 : Int32) then (1 : Int32) else (0 : Int32))), .unset] d7_27 rfl ?_
      refine g_iloadN K 28 d7_28 rfl ?_
      refine g_iconst K 29 (3 : Int32) d7_29 (by decide) ?_
      refine g_ishr K 30 d7_30 ?_
      refine g_bipush K 31 (30 : Int32) d7_31 (by decide) ?_
      have J6 : ∀ (z5 : Int32), z5 = (if (x >>> ((3 : Int32) &&& 31)) = (30 : Int32) then (1 : Int32) else (0 : Int32)) → Go p l e ({ frames := 0, cells := 0, slots := 0, locals := 0 } : Room) s m #[(.int x)] below meth c n0 Q h0 0 0 (mkF m 41 #[.val (.int x), .val (.int (if (x >>> ((5 : Int32) &&& 31)) = (6 : Int32) then (1 : Int32) else (0 : Int32))), .val (.int (if (x >>> ((4 : Int32) &&& 31)) = (14 : Int32) then (1 : Int32) else (0 : Int32))), .unset] [(.int z5)]) := by
        intro z5 hz5
        subst hz5
        refine g_istoreN K 41 #[.val (.int x), .val (.int (if (x >>> ((5 : Int32) &&& 31)) = (6 : Int32) then (1 : Int32) else (0 : Int32))), .val (.int (if (x >>> ((4 : Int32) &&& 31)) = (14 : Int32) then (1 : Int32) else (0 : Int32))), .val (.int (if (x >>> ((3 : Int32) &&& 31)) = (30 : Int32) then (1 : Int32) else (0 : Int32)))] d7_41 rfl ?_
        refine g_iloadN K 42 d7_42 rfl ?_
        have J8 : ∀ (z7 : Int32), z7 = (if (if (x >>> ((5 : Int32) &&& 31)) = (6 : Int32) then (1 : Int32) else (0 : Int32)) = 0 then (if (if (x >>> ((4 : Int32) &&& 31)) = (14 : Int32) then (1 : Int32) else (0 : Int32)) = 0 then (if (if (x >>> ((3 : Int32) &&& 31)) = (30 : Int32) then (1 : Int32) else (0 : Int32)) = 0 then (0 : Int32) else (if (4 : Int32) < (x &&& (7 : Int32)) then (0 : Int32) else (1 : Int32))) else (1 : Int32)) else (if (x &&& (31 : Int32)) < (2 : Int32) then (if (if (x >>> ((4 : Int32) &&& 31)) = (14 : Int32) then (1 : Int32) else (0 : Int32)) = 0 then (if (if (x >>> ((3 : Int32) &&& 31)) = (30 : Int32) then (1 : Int32) else (0 : Int32)) = 0 then (0 : Int32) else (if (4 : Int32) < (x &&& (7 : Int32)) then (0 : Int32) else (1 : Int32))) else (1 : Int32)) else (1 : Int32))) → Go p l e ({ frames := 0, cells := 0, slots := 0, locals := 0 } : Room) s m #[(.int x)] below meth c n0 Q h0 0 0 (mkF m 75 #[.val (.int x), .val (.int (if (x >>> ((5 : Int32) &&& 31)) = (6 : Int32) then (1 : Int32) else (0 : Int32))), .val (.int (if (x >>> ((4 : Int32) &&& 31)) = (14 : Int32) then (1 : Int32) else (0 : Int32))), .val (.int (if (x >>> ((3 : Int32) &&& 31)) = (30 : Int32) then (1 : Int32) else (0 : Int32)))] [(.int z7)]) := by
          intro z7 hz7
          subst hz7
          refine g_retN K 75 .boolean d7_75 rfl (by simp) (by decide) (by decide) ?_
          rw [hQ]
          refine ⟨?_, rfl⟩
          show some (Value.int _) = some (Value.int (f_leads x))
          unfold f_leads
          rfl
        refine g_if_eq K 43 54 d7_43 (by decide) (by decide) ?_ ?_
        · intro c9
          refine g_iloadN K 54 d7_54 rfl ?_
          refine g_if_ne K 55 70 d7_55 (by decide) (by decide) ?_ ?_
          · intro c10
            refine g_iconst K 70 (1 : Int32) d7_70 (by decide) ?_
            refine g_goto K 71 75 d7_71 (by decide) (by decide) ?_
            exact J8 _ (by rw [if_pos c9, if_neg c10])
          · intro c10
            refine g_iloadN K 58 d7_58 rfl ?_
            refine g_if_eq K 59 74 d7_59 (by decide) (by decide) ?_ ?_
            · intro c11
              refine g_iconst K 74 (0 : Int32) d7_74 (by decide) ?_
              exact J8 _ (by rw [if_pos c9, if_pos c10, if_pos c11])
            · intro c11
              refine g_iloadN K 62 d7_62 rfl ?_
              refine g_bipush K 63 (7 : Int32) d7_63 (by decide) ?_
              refine g_iand K 65 d7_65 ?_
              refine g_iconst K 66 (4 : Int32) d7_66 (by decide) ?_
              refine g_ii_gt K 67 74 d7_67 (by decide) (by decide) ?_ ?_
              · intro c12
                refine g_iconst K 74 (0 : Int32) d7_74 (by decide) ?_
                exact J8 _ (by rw [if_pos c9, if_pos c10, if_neg c11, if_pos c12])
              · intro c12
                refine g_iconst K 70 (1 : Int32) d7_70 (by decide) ?_
                refine g_goto K 71 75 d7_71 (by decide) (by decide) ?_
                exact J8 _ (by rw [if_pos c9, if_pos c10, if_neg c11, if_neg c12])
        · intro c9
          refine g_iloadN K 46 d7_46 rfl ?_
          refine g_bipush K 47 (31 : Int32) d7_47 (by decide) ?_
          refine g_iand K 49 d7_49 ?_
          refine g_iconst K 50 (2 : Int32) d7_50 (by decide) ?_
          refine g_ii_ge K 51 70 d7_51 (by decide) (by decide) ?_ ?_
          · intro c13
            refine g_iconst K 70 (1 : Int32) d7_70 (by decide) ?_
            refine g_goto K 71 75 d7_71 (by decide) (by decide) ?_
            exact J8 _ (by rw [if_neg c9, if_neg c13])
          · intro c13
            refine g_iloadN K 54 d7_54 rfl ?_
            refine g_if_ne K 55 70 d7_55 (by decide) (by decide) ?_ ?_
            · intro c14
              refine g_iconst K 70 (1 : Int32) d7_70 (by decide) ?_
              refine g_goto K 71 75 d7_71 (by decide) (by decide) ?_
              exact J8 _ (by rw [if_neg c9, if_pos c13, if_neg c14])
            · intro c14
              refine g_iloadN K 58 d7_58 rfl ?_
              refine g_if_eq K 59 74 d7_59 (by decide) (by decide) ?_ ?_
              · intro c15
                refine g_iconst K 74 (0 : Int32) d7_74 (by decide) ?_
                exact J8 _ (by rw [if_neg c9, if_pos c13, if_pos c14, if_pos c15])
              · intro c15
                refine g_iloadN K 62 d7_62 rfl ?_
                refine g_bipush K 63 (7 : Int32) d7_63 (by decide) ?_
                refine g_iand K 65 d7_65 ?_
                refine g_iconst K 66 (4 : Int32) d7_66 (by decide) ?_
                refine g_ii_gt K 67 74 d7_67 (by decide) (by decide) ?_ ?_
                · intro c16
                  refine g_iconst K 74 (0 : Int32) d7_74 (by decide) ?_
                  exact J8 _ (by rw [if_neg c9, if_pos c13, if_pos c14, if_neg c15, if_pos c16])
                · intro c16
                  refine g_iconst K 70 (1 : Int32) d7_70 (by decide) ?_
                  refine g_goto K 71 75 d7_71 (by decide) (by decide) ?_
                  exact J8 _ (by rw [if_neg c9, if_pos c13, if_pos c14, if_neg c15, if_neg c16])
      refine g_ii_ne K 33 40 d7_33 (by decide) (by decide) ?_ ?_
      · intro c17
        refine g_iconst K 40 (0 : Int32) d7_40 (by decide) ?_
        exact J6 _ (by rw [if_neg c17])
      · intro c17
        refine g_iconst K 36 (1 : Int32) d7_36 (by decide) ?_
        refine g_goto K 37 41 d7_37 (by decide) (by decide) ?_
        exact J6 _ (by rw [if_pos c17])
    refine g_ii_ne K 19 26 d7_19 (by decide) (by decide) ?_ ?_
    · intro c18
      refine g_iconst K 26 (0 : Int32) d7_26 (by decide) ?_
      exact J4 _ (by rw [if_neg c18])
    · intro c18
      refine g_iconst K 22 (1 : Int32) d7_22 (by decide) ?_
      refine g_goto K 23 27 d7_23 (by decide) (by decide) ?_
      exact J4 _ (by rw [if_pos c18])
  refine g_ii_ne K 5 12 d7_5 (by decide) (by decide) ?_ ?_
  · intro c19
    refine g_iconst K 12 (0 : Int32) d7_12 (by decide) ?_
    exact J2 _ (by rw [if_neg c19])
  · intro c19
    refine g_iconst K 8 (1 : Int32) d7_8 (by decide) ?_
    refine g_goto K 9 13 d7_9 (by decide) (by decide) ?_
    exact J2 _ (by rw [if_pos c19])
def f_fresh (x : Int32) : Int32 := if x < (128 : Int32) then x else (if (f_leads x) = 0 then (-2 : Int32) else (-1 : Int32))
set_option maxRecDepth 65536 in
set_option maxHeartbeats 40000000 in
theorem rm_fresh (l : Launch) (Z : State) (a0 : Array Value) (hw : ∀ d ∈ tables_1, d.before a0 Z = true) (x : Int32) (h0 : Heap) (n0 : Nat) (Z0 : n0 ≤ h0.size)   :
    Meets l (⟨"com/example/gapwise/gapwise/Utf8TakePinLaw", "fresh", "(I)I"⟩ : MethodName) method_3_code 1 (some .int) ({ frames := 1, cells := 0, slots := 0, locals := 15 } : Room) Z #[(.int x)] h0 n0 (fun v h => v = some (Value.int (f_fresh x)) ∧ h = h0) := by
  refine meets_of (plainFor_of_name pn1) (Ls := #[.val (.int x)]) (fun m => by first | (simp [entryFrame, mkF, argsToLocals, Value.category]; done) | rfl) ?_
  intro p e s m below meth c K
  replace K : Kx Z "com/example/gapwise/gapwise/Utf8TakePinLaw" "fresh" method_3_code 1 (some .int) p s m meth c := K
  obtain ⟨Q, hQ⟩ : ∃ Q : Option Value → Heap → Prop, Q = (fun v h => v = some (Value.int (f_fresh x)) ∧ h = h0) := ⟨_, rfl⟩
  rw [← hQ]
  refine g_iloadN K 0 d6_0 rfl ?_
  refine g_sipush K 1 (128 : Int32) d6_1 (by decide) ?_
  refine g_ii_ge K 4 9 d6_4 (by decide) (by decide) ?_ ?_
  · intro c1
    refine g_iloadN K 9 d6_9 rfl ?_
    refine g_callS K 10 [(.int x)] 0 d6_10 (rm_leads l Z a0 hw x h0 n0 Z0  ) (tw hw 28 rfl) (tw hw 29 rfl) (tw hw 18 rfl) (tw hw 30 rfl) (by decide) pd5 rfl (st := []) rfl (Nat.le_of_eq rfl) rfl (by decide) (by decide) (by decide) (by decide) ?_
    rintro _ _ ⟨hv, hh⟩
    rw [hv, hh]
    clear hv hh
    refine go_cast (k' := 0) (n' := 0) (st' := [(.int (f_leads x))]) rfl rfl rfl ?_
    have J3 : ∀ (z2 : Int32), z2 = (if (f_leads x) = 0 then (-2 : Int32) else (-1 : Int32)) → Go p l e ({ frames := 1, cells := 0, slots := 0, locals := 15 } : Room) s m #[(.int x)] below meth c n0 Q h0 0 0 (mkF m 22 #[.val (.int x)] [(.int z2)]) := by
      intro z2 hz2
      subst hz2
      refine g_ireturn K 22 d6_22 rfl (by decide) (by decide) ?_
      rw [hQ]
      refine ⟨?_, rfl⟩
      show some (Value.int _) = some (Value.int (f_fresh x))
      unfold f_fresh
      first | (rw [if_neg c1]; done) | (rw [if_neg c1]; rfl)
    refine g_if_eq K 13 20 d6_13 (by decide) (by decide) ?_ ?_
    · intro c4
      refine g_bipush K 20 (-2 : Int32) d6_20 (by decide) ?_
      exact J3 _ (by rw [if_pos c4])
    · intro c4
      refine g_iconst K 16 (-1 : Int32) d6_16 (by decide) ?_
      refine g_goto K 17 22 d6_17 (by decide) (by decide) ?_
      exact J3 _ (by rw [if_neg c4])
  · intro c1
    refine g_iloadN K 7 d6_7 rfl ?_
    refine g_ireturn K 8 d6_8 rfl (by decide) (by decide) ?_
    rw [hQ]
    refine ⟨?_, rfl⟩
    show some (Value.int _) = some (Value.int (f_fresh x))
    unfold f_fresh
    first | (rw [if_pos c1]; done) | (rw [if_pos c1]; rfl)
def f_after (lf : Int32) (lw : Int32) (hg : Int32) (cp : Int32) (ff : Int32) : Int32 := if (f_idle lf) = 0 then (0 : Int32) else (if (f_take lf lw hg cp ff.toInt8.toInt32) = (f_fresh ff) then (1 : Int32) else (0 : Int32))
set_option maxRecDepth 65536 in
set_option maxHeartbeats 40000000 in
theorem rm_after (l : Launch) (Z : State) (a0 : Array Value) (hw : ∀ d ∈ tables_1, d.before a0 Z = true) (o : Addr) (ff : Int32) (h0 : Heap) (n0 : Nat) (Z0 : n0 ≤ h0.size) (lf : Int32) (lw : Int32) (hg : Int32) (cp : Int32) (E_o : Exa Z h0 o "com/example/gapwise/gapwise/Term$Utf8") (g_o : n0 ≤ o) (F_o_left : Fld Z h0 o "com/example/gapwise/gapwise/Term$Utf8" "left" "I" (.int lf)) (F_o_low : Fld Z h0 o "com/example/gapwise/gapwise/Term$Utf8" "low" "I" (.int lw)) (F_o_high : Fld Z h0 o "com/example/gapwise/gapwise/Term$Utf8" "high" "I" (.int hg)) (F_o_codePoint : Fld Z h0 o "com/example/gapwise/gapwise/Term$Utf8" "codePoint" "I" (.int cp))  :
    Meets l (⟨"com/example/gapwise/gapwise/Utf8TakePinLaw", "after", "(Lcom/example/gapwise/gapwise/Term$Utf8;I)Z"⟩ : MethodName) method_4_code 2 (some .boolean) ({ frames := 2, cells := 0, slots := 0, locals := 30 } : Room) Z #[(.ref o), (.int ff)] h0 n0 (fun v h => v = some (Value.int (f_after lf lw hg cp ff)) ∧ Keep h0 h [o] ∧ Exa Z h o "com/example/gapwise/gapwise/Term$Utf8") := by
  refine meets_of (plainFor_of_name pn1) (Ls := #[.val (.ref o), .val (.int ff)]) (fun m => by first | (simp [entryFrame, mkF, argsToLocals, Value.category]; done) | rfl) ?_
  intro p e s m below meth c K
  replace K : Kx Z "com/example/gapwise/gapwise/Utf8TakePinLaw" "after" method_4_code 2 (some .boolean) p s m meth c := K
  obtain ⟨Q, hQ⟩ : ∃ Q : Option Value → Heap → Prop, Q = (fun v h => v = some (Value.int (f_after lf lw hg cp ff)) ∧ Keep h0 h [o] ∧ Exa Z h o "com/example/gapwise/gapwise/Term$Utf8") := ⟨_, rfl⟩
  rw [← hQ]
  have KC0 := Keep.refl h0 [o]
  refine g_aloadN K 0 d4_0 rfl rfl ?_
  refine g_callV K 1 [] 0 d4_1 (rm_idle l Z a0 hw o h0 n0 Z0 lf F_o_left) E_o (tw hw 20 rfl) (tw hw 21 rfl) (tw hw 23 rfl) (tw hw 23 rfl) (tw hw 22 rfl) (tw hw 2 rfl) (tw hw 24 rfl) (by decide) pd3 rfl (st := []) rfl (Nat.le_of_eq rfl) rfl (by decide) (by decide) (by decide) (by decide) ?_
  rintro _ _ ⟨hv, hh⟩
  rw [hv, hh]
  clear hv hh
  refine go_cast (k' := 0) (n' := 0) (st' := [(.int (f_idle lf))]) rfl rfl rfl ?_
  refine g_if_eq K 4 24 d4_4 (by decide) (by decide) ?_ ?_
  · intro c1
    refine g_iconst K 24 (0 : Int32) d4_24 (by decide) ?_
    refine g_retN K 25 .boolean d4_25 rfl (by simp) (by decide) (by decide) ?_
    rw [hQ]
    exact ⟨(show some (Value.int _) = some (Value.int (f_after lf lw hg cp ff)) from by unfold f_after; first | (rw [if_pos c1]; done) | (rw [if_pos c1]; rfl)), KC0, E_o⟩
  · intro c1
    refine g_aloadN K 7 d4_7 rfl rfl ?_
    refine g_iloadN K 8 d4_8 rfl ?_
    refine g_i2b K 9 d4_9 ?_
    refine g_callV K 10 [(.int ff.toInt8.toInt32)] 0 d4_10 (rm_take l Z a0 hw o ff.toInt8.toInt32 h0 n0 Z0 lf lw hg cp E_o g_o F_o_left F_o_low F_o_high F_o_codePoint ) E_o (tw hw 9 rfl) (tw hw 10 rfl) (tw hw 12 rfl) (tw hw 12 rfl) (tw hw 11 rfl) (tw hw 2 rfl) (tw hw 13 rfl) (by decide) pd1 rfl (st := []) rfl (Nat.le_of_eq rfl) rfl (by decide) (by decide) (by decide) (by decide) ?_
    rintro _ h2 ⟨hv, Kp3, E4, F5, F6, F7, F8⟩
    rw [hv]
    clear hv
    have KC9 := KC0.trans Kp3 (allS (Or.inl (by simp)) all0)
    have Z10 := Nat.le_trans Z0 Kp3.1
    refine go_cast (k' := 0) (n' := 0) (st' := [(.int (f_take lf lw hg cp ff.toInt8.toInt32))]) rfl rfl rfl ?_
    refine g_iloadN K 13 d4_13 rfl ?_
    refine g_callS K 14 [(.int ff)] 1 d4_14 (rm_fresh l Z a0 hw ff h2 n0 Z10  ) (tw hw 25 rfl) (tw hw 26 rfl) (tw hw 18 rfl) (tw hw 27 rfl) (by decide) pd4 rfl (st := [(.int (f_take lf lw hg cp ff.toInt8.toInt32))]) rfl (Nat.le_of_eq rfl) rfl (by decide) (by decide) (by decide) (by decide) ?_
    rintro _ _ ⟨hv, hh⟩
    rw [hv, hh]
    clear hv hh
    refine go_cast (k' := 0) (n' := 0) (st' := [(.int (f_fresh ff)), (.int (f_take lf lw hg cp ff.toInt8.toInt32))]) rfl rfl rfl ?_
    refine g_ii_ne K 17 24 d4_17 (by decide) (by decide) ?_ ?_
    · intro c11
      refine g_iconst K 24 (0 : Int32) d4_24 (by decide) ?_
      refine g_retN K 25 .boolean d4_25 rfl (by simp) (by decide) (by decide) ?_
      rw [hQ]
      exact ⟨(show some (Value.int _) = some (Value.int (f_after lf lw hg cp ff)) from by unfold f_after; first | (rw [if_neg c1, if_neg c11]; done) | (rw [if_neg c1, if_neg c11]; rfl)), KC9, E4⟩
    · intro c11
      refine g_iconst K 20 (1 : Int32) d4_20 (by decide) ?_
      refine g_goto K 21 25 d4_21 (by decide) (by decide) ?_
      refine g_retN K 25 .boolean d4_25 rfl (by simp) (by decide) (by decide) ?_
      rw [hQ]
      exact ⟨(show some (Value.int _) = some (Value.int (f_after lf lw hg cp ff)) from by unfold f_after; first | (rw [if_neg c1, if_pos c11]; done) | (rw [if_neg c1, if_pos c11]; rfl)), KC9, E4⟩
theorem own_small (x : Int32) (n : Nat) (hn : n ≤ 256) (h : 0 ≤ x.toInt ∧ x.toInt < n) : ∃ k : Fin n, x = Int32.ofNat k.val := by
  refine ⟨⟨x.toInt.toNat, by omega⟩, ?_⟩
  apply Int32.toInt_inj.mp
  show _ = (Int32.ofNat x.toInt.toNat).toInt
  rw [Int32.toInt_ofNat_of_lt (by omega)]
  omega
theorem own_by {x : Int32} (h : 0 ≤ x.toInt ∧ x.toInt < 256) : (x.toInt8.toInt32 &&& (255 : Int32)) = x := by
  apply Int32.toInt_inj.mp
  rw [c_mask _ 255 8 (by decide) (by decide)]
  obtain ⟨h1, h2, h3⟩ := c_i2b x
  omega
theorem own_b1 {p v : Int32} (h : (p &&& (255 : Int32)) = v) : 0 ≤ v.toInt ∧ v.toInt < 256 := by
  rw [← h, c_mask p 255 8 (by decide) (by decide)]; omega
theorem own_b2 {f p z m : Int32} (h : z = (if (f &&& m) = 0 then (p &&& (255 : Int32)) else ((128 : Int32) ||| (p &&& (63 : Int32))))) : 0 ≤ z.toInt ∧ z.toInt < 256 := by
  split at h
  · exact own_b1 h.symm
  · have hm := c_mask p 63 6 (by decide) (by decide)
    have ho := c_or 128 (p &&& 63) 6 (by decide) 64 (by decide) (by decide) (by omega) (by omega)
    rw [← h, show (128 : Int32).toInt = 128 from by decide] at ho
    have r := rng32 z
    omega
def own_n (l : Int32) : Int32 := if (l >>> ((5 : Int32) &&& 31)) = (6 : Int32) then (2 : Int32) else (if (l >>> ((4 : Int32) &&& 31)) = (14 : Int32) then (3 : Int32) else (4 : Int32))
def own_m (l : Int32) : Int32 := if (l >>> ((5 : Int32) &&& 31)) = (6 : Int32) then (31 : Int32) else (if (l >>> ((4 : Int32) &&& 31)) = (14 : Int32) then (15 : Int32) else (7 : Int32))
theorem own_nz {l z46 z48 z50 : Int32} (h46 : z46 = (if (l >>> ((5 : Int32) &&& 31)) = (6 : Int32) then (1 : Int32) else (0 : Int32))) (h48 : z48 = (if (l >>> ((4 : Int32) &&& 31)) = (14 : Int32) then (1 : Int32) else (0 : Int32))) (h50 : z50 = (if z46 = 0 then (if z48 = 0 then (4 : Int32) else (3 : Int32)) else (2 : Int32))) : z50 = own_n l := by
  subst h46 h48 h50
  unfold own_n
  by_cases a : (l >>> ((5 : Int32) &&& 31)) = (6 : Int32)
  · rw [if_pos a, if_pos a]; rfl
  · rw [if_neg a, if_neg a]
    by_cases b : (l >>> ((4 : Int32) &&& 31)) = (14 : Int32)
    · rw [if_pos b, if_pos b]; rfl
    · rw [if_neg b, if_neg b]; rfl
theorem own_mz {l z46 z48 z52 : Int32} (h46 : z46 = (if (l >>> ((5 : Int32) &&& 31)) = (6 : Int32) then (1 : Int32) else (0 : Int32))) (h48 : z48 = (if (l >>> ((4 : Int32) &&& 31)) = (14 : Int32) then (1 : Int32) else (0 : Int32))) (h52 : z52 = (if z46 = 0 then (if z48 = 0 then (7 : Int32) else (15 : Int32)) else (31 : Int32))) : z52 = own_m l := by
  subst h46 h48 h52
  unfold own_m
  by_cases a : (l >>> ((5 : Int32) &&& 31)) = (6 : Int32)
  · rw [if_pos a, if_pos a]; rfl
  · rw [if_neg a, if_neg a]
    by_cases b : (l >>> ((4 : Int32) &&& 31)) = (14 : Int32)
    · rw [if_pos b, if_pos b]; rfl
    · rw [if_neg b, if_neg b]; rfl
abbrev own_S (l lf lw hg cp : Int32) : Prop := lf = own_n l - 1 ∧ cp = (l &&& own_m l) ∧
  ((own_n l).toInt = 2 ∧ lw.toInt = 128 ∧ hg.toInt = 191 ∧ 0 ≤ cp.toInt ∧ cp.toInt ≤ 31 ∨
   (own_n l).toInt = 3 ∧ 0 ≤ cp.toInt ∧ cp.toInt ≤ 15 ∧ (cp.toInt = 0 ∧ lw.toInt = 160 ∧ hg.toInt = 191 ∨ cp.toInt = 13 ∧ lw.toInt = 128 ∧ hg.toInt = 159 ∨ ¬ cp.toInt = 0 ∧ ¬ cp.toInt = 13 ∧ lw.toInt = 128 ∧ hg.toInt = 191) ∨
   (own_n l).toInt = 4 ∧ 0 ≤ cp.toInt ∧ cp.toInt ≤ 4 ∧ (cp.toInt = 0 ∧ lw.toInt = 144 ∧ hg.toInt = 191 ∨ cp.toInt = 4 ∧ lw.toInt = 128 ∧ hg.toInt = 143 ∨ ¬ cp.toInt = 0 ∧ ¬ cp.toInt = 4 ∧ lw.toInt = 128 ∧ hg.toInt = 191))
theorem own_D (l : Int32) (hl : 0 ≤ l.toInt ∧ l.toInt < 256) :
    (l < 128 → f_take 0 0 0 0 l.toInt8.toInt32 = l ∧ f_take_left 0 0 0 0 l.toInt8.toInt32 = 0) ∧
    (¬ l < 128 → f_leads l = 0 → f_take 0 0 0 0 l.toInt8.toInt32 = -2 ∧ f_take_left 0 0 0 0 l.toInt8.toInt32 = 0) ∧
    (¬ l < 128 → ¬ f_leads l = 0 → f_take 0 0 0 0 l.toInt8.toInt32 = -1 ∧ own_S l (f_take_left 0 0 0 0 l.toInt8.toInt32) (f_take_low 0 0 0 0 l.toInt8.toInt32) (f_take_high 0 0 0 0 l.toInt8.toInt32) (f_take_codePoint 0 0 0 0 l.toInt8.toInt32)) := by
  obtain ⟨k, rfl⟩ := own_small l 256 (by decide) hl
  have : ∀ k : Fin 256, (Int32.ofNat k.val < 128 → f_take 0 0 0 0 (Int32.ofNat k.val).toInt8.toInt32 = (Int32.ofNat k.val) ∧ f_take_left 0 0 0 0 (Int32.ofNat k.val).toInt8.toInt32 = 0) ∧
    (¬ Int32.ofNat k.val < 128 → f_leads (Int32.ofNat k.val) = 0 → f_take 0 0 0 0 (Int32.ofNat k.val).toInt8.toInt32 = -2 ∧ f_take_left 0 0 0 0 (Int32.ofNat k.val).toInt8.toInt32 = 0) ∧
    (¬ Int32.ofNat k.val < 128 → ¬ f_leads (Int32.ofNat k.val) = 0 → f_take 0 0 0 0 (Int32.ofNat k.val).toInt8.toInt32 = -1 ∧ own_S (Int32.ofNat k.val) (f_take_left 0 0 0 0 (Int32.ofNat k.val).toInt8.toInt32) (f_take_low 0 0 0 0 (Int32.ofNat k.val).toInt8.toInt32) (f_take_high 0 0 0 0 (Int32.ofNat k.val).toInt8.toInt32) (f_take_codePoint 0 0 0 0 (Int32.ofNat k.val).toInt8.toInt32)) := by decide +kernel
  exact this k
theorem own_after (lf lw hg cp ff : Int32) (hf : 0 ≤ ff.toInt ∧ ff.toInt < 256) (h0 : lf = 0) : f_after lf lw hg cp ff = 1 := by
  subst h0
  obtain ⟨k, rfl⟩ := own_small ff 256 (by decide) hf
  have e : f_take 0 lw hg cp (Int32.ofNat k.val).toInt8.toInt32 = f_take 0 0 0 0 (Int32.ofNat k.val).toInt8.toInt32 := by
    have n00 : ¬ (0 : Int32) < 0 := by decide
    unfold f_take; simp only [if_neg n00]
  unfold f_after
  rw [e]
  have : ∀ k : Fin 256, (if (f_idle 0) = 0 then (0 : Int32) else (if (f_take 0 0 0 0 (Int32.ofNat k.val).toInt8.toInt32) = (f_fresh (Int32.ofNat k.val)) then (1 : Int32) else (0 : Int32))) = 1 := by decide +kernel
  exact this k
theorem own_dead (lf lw hg cp ff : Int32) (hf : 0 ≤ ff.toInt ∧ ff.toInt < 256) (h0 : lf = 0) (h : f_after lf lw hg cp ff = 0) : False := by
  rw [own_after lf lw hg cp ff hf h0] at h; exact absurd h (by decide)
/-- a turn in the middle of a sequence -/
theorem own_T (lf lw hg cp s : Int32) (hs : 0 ≤ s.toInt ∧ s.toInt < 256) (hl : 0 < lf) :
    ((s < lw ∨ hg < s) → f_take lf lw hg cp s.toInt8.toInt32 = -3 ∧ f_take_left lf lw hg cp s.toInt8.toInt32 = 0) ∧
    (¬ (s < lw ∨ hg < s) → f_take lf lw hg cp s.toInt8.toInt32 = (if (lf - (1 : Int32)) = 0 then ((cp <<< ((6 : Int32) &&& 31)) ||| (s &&& (63 : Int32))) else (-1 : Int32)) ∧ f_take_left lf lw hg cp s.toInt8.toInt32 = lf - 1 ∧ f_take_low lf lw hg cp s.toInt8.toInt32 = 128 ∧ f_take_high lf lw hg cp s.toInt8.toInt32 = 191 ∧ f_take_codePoint lf lw hg cp s.toInt8.toInt32 = ((cp <<< ((6 : Int32) &&& 31)) ||| (s &&& (63 : Int32)))) := by
  unfold f_take f_take_left f_take_low f_take_high f_take_codePoint
  rw [own_by hs]
  refine ⟨fun h => ?_, fun h => ?_⟩
  · rw [if_pos hl, if_pos hl]
    by_cases a : s < lw
    · rw [if_pos a, if_pos a]; exact ⟨rfl, rfl⟩
    · have b : hg < s := h.resolve_left a
      rw [if_neg a, if_neg a, if_pos b, if_pos b]; exact ⟨rfl, rfl⟩
  · have a : ¬ s < lw := fun q => h (Or.inl q)
    have b : ¬ hg < s := fun q => h (Or.inr q)
    simp only [if_pos hl, if_neg a, if_neg b, and_self]
theorem own_6 {s : Int32} (hs : 0 ≤ s.toInt ∧ s.toInt < 256) : (s >>> ((6 : Int32) &&& 31)) = (2 : Int32) ↔ 128 ≤ s.toInt ∧ s.toInt ≤ 191 := by
  rw [← Int32.toInt_inj, c_ishr s 6 6 (by decide), show (2 : Int32).toInt = 2 from by decide]
  omega
theorem own_top {cp s v : Int32} (hc : 0 ≤ cp.toInt ∧ cp.toInt ≤ 31) (hs : 0 ≤ s.toInt ∧ s.toInt < 256) (h : ((cp <<< ((6 : Int32) &&& 31)) ||| (s &&& (63 : Int32))) = v) : v.toInt = cp.toInt * 64 + s.toInt % 64 := by
  have h1 := c_ishl cp 6 6 (by decide)
  have r1 := rng32 (cp <<< ((6 : Int32) &&& 31))
  have h2 := c_mask s 63 6 (by decide) (by decide)
  have h3 := c_or (cp <<< ((6 : Int32) &&& 31)) (s &&& 63) 6 (by decide) 64 (by decide) (by omega) (by omega) (by omega)
  rw [h] at h3
  have r := rng32 v
  omega
theorem own_ok {l lf lw hg cp s v57 z50 z55 z58 : Int32} (hS : own_S l lf lw hg cp) (hs : 0 ≤ s.toInt ∧ s.toInt < 256) (h50 : z50 = own_n l) (h55 : z55 = (if (s >>> ((6 : Int32) &&& 31)) = (2 : Int32) then (1 : Int32) else (0 : Int32))) (h57 : ((cp <<< ((6 : Int32) &&& 31)) ||| (s &&& (63 : Int32))) = v57)
    (h58 : z58 = (if z50 = (2 : Int32) then z55 else (if z50 = (3 : Int32) then (if z55 = 0 then (0 : Int32) else (if v57 < (32 : Int32) then (0 : Int32) else (if v57 < (864 : Int32) then (1 : Int32) else (if (895 : Int32) < v57 then (1 : Int32) else (0 : Int32))))) else (if z55 = 0 then (0 : Int32) else (if v57 < (16 : Int32) then (0 : Int32) else (if (271 : Int32) < v57 then (0 : Int32) else (1 : Int32))))))) :
    z58 = 0 ↔ (s < lw ∨ hg < s) := by
  obtain ⟨-, -, hc⟩ := hS
  have hcp : 0 ≤ cp.toInt ∧ cp.toInt ≤ 31 := by omega
  have ht := own_top hcp hs h57
  have h6 := own_6 hs
  have e2 : (2 : Int32).toInt = 2 := by decide
  have e3 : (3 : Int32).toInt = 3 := by decide
  have k : ∀ u w : Int32, u = w ↔ u.toInt = w.toInt := fun u w => Int32.toInt_inj.symm
  have p10 : ((1 : Int32) = 0) ↔ False := by decide
  subst h50
  rw [Int32.lt_iff_toInt_lt, Int32.lt_iff_toInt_lt]
  by_cases q : (s >>> ((6 : Int32) &&& 31)) = (2 : Int32)
  · rw [if_pos q] at h55
    have h6' := h6.mp q
    subst h55
    rw [h58]
    rcases hc with ⟨n2, a, b, -⟩ | ⟨n3, b0, b1, hc⟩ | ⟨n4, b0, b1, hc⟩
    · rw [if_pos ((k _ _).mpr (n2.trans e2.symm))]
      rw [p10]; constructor
      · exact False.elim
      · intro h; omega
    · rw [if_neg (fun w => by have := (k _ _).mp w; omega), if_pos ((k _ _).mpr (n3.trans e3.symm)), if_neg (by decide)]
      simp only [Int32.lt_iff_toInt_lt, show (32 : Int32).toInt = 32 from by decide, show (864 : Int32).toInt = 864 from by decide, show (895 : Int32).toInt = 895 from by decide]
      by_cases c1 : v57.toInt < 32
      · rw [if_pos c1]; exact ⟨fun _ => by omega, fun _ => rfl⟩
      · rw [if_neg c1]
        by_cases c2 : v57.toInt < 864
        · rw [if_pos c2, p10]; exact ⟨False.elim, fun h => by omega⟩
        · rw [if_neg c2]
          by_cases c3 : 895 < v57.toInt
          · rw [if_pos c3, p10]; exact ⟨False.elim, fun h => by omega⟩
          · rw [if_neg c3]; exact ⟨fun _ => by omega, fun _ => rfl⟩
    · rw [if_neg (fun w => by have := (k _ _).mp w; omega), if_neg (fun w => by have := (k _ _).mp w; omega), if_neg (by decide)]
      simp only [Int32.lt_iff_toInt_lt, show (16 : Int32).toInt = 16 from by decide, show (271 : Int32).toInt = 271 from by decide]
      by_cases c1 : v57.toInt < 16
      · rw [if_pos c1]; exact ⟨fun _ => by omega, fun _ => rfl⟩
      · rw [if_neg c1]
        by_cases c2 : 271 < v57.toInt
        · rw [if_pos c2]; exact ⟨fun _ => by omega, fun _ => rfl⟩
        · rw [if_neg c2, p10]; exact ⟨False.elim, fun h => by omega⟩
  · rw [if_neg q] at h55
    have h6' : ¬ (128 ≤ s.toInt ∧ s.toInt ≤ 191) := fun w => q (h6.mpr w)
    subst h55
    have z : z58 = 0 := by
      rw [h58]; split
      · rfl
      · split <;> rfl
    exact ⟨fun _ => by omega, fun _ => z⟩
theorem own_pos {l lf lw hg cp : Int32} (hS : own_S l lf lw hg cp) : lf.toInt = (own_n l).toInt - 1 ∧ 0 < lf ∧ ((own_n l).toInt = 2 ∨ (own_n l).toInt = 3 ∨ (own_n l).toInt = 4) := by
  obtain ⟨h1, -, hc⟩ := hS
  have h := c_isub (own_n l) 1
  have r := rng32 (own_n l - 1)
  rw [show (1 : Int32).toInt = 1 from by decide, ← h1] at h
  rw [← h1] at r
  rw [Int32.lt_iff_toInt_lt, show (0 : Int32).toInt = 0 from by decide]
  omega
theorem own_sub1 {lf : Int32} (h : 0 < lf.toInt) : (lf - 1).toInt = lf.toInt - 1 := by
  have h1 := c_isub lf 1
  have r := rng32 (lf - 1)
  have r2 := rng32 lf
  rw [show (1 : Int32).toInt = 1 from by decide] at h1
  omega
theorem own_idle {lf : Int32} (h : 0 < lf.toInt) : f_idle lf = 0 := by
  unfold f_idle
  rw [if_neg (fun q => by rw [q] at h; exact absurd h (by decide))]; rfl
theorem own_eqz (x : Int32) : x = 0 ↔ x.toInt = 0 := by rw [← Int32.toInt_inj]; rfl

section Roads
variable {l r0 f s1 s2 s3 g1 w1 x1 c1 g2 w2 x2 c2 g3 w3 x3 c3 g4 w4 x4 c4 r1 r2 r3 n ct t1 ok t2 : Int32}
/-- what is known behind a lead -/
def own_F1 (l s1 g1 w1 x1 c1 n t1 ok : Int32) : Prop := own_S l g1 w1 x1 c1 ∧ n = own_n l ∧ (0 ≤ s1.toInt ∧ s1.toInt < 256) ∧ ((c1 <<< ((6 : Int32) &&& 31)) ||| (s1 &&& (63 : Int32))) = t1 ∧ (ok = 0 ↔ (s1 < w1 ∨ x1 < s1))
theorem own_r1bad (F : own_F1 l s1 g1 w1 x1 c1 n t1 ok) (h1 : f_take g1 w1 x1 c1 s1.toInt8.toInt32 = r1) (hg : g2 = f_take_left g1 w1 x1 c1 s1.toInt8.toInt32) (h : ok = 0) : r1 = -3 ∧ g2 = 0 := by
  obtain ⟨hS, hn, hs, ht, hok⟩ := F
  have := (own_T g1 w1 x1 c1 s1 hs (own_pos hS).2.1).1 (hok.mp h)
  exact ⟨h1.symm.trans this.1, hg.trans this.2⟩
theorem own_r1ok (F : own_F1 l s1 g1 w1 x1 c1 n t1 ok) (h1 : f_take g1 w1 x1 c1 s1.toInt8.toInt32 = r1) (hg : g2 = f_take_left g1 w1 x1 c1 s1.toInt8.toInt32) (hw : w2 = f_take_low g1 w1 x1 c1 s1.toInt8.toInt32) (hx : x2 = f_take_high g1 w1 x1 c1 s1.toInt8.toInt32) (hc : c2 = f_take_codePoint g1 w1 x1 c1 s1.toInt8.toInt32) (h : ¬ ok = 0) :
    (n = 2 → r1 = t1 ∧ g2 = 0) ∧ (¬ n = 2 → r1 = -1 ∧ 0 < g2.toInt) ∧ g2.toInt = n.toInt - 2 ∧ w2 = 128 ∧ x2 = 191 ∧ c2 = t1 ∧ (n.toInt = 2 ∨ n.toInt = 3 ∨ n.toInt = 4) := by
  obtain ⟨hS, hn, hs, ht, hok⟩ := F
  obtain ⟨p1, p2, p3⟩ := own_pos hS
  obtain ⟨a1, a2, a3, a4, a5⟩ := (own_T g1 w1 x1 c1 s1 hs p2).2 (fun q => h (hok.mpr q))
  rw [Int32.lt_iff_toInt_lt, show (0 : Int32).toInt = 0 from by decide] at p2
  have hs1 := own_sub1 p2
  rw [← hn] at p1 p3
  have e2 : n = 2 ↔ n.toInt = 2 := by rw [← Int32.toInt_inj]; rfl
  have hgi : g2.toInt = n.toInt - 2 := by rw [hg, a2, hs1, p1]; omega
  refine ⟨fun q => ?_, fun q => ?_, hgi, hw.trans a3, hx.trans a4, hc.trans (a5.trans ht), p3⟩
  · have q' := e2.mp q
    have z : g1 - 1 = 0 := (own_eqz _).mpr (by rw [hs1]; omega)
    rw [if_pos z, ht] at a1
    exact ⟨h1.symm.trans a1, (own_eqz _).mpr (by omega)⟩
  · have q' : ¬ n.toInt = 2 := fun w => q (e2.mpr w)
    have z : ¬ g1 - 1 = 0 := fun w => by have := (own_eqz _).mp w; omega
    rw [if_neg z] at a1
    exact ⟨h1.symm.trans a1, by omega⟩
/-- a further byte, under 128 .. 191 -/
theorem own_rn (s c : Int32) (hs : 0 ≤ s.toInt ∧ s.toInt < 256) (g w x : Int32) (hgp : 0 < g.toInt) (hw : w = 128) (hx : x = 191) {r g' w' x' c' : Int32} (h1 : f_take g w x c s.toInt8.toInt32 = r) (hg : g' = f_take_left g w x c s.toInt8.toInt32) (hw' : w' = f_take_low g w x c s.toInt8.toInt32) (hx' : x' = f_take_high g w x c s.toInt8.toInt32) (hc' : c' = f_take_codePoint g w x c s.toInt8.toInt32) :
    (¬ (s >>> ((6 : Int32) &&& 31)) = (2 : Int32) → r = -3 ∧ g' = 0) ∧ ((s >>> ((6 : Int32) &&& 31)) = (2 : Int32) → (g.toInt = 1 → r = ((c <<< ((6 : Int32) &&& 31)) ||| (s &&& (63 : Int32))) ∧ g' = 0) ∧ (¬ g.toInt = 1 → r = -1 ∧ 0 < g'.toInt) ∧ g'.toInt = g.toInt - 1 ∧ w' = 128 ∧ x' = 191 ∧ c' = ((c <<< ((6 : Int32) &&& 31)) ||| (s &&& (63 : Int32)))) := by
  have hgl : 0 < g := by rw [Int32.lt_iff_toInt_lt, show (0 : Int32).toInt = 0 from by decide]; exact hgp
  have T := own_T g w x c s hs hgl
  have h6 := own_6 hs
  have hlim : (s < w ∨ x < s) ↔ ¬ (128 ≤ s.toInt ∧ s.toInt ≤ 191) := by
    rw [hw, hx, Int32.lt_iff_toInt_lt, Int32.lt_iff_toInt_lt, show (128 : Int32).toInt = 128 from by decide, show (191 : Int32).toInt = 191 from by decide]; omega
  have hs1 := own_sub1 hgp
  refine ⟨fun q => ?_, fun q => ?_⟩
  · have := T.1 (hlim.mpr (fun u => q (h6.mpr u)))
    exact ⟨h1.symm.trans this.1, hg.trans this.2⟩
  · obtain ⟨a1, a2, a3, a4, a5⟩ := T.2 (fun u => (hlim.mp u) (h6.mp q))
    have hgi : g'.toInt = g.toInt - 1 := by rw [hg, a2, hs1]
    refine ⟨fun z => ?_, fun z => ?_, hgi, hw'.trans a3, hx'.trans a4, hc'.trans a5⟩
    · rw [if_pos ((own_eqz _).mpr (by rw [hs1]; omega))] at a1
      exact ⟨h1.symm.trans a1, (own_eqz _).mpr (by omega)⟩
    · rw [if_neg (fun w => by have := (own_eqz _).mp w; omega)] at a1
      exact ⟨h1.symm.trans a1, by omega⟩
end Roads
theorem own_mkS {l g1 w1 x1 c1 : Int32} (hl : 0 ≤ l.toInt ∧ l.toInt < 256) (c42 : ¬ l < 128) (c43 : ¬ f_leads l = 0) (h1 : g1 = f_take_left 0 0 0 0 l.toInt8.toInt32) (h2 : w1 = f_take_low 0 0 0 0 l.toInt8.toInt32) (h3 : x1 = f_take_high 0 0 0 0 l.toInt8.toInt32) (h4 : c1 = f_take_codePoint 0 0 0 0 l.toInt8.toInt32) : own_S l g1 w1 x1 c1 := by
  rw [h1, h2, h3, h4]; exact ((own_D l hl).2.2 c42 c43).2
theorem own_spos {l g1 w1 x1 c1 : Int32} (hS : own_S l g1 w1 x1 c1) : 0 < g1.toInt := by
  have := (own_pos hS).2.1
  rw [Int32.lt_iff_toInt_lt, show (0 : Int32).toInt = 0 from by decide] at this; exact this
theorem own_mkF1 {l s1 g1 w1 x1 c1 z46 z48 z50 z52 v54 z55 t1 ok : Int32} (hS : own_S l g1 w1 x1 c1) (hs : 0 ≤ s1.toInt ∧ s1.toInt < 256)
    (h46 : z46 = (if (l >>> ((5 : Int32) &&& 31)) = (6 : Int32) then (1 : Int32) else (0 : Int32))) (h48 : z48 = (if (l >>> ((4 : Int32) &&& 31)) = (14 : Int32) then (1 : Int32) else (0 : Int32))) (h50 : z50 = (if z46 = 0 then (if z48 = 0 then (4 : Int32) else (3 : Int32)) else (2 : Int32))) (h52 : z52 = (if z46 = 0 then (if z48 = 0 then (7 : Int32) else (15 : Int32)) else (31 : Int32))) (h54 : (l &&& z52) = v54)
    (h55 : z55 = (if (s1 >>> ((6 : Int32) &&& 31)) = (2 : Int32) then (1 : Int32) else (0 : Int32))) (h57 : ((v54 <<< ((6 : Int32) &&& 31)) ||| (s1 &&& (63 : Int32))) = t1)
    (h58 : ok = (if z50 = (2 : Int32) then z55 else (if z50 = (3 : Int32) then (if z55 = 0 then (0 : Int32) else (if t1 < (32 : Int32) then (0 : Int32) else (if t1 < (864 : Int32) then (1 : Int32) else (if (895 : Int32) < t1 then (1 : Int32) else (0 : Int32))))) else (if z55 = 0 then (0 : Int32) else (if t1 < (16 : Int32) then (0 : Int32) else (if (271 : Int32) < t1 then (0 : Int32) else (1 : Int32))))))) : own_F1 l s1 g1 w1 x1 c1 z50 t1 ok := by
  have hn := own_nz h46 h48 h50
  have hm := own_mz h46 h48 h52
  have hc : c1 = v54 := by rw [← h54, hm]; exact hS.2.1
  have ht : ((c1 <<< ((6 : Int32) &&& 31)) ||| (s1 &&& (63 : Int32))) = t1 := by rw [hc]; exact h57
  exact ⟨hS, hn, hs, ht, own_ok hS hs hn h55 ht h58⟩
theorem own_g1 {n g : Int32} (h : g.toInt = n.toInt - 2) (c : n = 3) : g.toInt = 1 := by rw [h, c]; decide
theorem own_n3 {n g : Int32} (h : g.toInt = n.toInt - 2) (c : ¬ n = 3) : ¬ g.toInt = 1 := fun q => c (Int32.toInt_inj.mp (by rw [show (3 : Int32).toInt = 3 from by decide]; omega))
theorem own_g85 {n g g' : Int32} (h : g.toInt = n.toInt - 2) (h2 : g'.toInt = g.toInt - 1) (hn : n.toInt = 2 ∨ n.toInt = 3 ∨ n.toInt = 4) (c2 : ¬ n = 2) (c3 : ¬ n = 3) : g'.toInt = 1 := by
  have a : ¬ n.toInt = 2 := fun q => c2 (Int32.toInt_inj.mp q)
  have b : ¬ n.toInt = 3 := fun q => c3 (Int32.toInt_inj.mp q)
  omega
set_option maxRecDepth 65536 in
set_option maxHeartbeats 40000000 in
theorem rm_law (l : Launch) (Z : State) (a0 : Array Value) (hw : ∀ d ∈ tables_1, d.before a0 Z = true) (p0 : Int32) (p1 : Int32) (p2 : Int32) (p3 : Int32) (p4 : Int32) (p5 : Int32) (h0 : Heap) (n0 : Nat) (Z0 : n0 ≤ h0.size)  :
    Meets l x code maxLocals ret room_1 Z #[(.int p0), (.int p1), (.int p2), (.int p3), (.int p4), (.int p5)] h0 n0 (fun v h => v = some (Value.int 1)) := by
  refine meets_of (plainFor_of_name pn1) (Ls := #[.val (.int p0), .val (.int p1), .val (.int p2), .val (.int p3), .val (.int p4), .val (.int p5), .unset, .unset, .unset, .unset, .unset, .unset, .unset, .unset, .unset, .unset, .unset, .unset, .unset, .unset, .unset, .unset, .unset, .unset]) (fun m => by first | (simp [entryFrame, mkF, argsToLocals, Value.category, maxLocals]; done) | rfl) ?_
  intro p e s m below meth c K
  replace K : Kx Z "com/example/gapwise/gapwise/Utf8TakePinLaw" "law" code maxLocals ret p s m meth c := K
  obtain ⟨Q, hQ⟩ : ∃ Q : Option Value → Heap → Prop, Q = (fun v h => v = some (Value.int 1)) := ⟨_, rfl⟩
  rw [← hQ]
  refine g_iloadN K 0 at_0 rfl ?_
  refine g_sipush K 1 (255 : Int32) at_1 (by decide) ?_
  refine g_iand K 4 at_4 ?_
  generalize hv1 : (p0 &&& (255 : Int32)) = v1
  refine g_istore K 5 #[.val (.int p0), .val (.int p1), .val (.int p2), .val (.int p3), .val (.int p4), .val (.int p5), .val (.int v1), .unset, .unset, .unset, .unset, .unset, .unset, .unset, .unset, .unset, .unset, .unset, .unset, .unset, .unset, .unset, .unset, .unset] at_5 rfl ?_
  refine g_iload K 7 at_7 rfl ?_
  refine g_iconst K 9 (1 : Int32) at_9 (by decide) ?_
  refine g_iand K 10 at_10 ?_
  have J3 : ∀ (z2 : Int32), z2 = (if (p5 &&& (1 : Int32)) = 0 then (p1 &&& (255 : Int32)) else ((128 : Int32) ||| (p1 &&& (63 : Int32)))) → Go p l e room_1 s m #[(.int p0), (.int p1), (.int p2), (.int p3), (.int p4), (.int p5)] below meth c n0 Q h0 0 0 (mkF m 30 #[.val (.int p0), .val (.int p1), .val (.int p2), .val (.int p3), .val (.int p4), .val (.int p5), .val (.int v1), .unset, .unset, .unset, .unset, .unset, .unset, .unset, .unset, .unset, .unset, .unset, .unset, .unset, .unset, .unset, .unset, .unset] [(.int z2)]) := by
    intro z2 hz2
    refine g_istore K 30 #[.val (.int p0), .val (.int p1), .val (.int p2), .val (.int p3), .val (.int p4), .val (.int p5), .val (.int v1), .val (.int z2), .unset, .unset, .unset, .unset, .unset, .unset, .unset, .unset, .unset, .unset, .unset, .unset, .unset, .unset, .unset, .unset] at_30 rfl ?_
    refine g_iload K 32 at_32 rfl ?_
    refine g_iconst K 34 (2 : Int32) at_34 (by decide) ?_
    refine g_iand K 35 at_35 ?_
    have J5 : ∀ (z4 : Int32), z4 = (if (p5 &&& (2 : Int32)) = 0 then (p2 &&& (255 : Int32)) else ((128 : Int32) ||| (p2 &&& (63 : Int32)))) → Go p l e room_1 s m #[(.int p0), (.int p1), (.int p2), (.int p3), (.int p4), (.int p5)] below meth c n0 Q h0 0 0 (mkF m 55 #[.val (.int p0), .val (.int p1), .val (.int p2), .val (.int p3), .val (.int p4), .val (.int p5), .val (.int v1), .val (.int z2), .unset, .unset, .unset, .unset, .unset, .unset, .unset, .unset, .unset, .unset, .unset, .unset, .unset, .unset, .unset, .unset] [(.int z4)]) := by
      intro z4 hz4
      refine g_istore K 55 #[.val (.int p0), .val (.int p1), .val (.int p2), .val (.int p3), .val (.int p4), .val (.int p5), .val (.int v1), .val (.int z2), .val (.int z4), .unset, .unset, .unset, .unset, .unset, .unset, .unset, .unset, .unset, .unset, .unset, .unset, .unset, .unset, .unset] at_55 rfl ?_
      refine g_iload K 57 at_57 rfl ?_
      refine g_iconst K 59 (4 : Int32) at_59 (by decide) ?_
      refine g_iand K 60 at_60 ?_
      have J7 : ∀ (z6 : Int32), z6 = (if (p5 &&& (4 : Int32)) = 0 then (p3 &&& (255 : Int32)) else ((128 : Int32) ||| (p3 &&& (63 : Int32)))) → Go p l e room_1 s m #[(.int p0), (.int p1), (.int p2), (.int p3), (.int p4), (.int p5)] below meth c n0 Q h0 0 0 (mkF m 80 #[.val (.int p0), .val (.int p1), .val (.int p2), .val (.int p3), .val (.int p4), .val (.int p5), .val (.int v1), .val (.int z2), .val (.int z4), .unset, .unset, .unset, .unset, .unset, .unset, .unset, .unset, .unset, .unset, .unset, .unset, .unset, .unset, .unset] [(.int z6)]) := by
        intro z6 hz6
        refine g_istore K 80 #[.val (.int p0), .val (.int p1), .val (.int p2), .val (.int p3), .val (.int p4), .val (.int p5), .val (.int v1), .val (.int z2), .val (.int z4), .val (.int z6), .unset, .unset, .unset, .unset, .unset, .unset, .unset, .unset, .unset, .unset, .unset, .unset, .unset, .unset] at_80 rfl ?_
        refine g_iload K 82 at_82 rfl ?_
        refine g_sipush K 84 (255 : Int32) at_84 (by decide) ?_
        refine g_iand K 87 at_87 ?_
        generalize hv8 : (p4 &&& (255 : Int32)) = v8
        refine g_istore K 88 #[.val (.int p0), .val (.int p1), .val (.int p2), .val (.int p3), .val (.int p4), .val (.int p5), .val (.int v1), .val (.int z2), .val (.int z4), .val (.int z6), .val (.int v8), .unset, .unset, .unset, .unset, .unset, .unset, .unset, .unset, .unset, .unset, .unset, .unset, .unset] at_88 rfl ?_
        refine g_new K 90 at_90 (tw hw 0 rfl) (tw hw 1 rfl) (tw hw 2 rfl) (by decide) (by decide) ?_
        intro h10 a9 eq14 Kp11 E12 D13
        have g15 : n0 ≤ a9 := eq14 ▸ Z0
        have Z16 := Nat.le_trans Z0 Kp11.1
        have F17 : Fld Z h10 a9 "com/example/gapwise/gapwise/Term$Utf8" "left" "I" (.int (0 : Int32)) := D13 (Or.inl (tw hw 15 rfl)) (ty := .int) (by decide)
        have F18 : Fld Z h10 a9 "com/example/gapwise/gapwise/Term$Utf8" "codePoint" "I" (.int (0 : Int32)) := D13 (Or.inl (tw hw 32 rfl)) (ty := .int) (by decide)
        have F19 : Fld Z h10 a9 "com/example/gapwise/gapwise/Term$Utf8" "low" "I" (.int (0 : Int32)) := D13 (Or.inl (tw hw 34 rfl)) (ty := .int) (by decide)
        have F20 : Fld Z h10 a9 "com/example/gapwise/gapwise/Term$Utf8" "high" "I" (.int (0 : Int32)) := D13 (Or.inl (tw hw 36 rfl)) (ty := .int) (by decide)
        refine g_dup K 93 at_93 rfl ?_
        refine g_callN K 94 [] 1 at_94 (rm_init l Z a0 hw a9 h10 n0 Z16  E12 g15 F17 F19 F20 F18 ) rfl (tw hw 3 rfl) (tw hw 4 rfl) (tw hw 2 rfl) (tw hw 5 rfl) (by decide) pd0 rfl (st := [(.ref a9)]) rfl (Nat.le_of_eq rfl) rfl (by decide) (by decide) (by decide) (by decide) ?_
        rintro _ h21 ⟨hv, Kp22, E23, F24, F25, F26, F27⟩
        rw [hv]
        clear hv
        have Z28 := Nat.le_trans Z16 Kp22.1
        refine go_cast (k' := (0 + 1)) (n' := (0 + 4)) (st' := [(.ref a9)]) rfl rfl rfl ?_
        refine g_astore K 97 #[.val (.int p0), .val (.int p1), .val (.int p2), .val (.int p3), .val (.int p4), .val (.int p5), .val (.int v1), .val (.int z2), .val (.int z4), .val (.int z6), .val (.int v8), .val (.ref a9), .unset, .unset, .unset, .unset, .unset, .unset, .unset, .unset, .unset, .unset, .unset, .unset] at_97 rfl rfl ?_
        refine g_aload K 99 at_99 rfl rfl ?_
        refine g_iload K 101 at_101 rfl ?_
        refine g_i2b K 103 at_103 ?_
        refine g_callV K 104 [(.int v1.toInt8.toInt32)] 0 at_104 (rm_take l Z a0 hw a9 v1.toInt8.toInt32 h21 n0 Z28 (0 : Int32) (0 : Int32) (0 : Int32) (0 : Int32) E23 g15 F24 F25 F26 F27 ) E23 (tw hw 9 rfl) (tw hw 10 rfl) (tw hw 12 rfl) (tw hw 12 rfl) (tw hw 11 rfl) (tw hw 2 rfl) (tw hw 13 rfl) (by decide) pd1 rfl (st := []) rfl (Nat.le_of_eq rfl) rfl (by decide) (by decide) (by decide) (by decide) ?_
        rintro _ h29 ⟨hv, Kp30, E31, F32, F33, F34, F35⟩
        rw [hv]
        clear hv
        have Z36 := Nat.le_trans Z28 Kp30.1
        refine go_cast (k' := (0 + 1)) (n' := (0 + 4)) (st' := [(.int (f_take (0 : Int32) (0 : Int32) (0 : Int32) (0 : Int32) v1.toInt8.toInt32))]) rfl rfl rfl ?_
        obtain ⟨g37, hg37⟩ : ∃ y : Int32, y = (f_take_left (0 : Int32) (0 : Int32) (0 : Int32) (0 : Int32) v1.toInt8.toInt32) := ⟨_, rfl⟩
        rw [← hg37] at F32
        obtain ⟨g38, hg38⟩ : ∃ y : Int32, y = (f_take_low (0 : Int32) (0 : Int32) (0 : Int32) (0 : Int32) v1.toInt8.toInt32) := ⟨_, rfl⟩
        rw [← hg38] at F33
        obtain ⟨g39, hg39⟩ : ∃ y : Int32, y = (f_take_high (0 : Int32) (0 : Int32) (0 : Int32) (0 : Int32) v1.toInt8.toInt32) := ⟨_, rfl⟩
        rw [← hg39] at F34
        obtain ⟨g40, hg40⟩ : ∃ y : Int32, y = (f_take_codePoint (0 : Int32) (0 : Int32) (0 : Int32) (0 : Int32) v1.toInt8.toInt32) := ⟨_, rfl⟩
        rw [← hg40] at F35
        generalize hv41 : (f_take (0 : Int32) (0 : Int32) (0 : Int32) (0 : Int32) v1.toInt8.toInt32) = v41
        refine g_istore K 107 #[.val (.int p0), .val (.int p1), .val (.int p2), .val (.int p3), .val (.int p4), .val (.int p5), .val (.int v1), .val (.int z2), .val (.int z4), .val (.int z6), .val (.int v8), .val (.ref a9), .val (.int v41), .unset, .unset, .unset, .unset, .unset, .unset, .unset, .unset, .unset, .unset, .unset] at_107 rfl ?_
        refine g_iload K 109 at_109 rfl ?_
        refine g_sipush K 111 (128 : Int32) at_111 (by decide) ?_
        refine g_ii_ge K 114 140 at_114 (by decide) (by decide) ?_ ?_
        · intro c42
          refine g_iload K 140 at_140 rfl ?_
          refine g_callS K 142 [(.int v1)] 0 at_142 (rm_leads l Z a0 hw v1 h29 n0 Z36  ) (tw hw 28 rfl) (tw hw 29 rfl) (tw hw 18 rfl) (tw hw 30 rfl) (by decide) pd5 rfl (st := []) rfl (Nat.le_of_eq rfl) rfl (by decide) (by decide) (by decide) (by decide) ?_
          rintro _ _ ⟨hv, hh⟩
          rw [hv, hh]
          clear hv hh
          refine go_cast (k' := (0 + 1)) (n' := (0 + 4)) (st' := [(.int (f_leads v1))]) rfl rfl rfl ?_
          refine g_if_ne K 145 171 at_145 (by decide) (by decide) ?_ ?_
          · intro c43
            refine g_iload K 171 at_171 rfl ?_
            refine g_iconst K 173 (-1 : Int32) at_173 (by decide) ?_
            refine g_ii_ne K 174 185 at_174 (by decide) (by decide) ?_ ?_
            · intro c44
              exfalso
              exact c44 (hv41.symm.trans ((own_D v1 (own_b1 hv1)).2.2 c42 c43).1)
            · intro c44
              refine g_aload K 177 at_177 rfl rfl ?_
              refine g_callV K 179 [] 0 at_179 (rm_idle l Z a0 hw a9 h29 n0 Z36 g37 F32) E31 (tw hw 20 rfl) (tw hw 21 rfl) (tw hw 23 rfl) (tw hw 23 rfl) (tw hw 22 rfl) (tw hw 2 rfl) (tw hw 24 rfl) (by decide) pd3 rfl (st := []) rfl (Nat.le_of_eq rfl) rfl (by decide) (by decide) (by decide) (by decide) ?_
              rintro _ _ ⟨hv, hh⟩
              rw [hv, hh]
              clear hv hh
              refine go_cast (k' := (0 + 1)) (n' := (0 + 4)) (st' := [(.int (f_idle g37))]) rfl rfl rfl ?_
              refine g_if_eq K 182 187 at_182 (by decide) (by decide) ?_ ?_
              · intro c45
                refine g_iload K 187 at_187 rfl ?_
                refine g_iconst K 189 (5 : Int32) at_189 (by decide) ?_
                refine g_ishr K 190 at_190 ?_
                refine g_bipush K 191 (6 : Int32) at_191 (by decide) ?_
                have J47 : ∀ (z46 : Int32), z46 = (if (v1 >>> ((5 : Int32) &&& 31)) = (6 : Int32) then (1 : Int32) else (0 : Int32)) → Go p l e room_1 s m #[(.int p0), (.int p1), (.int p2), (.int p3), (.int p4), (.int p5)] below meth c n0 Q h29 (0 + 1) (0 + 4) (mkF m 201 #[.val (.int p0), .val (.int p1), .val (.int p2), .val (.int p3), .val (.int p4), .val (.int p5), .val (.int v1), .val (.int z2), .val (.int z4), .val (.int z6), .val (.int v8), .val (.ref a9), .val (.int v41), .unset, .unset, .unset, .unset, .unset, .unset, .unset, .unset, .unset, .unset, .unset] [(.int z46)]) := by
                  intro z46 hz46
                  refine g_istore K 201 #[.val (.int p0), .val (.int p1), .val (.int p2), .val (.int p3), .val (.int p4), .val (.int p5), .val (.int v1), .val (.int z2), .val (.int z4), .val (.int z6), .val (.int v8), .val (.ref a9), .val (.int v41), .val (.int z46), .unset, .unset, .unset, .unset, .unset, .unset, .unset, .unset, .unset, .unset] at_201 rfl ?_
                  refine g_iload K 203 at_203 rfl ?_
                  refine g_iconst K 205 (4 : Int32) at_205 (by decide) ?_
                  refine g_ishr K 206 at_206 ?_
                  refine g_bipush K 207 (14 : Int32) at_207 (by decide) ?_
                  have J49 : ∀ (z48 : Int32), z48 = (if (v1 >>> ((4 : Int32) &&& 31)) = (14 : Int32) then (1 : Int32) else (0 : Int32)) → Go p l e room_1 s m #[(.int p0), (.int p1), (.int p2), (.int p3), (.int p4), (.int p5)] below meth c n0 Q h29 (0 + 1) (0 + 4) (mkF m 217 #[.val (.int p0), .val (.int p1), .val (.int p2), .val (.int p3), .val (.int p4), .val (.int p5), .val (.int v1), .val (.int z2), .val (.int z4), .val (.int z6), .val (.int v8), .val (.ref a9), .val (.int v41), .val (.int z46), .unset, .unset, .unset, .unset, .unset, .unset, .unset, .unset, .unset, .unset] [(.int z48)]) := by
                    intro z48 hz48
                    refine g_istore K 217 #[.val (.int p0), .val (.int p1), .val (.int p2), .val (.int p3), .val (.int p4), .val (.int p5), .val (.int v1), .val (.int z2), .val (.int z4), .val (.int z6), .val (.int v8), .val (.ref a9), .val (.int v41), .val (.int z46), .val (.int z48), .unset, .unset, .unset, .unset, .unset, .unset, .unset, .unset, .unset] at_217 rfl ?_
                    refine g_iload K 219 at_219 rfl ?_
                    have J51 : ∀ (z50 : Int32), z50 = (if z46 = 0 then (if z48 = 0 then (4 : Int32) else (3 : Int32)) else (2 : Int32)) → Go p l e room_1 s m #[(.int p0), (.int p1), (.int p2), (.int p3), (.int p4), (.int p5)] below meth c n0 Q h29 (0 + 1) (0 + 4) (mkF m 238 #[.val (.int p0), .val (.int p1), .val (.int p2), .val (.int p3), .val (.int p4), .val (.int p5), .val (.int v1), .val (.int z2), .val (.int z4), .val (.int z6), .val (.int v8), .val (.ref a9), .val (.int v41), .val (.int z46), .val (.int z48), .unset, .unset, .unset, .unset, .unset, .unset, .unset, .unset, .unset] [(.int z50)]) := by
                      intro z50 hz50
                      refine g_istore K 238 #[.val (.int p0), .val (.int p1), .val (.int p2), .val (.int p3), .val (.int p4), .val (.int p5), .val (.int v1), .val (.int z2), .val (.int z4), .val (.int z6), .val (.int v8), .val (.ref a9), .val (.int v41), .val (.int z46), .val (.int z48), .val (.int z50), .unset, .unset, .unset, .unset, .unset, .unset, .unset, .unset] at_238 rfl ?_
                      refine g_iload K 240 at_240 rfl ?_
                      refine g_iload K 242 at_242 rfl ?_
                      have J53 : ∀ (z52 : Int32), z52 = (if z46 = 0 then (if z48 = 0 then (7 : Int32) else (15 : Int32)) else (31 : Int32)) → Go p l e room_1 s m #[(.int p0), (.int p1), (.int p2), (.int p3), (.int p4), (.int p5)] below meth c n0 Q h29 (0 + 1) (0 + 4) (mkF m 264 #[.val (.int p0), .val (.int p1), .val (.int p2), .val (.int p3), .val (.int p4), .val (.int p5), .val (.int v1), .val (.int z2), .val (.int z4), .val (.int z6), .val (.int v8), .val (.ref a9), .val (.int v41), .val (.int z46), .val (.int z48), .val (.int z50), .unset, .unset, .unset, .unset, .unset, .unset, .unset, .unset] [(.int z52), (.int v1)]) := by
                        intro z52 hz52
                        refine g_iand K 264 at_264 ?_
                        generalize hv54 : (v1 &&& z52) = v54
                        refine g_istore K 265 #[.val (.int p0), .val (.int p1), .val (.int p2), .val (.int p3), .val (.int p4), .val (.int p5), .val (.int v1), .val (.int z2), .val (.int z4), .val (.int z6), .val (.int v8), .val (.ref a9), .val (.int v41), .val (.int z46), .val (.int z48), .val (.int z50), .val (.int v54), .unset, .unset, .unset, .unset, .unset, .unset, .unset] at_265 rfl ?_
                        refine g_iload K 267 at_267 rfl ?_
                        refine g_bipush K 269 (6 : Int32) at_269 (by decide) ?_
                        refine g_ishr K 271 at_271 ?_
                        refine g_iconst K 272 (2 : Int32) at_272 (by decide) ?_
                        have J56 : ∀ (z55 : Int32), z55 = (if (z2 >>> ((6 : Int32) &&& 31)) = (2 : Int32) then (1 : Int32) else (0 : Int32)) → Go p l e room_1 s m #[(.int p0), (.int p1), (.int p2), (.int p3), (.int p4), (.int p5)] below meth c n0 Q h29 (0 + 1) (0 + 4) (mkF m 281 #[.val (.int p0), .val (.int p1), .val (.int p2), .val (.int p3), .val (.int p4), .val (.int p5), .val (.int v1), .val (.int z2), .val (.int z4), .val (.int z6), .val (.int v8), .val (.ref a9), .val (.int v41), .val (.int z46), .val (.int z48), .val (.int z50), .val (.int v54), .unset, .unset, .unset, .unset, .unset, .unset, .unset] [(.int z55)]) := by
                          intro z55 hz55
                          refine g_istore K 281 #[.val (.int p0), .val (.int p1), .val (.int p2), .val (.int p3), .val (.int p4), .val (.int p5), .val (.int v1), .val (.int z2), .val (.int z4), .val (.int z6), .val (.int v8), .val (.ref a9), .val (.int v41), .val (.int z46), .val (.int z48), .val (.int z50), .val (.int v54), .val (.int z55), .unset, .unset, .unset, .unset, .unset, .unset] at_281 rfl ?_
                          refine g_iload K 283 at_283 rfl ?_
                          refine g_bipush K 285 (6 : Int32) at_285 (by decide) ?_
                          refine g_ishl K 287 at_287 ?_
                          refine g_iload K 288 at_288 rfl ?_
                          refine g_bipush K 290 (63 : Int32) at_290 (by decide) ?_
                          refine g_iand K 292 at_292 ?_
                          refine g_ior K 293 at_293 ?_
                          generalize hv57 : ((v54 <<< ((6 : Int32) &&& 31)) ||| (z2 &&& (63 : Int32))) = v57
                          refine g_istore K 294 #[.val (.int p0), .val (.int p1), .val (.int p2), .val (.int p3), .val (.int p4), .val (.int p5), .val (.int v1), .val (.int z2), .val (.int z4), .val (.int z6), .val (.int v8), .val (.ref a9), .val (.int v41), .val (.int z46), .val (.int z48), .val (.int z50), .val (.int v54), .val (.int z55), .val (.int v57), .unset, .unset, .unset, .unset, .unset] at_294 rfl ?_
                          refine g_iload K 296 at_296 rfl ?_
                          refine g_iconst K 298 (2 : Int32) at_298 (by decide) ?_
                          have J59 : ∀ (z58 : Int32), z58 = (if z50 = (2 : Int32) then z55 else (if z50 = (3 : Int32) then (if z55 = 0 then (0 : Int32) else (if v57 < (32 : Int32) then (0 : Int32) else (if v57 < (864 : Int32) then (1 : Int32) else (if (895 : Int32) < v57 then (1 : Int32) else (0 : Int32))))) else (if z55 = 0 then (0 : Int32) else (if v57 < (16 : Int32) then (0 : Int32) else (if (271 : Int32) < v57 then (0 : Int32) else (1 : Int32)))))) → Go p l e room_1 s m #[(.int p0), (.int p1), (.int p2), (.int p3), (.int p4), (.int p5)] below meth c n0 Q h29 (0 + 1) (0 + 4) (mkF m 380 #[.val (.int p0), .val (.int p1), .val (.int p2), .val (.int p3), .val (.int p4), .val (.int p5), .val (.int v1), .val (.int z2), .val (.int z4), .val (.int z6), .val (.int v8), .val (.ref a9), .val (.int v41), .val (.int z46), .val (.int z48), .val (.int z50), .val (.int v54), .val (.int z55), .val (.int v57), .val (.int z58), .unset, .unset, .unset, .unset] []) := by
                            intro z58 hz58
                            refine g_aload K 380 at_380 rfl rfl ?_
                            refine g_iload K 382 at_382 rfl ?_
                            refine g_i2b K 384 at_384 ?_
                            refine g_callV K 385 [(.int z2.toInt8.toInt32)] 0 at_385 (rm_take l Z a0 hw a9 z2.toInt8.toInt32 h29 n0 Z36 g37 g38 g39 g40 E31 g15 F32 F33 F34 F35 ) E31 (tw hw 9 rfl) (tw hw 10 rfl) (tw hw 12 rfl) (tw hw 12 rfl) (tw hw 11 rfl) (tw hw 2 rfl) (tw hw 13 rfl) (by decide) pd1 rfl (st := []) rfl (Nat.le_of_eq rfl) rfl (by decide) (by decide) (by decide) (by decide) ?_
                            rintro _ h60 ⟨hv, Kp61, E62, F63, F64, F65, F66⟩
                            rw [hv]
                            clear hv
                            have Z67 := Nat.le_trans Z36 Kp61.1
                            refine go_cast (k' := (0 + 1)) (n' := (0 + 4)) (st' := [(.int (f_take g37 g38 g39 g40 z2.toInt8.toInt32))]) rfl rfl rfl ?_
                            obtain ⟨g68, hg68⟩ : ∃ y : Int32, y = (f_take_left g37 g38 g39 g40 z2.toInt8.toInt32) := ⟨_, rfl⟩
                            rw [← hg68] at F63
                            obtain ⟨g69, hg69⟩ : ∃ y : Int32, y = (f_take_low g37 g38 g39 g40 z2.toInt8.toInt32) := ⟨_, rfl⟩
                            rw [← hg69] at F64
                            obtain ⟨g70, hg70⟩ : ∃ y : Int32, y = (f_take_high g37 g38 g39 g40 z2.toInt8.toInt32) := ⟨_, rfl⟩
                            rw [← hg70] at F65
                            obtain ⟨g71, hg71⟩ : ∃ y : Int32, y = (f_take_codePoint g37 g38 g39 g40 z2.toInt8.toInt32) := ⟨_, rfl⟩
                            rw [← hg71] at F66
                            generalize hv72 : (f_take g37 g38 g39 g40 z2.toInt8.toInt32) = v72
                            refine g_istore K 388 #[.val (.int p0), .val (.int p1), .val (.int p2), .val (.int p3), .val (.int p4), .val (.int p5), .val (.int v1), .val (.int z2), .val (.int z4), .val (.int z6), .val (.int v8), .val (.ref a9), .val (.int v41), .val (.int z46), .val (.int z48), .val (.int z50), .val (.int v54), .val (.int z55), .val (.int v57), .val (.int z58), .val (.int v72), .unset, .unset, .unset] at_388 rfl ?_
                            refine g_iload K 390 at_390 rfl ?_
                            refine g_if_ne K 392 418 at_392 (by decide) (by decide) ?_ ?_
                            · intro c73
                              refine g_iload K 418 at_418 rfl ?_
                              refine g_iconst K 420 (2 : Int32) at_420 (by decide) ?_
                              refine g_ii_ne K 421 447 at_421 (by decide) (by decide) ?_ ?_
                              · intro c74
                                refine g_iload K 447 at_447 rfl ?_
                                refine g_iconst K 449 (-1 : Int32) at_449 (by decide) ?_
                                refine g_ii_ne K 450 461 at_450 (by decide) (by decide) ?_ ?_
                                · intro c75
                                  exfalso
                                  exact c75 ((own_r1ok (own_mkF1 (own_mkS (own_b1 hv1) c42 c43 hg37 hg38 hg39 hg40) (own_b2 hz2) hz46 hz48 hz50 hz52 hv54 hz55 hv57 hz58) hv72 hg68 hg69 hg70 hg71 c73).2.1 c74).1
                                · intro c75
                                  refine g_aload K 453 at_453 rfl rfl ?_
                                  refine g_callV K 455 [] 0 at_455 (rm_idle l Z a0 hw a9 h60 n0 Z67 g68 F63) E62 (tw hw 20 rfl) (tw hw 21 rfl) (tw hw 23 rfl) (tw hw 23 rfl) (tw hw 22 rfl) (tw hw 2 rfl) (tw hw 24 rfl) (by decide) pd3 rfl (st := []) rfl (Nat.le_of_eq rfl) rfl (by decide) (by decide) (by decide) (by decide) ?_
                                  rintro _ _ ⟨hv, hh⟩
                                  rw [hv, hh]
                                  clear hv hh
                                  refine go_cast (k' := (0 + 1)) (n' := (0 + 4)) (st' := [(.int (f_idle g68))]) rfl rfl rfl ?_
                                  refine g_if_eq K 458 463 at_458 (by decide) (by decide) ?_ ?_
                                  · intro c76
                                    refine g_aload K 463 at_463 rfl rfl ?_
                                    refine g_iload K 465 at_465 rfl ?_
                                    refine g_i2b K 467 at_467 ?_
                                    refine g_callV K 468 [(.int z4.toInt8.toInt32)] 0 at_468 (rm_take l Z a0 hw a9 z4.toInt8.toInt32 h60 n0 Z67 g68 g69 g70 g71 E62 g15 F63 F64 F65 F66 ) E62 (tw hw 9 rfl) (tw hw 10 rfl) (tw hw 12 rfl) (tw hw 12 rfl) (tw hw 11 rfl) (tw hw 2 rfl) (tw hw 13 rfl) (by decide) pd1 rfl (st := []) rfl (Nat.le_of_eq rfl) rfl (by decide) (by decide) (by decide) (by decide) ?_
                                    rintro _ h77 ⟨hv, Kp78, E79, F80, F81, F82, F83⟩
                                    rw [hv]
                                    clear hv
                                    have Z84 := Nat.le_trans Z67 Kp78.1
                                    refine go_cast (k' := (0 + 1)) (n' := (0 + 4)) (st' := [(.int (f_take g68 g69 g70 g71 z4.toInt8.toInt32))]) rfl rfl rfl ?_
                                    obtain ⟨g85, hg85⟩ : ∃ y : Int32, y = (f_take_left g68 g69 g70 g71 z4.toInt8.toInt32) := ⟨_, rfl⟩
                                    rw [← hg85] at F80
                                    obtain ⟨g86, hg86⟩ : ∃ y : Int32, y = (f_take_low g68 g69 g70 g71 z4.toInt8.toInt32) := ⟨_, rfl⟩
                                    rw [← hg86] at F81
                                    obtain ⟨g87, hg87⟩ : ∃ y : Int32, y = (f_take_high g68 g69 g70 g71 z4.toInt8.toInt32) := ⟨_, rfl⟩
                                    rw [← hg87] at F82
                                    obtain ⟨g88, hg88⟩ : ∃ y : Int32, y = (f_take_codePoint g68 g69 g70 g71 z4.toInt8.toInt32) := ⟨_, rfl⟩
                                    rw [← hg88] at F83
                                    generalize hv89 : (f_take g68 g69 g70 g71 z4.toInt8.toInt32) = v89
                                    refine g_istore K 471 #[.val (.int p0), .val (.int p1), .val (.int p2), .val (.int p3), .val (.int p4), .val (.int p5), .val (.int v1), .val (.int z2), .val (.int z4), .val (.int z6), .val (.int v8), .val (.ref a9), .val (.int v41), .val (.int z46), .val (.int z48), .val (.int z50), .val (.int v54), .val (.int z55), .val (.int v57), .val (.int z58), .val (.int v72), .val (.int v89), .unset, .unset] at_471 rfl ?_
                                    refine g_iload K 473 at_473 rfl ?_
                                    refine g_bipush K 475 (6 : Int32) at_475 (by decide) ?_
                                    refine g_ishr K 477 at_477 ?_
                                    refine g_iconst K 478 (2 : Int32) at_478 (by decide) ?_
                                    refine g_ii_eq K 479 505 at_479 (by decide) (by decide) ?_ ?_
                                    · intro c90
                                      refine g_iload K 505 at_505 rfl ?_
                                      refine g_bipush K 507 (6 : Int32) at_507 (by decide) ?_
                                      refine g_ishl K 509 at_509 ?_
                                      refine g_iload K 510 at_510 rfl ?_
                                      refine g_bipush K 512 (63 : Int32) at_512 (by decide) ?_
                                      refine g_iand K 514 at_514 ?_
                                      refine g_ior K 515 at_515 ?_
                                      generalize hv91 : ((v57 <<< ((6 : Int32) &&& 31)) ||| (z4 &&& (63 : Int32))) = v91
                                      refine g_istore K 516 #[.val (.int p0), .val (.int p1), .val (.int p2), .val (.int p3), .val (.int p4), .val (.int p5), .val (.int v1), .val (.int z2), .val (.int z4), .val (.int z6), .val (.int v8), .val (.ref a9), .val (.int v41), .val (.int z46), .val (.int z48), .val (.int z50), .val (.int v54), .val (.int z55), .val (.int v57), .val (.int z58), .val (.int v72), .val (.int v89), .val (.int v91), .unset] at_516 rfl ?_
                                      refine g_iload K 518 at_518 rfl ?_
                                      refine g_iconst K 520 (3 : Int32) at_520 (by decide) ?_
                                      refine g_ii_ne K 521 547 at_521 (by decide) (by decide) ?_ ?_
                                      · intro c92
                                        refine g_iload K 547 at_547 rfl ?_
                                        refine g_iconst K 549 (-1 : Int32) at_549 (by decide) ?_
                                        refine g_ii_ne K 550 561 at_550 (by decide) (by decide) ?_ ?_
                                        · intro c93
                                          exfalso
                                          have R1 := own_r1ok (own_mkF1 (own_mkS (own_b1 hv1) c42 c43 hg37 hg38 hg39 hg40) (own_b2 hz2) hz46 hz48 hz50 hz52 hv54 hz55 hv57 hz58) hv72 hg68 hg69 hg70 hg71 c73; have RN := own_rn z4 g71 (own_b2 hz4) g68 g69 g70 (R1.2.1 c74).2 R1.2.2.2.1 R1.2.2.2.2.1 hv89 hg85 hg86 hg87 hg88; exact c93 ((RN.2 c90).2.1 (own_n3 R1.2.2.1 c92)).1
                                        · intro c93
                                          refine g_aload K 553 at_553 rfl rfl ?_
                                          refine g_callV K 555 [] 0 at_555 (rm_idle l Z a0 hw a9 h77 n0 Z84 g85 F80) E79 (tw hw 20 rfl) (tw hw 21 rfl) (tw hw 23 rfl) (tw hw 23 rfl) (tw hw 22 rfl) (tw hw 2 rfl) (tw hw 24 rfl) (by decide) pd3 rfl (st := []) rfl (Nat.le_of_eq rfl) rfl (by decide) (by decide) (by decide) (by decide) ?_
                                          rintro _ _ ⟨hv, hh⟩
                                          rw [hv, hh]
                                          clear hv hh
                                          refine go_cast (k' := (0 + 1)) (n' := (0 + 4)) (st' := [(.int (f_idle g85))]) rfl rfl rfl ?_
                                          refine g_if_eq K 558 563 at_558 (by decide) (by decide) ?_ ?_
                                          · intro c94
                                            refine g_aload K 563 at_563 rfl rfl ?_
                                            refine g_iload K 565 at_565 rfl ?_
                                            refine g_i2b K 567 at_567 ?_
                                            refine g_callV K 568 [(.int z6.toInt8.toInt32)] 0 at_568 (rm_take l Z a0 hw a9 z6.toInt8.toInt32 h77 n0 Z84 g85 g86 g87 g88 E79 g15 F80 F81 F82 F83 ) E79 (tw hw 9 rfl) (tw hw 10 rfl) (tw hw 12 rfl) (tw hw 12 rfl) (tw hw 11 rfl) (tw hw 2 rfl) (tw hw 13 rfl) (by decide) pd1 rfl (st := []) rfl (Nat.le_of_eq rfl) rfl (by decide) (by decide) (by decide) (by decide) ?_
                                            rintro _ h95 ⟨hv, Kp96, E97, F98, F99, F100, F101⟩
                                            rw [hv]
                                            clear hv
                                            have Z102 := Nat.le_trans Z84 Kp96.1
                                            refine go_cast (k' := (0 + 1)) (n' := (0 + 4)) (st' := [(.int (f_take g85 g86 g87 g88 z6.toInt8.toInt32))]) rfl rfl rfl ?_
                                            obtain ⟨g103, hg103⟩ : ∃ y : Int32, y = (f_take_left g85 g86 g87 g88 z6.toInt8.toInt32) := ⟨_, rfl⟩
                                            rw [← hg103] at F98
                                            obtain ⟨g104, hg104⟩ : ∃ y : Int32, y = (f_take_low g85 g86 g87 g88 z6.toInt8.toInt32) := ⟨_, rfl⟩
                                            rw [← hg104] at F99
                                            obtain ⟨g105, hg105⟩ : ∃ y : Int32, y = (f_take_high g85 g86 g87 g88 z6.toInt8.toInt32) := ⟨_, rfl⟩
                                            rw [← hg105] at F100
                                            obtain ⟨g106, hg106⟩ : ∃ y : Int32, y = (f_take_codePoint g85 g86 g87 g88 z6.toInt8.toInt32) := ⟨_, rfl⟩
                                            rw [← hg106] at F101
                                            generalize hv107 : (f_take g85 g86 g87 g88 z6.toInt8.toInt32) = v107
                                            refine g_istore K 571 #[.val (.int p0), .val (.int p1), .val (.int p2), .val (.int p3), .val (.int p4), .val (.int p5), .val (.int v1), .val (.int z2), .val (.int z4), .val (.int z6), .val (.int v8), .val (.ref a9), .val (.int v41), .val (.int z46), .val (.int z48), .val (.int z50), .val (.int v54), .val (.int z55), .val (.int v57), .val (.int z58), .val (.int v72), .val (.int v89), .val (.int v91), .val (.int v107)] at_571 rfl ?_
                                            refine g_iload K 573 at_573 rfl ?_
                                            refine g_bipush K 575 (6 : Int32) at_575 (by decide) ?_
                                            refine g_ishr K 577 at_577 ?_
                                            refine g_iconst K 578 (2 : Int32) at_578 (by decide) ?_
                                            refine g_ii_eq K 579 605 at_579 (by decide) (by decide) ?_ ?_
                                            · intro c108
                                              refine g_iload K 605 at_605 rfl ?_
                                              refine g_iload K 607 at_607 rfl ?_
                                              refine g_bipush K 609 (6 : Int32) at_609 (by decide) ?_
                                              refine g_ishl K 611 at_611 ?_
                                              refine g_iload K 612 at_612 rfl ?_
                                              refine g_bipush K 614 (63 : Int32) at_614 (by decide) ?_
                                              refine g_iand K 616 at_616 ?_
                                              refine g_ior K 617 at_617 ?_
                                              refine g_ii_ne K 618 635 at_618 (by decide) (by decide) ?_ ?_
                                              · intro c109
                                                exfalso
                                                have R1 := own_r1ok (own_mkF1 (own_mkS (own_b1 hv1) c42 c43 hg37 hg38 hg39 hg40) (own_b2 hz2) hz46 hz48 hz50 hz52 hv54 hz55 hv57 hz58) hv72 hg68 hg69 hg70 hg71 c73; have RN := own_rn z4 g71 (own_b2 hz4) g68 g69 g70 (R1.2.1 c74).2 R1.2.2.2.1 R1.2.2.2.2.1 hv89 hg85 hg86 hg87 hg88; have Q := RN.2 c90; have RM := own_rn z6 g88 (own_b2 hz6) g85 g86 g87 (Q.2.1 (own_n3 R1.2.2.1 c92)).2 Q.2.2.2.1 Q.2.2.2.2.1 hv107 hg103 hg104 hg105 hg106; exact c109 (((RM.2 c108).1 (own_g85 R1.2.2.1 Q.2.2.1 R1.2.2.2.2.2.2 c74 c92)).1.trans (by rw [Q.2.2.2.2.2, R1.2.2.2.2.2.1, hv91]))
                                              · intro c109
                                                refine g_aload K 621 at_621 rfl rfl ?_
                                                refine g_iload K 623 at_623 rfl ?_
                                                refine g_callS K 625 [(.ref a9), (.int v8)] 0 at_625 (rm_after l Z a0 hw a9 v8 h95 n0 Z102 g103 g104 g105 g106 E97 g15 F98 F99 F100 F101 ) (tw hw 16 rfl) (tw hw 17 rfl) (tw hw 18 rfl) (tw hw 19 rfl) (by decide) pd2 rfl (st := []) rfl (Nat.le_of_eq rfl) rfl (by decide) (by decide) (by decide) (by decide) ?_
                                                rintro _ h110 ⟨hv, Kp111, E112⟩
                                                rw [hv]
                                                clear hv
                                                have Z113 := Nat.le_trans Z102 Kp111.1
                                                refine go_cast (k' := (0 + 1)) (n' := (0 + 4)) (st' := [(.int (f_after g103 g104 g105 g106 v8))]) rfl rfl rfl ?_
                                                refine g_if_eq K 628 635 at_628 (by decide) (by decide) ?_ ?_
                                                · intro c114
                                                  exfalso
                                                  have R1 := own_r1ok (own_mkF1 (own_mkS (own_b1 hv1) c42 c43 hg37 hg38 hg39 hg40) (own_b2 hz2) hz46 hz48 hz50 hz52 hv54 hz55 hv57 hz58) hv72 hg68 hg69 hg70 hg71 c73; have RN := own_rn z4 g71 (own_b2 hz4) g68 g69 g70 (R1.2.1 c74).2 R1.2.2.2.1 R1.2.2.2.2.1 hv89 hg85 hg86 hg87 hg88; have Q := RN.2 c90; have RM := own_rn z6 g88 (own_b2 hz6) g85 g86 g87 (Q.2.1 (own_n3 R1.2.2.1 c92)).2 Q.2.2.2.1 Q.2.2.2.2.1 hv107 hg103 hg104 hg105 hg106; exact own_dead _ _ _ _ _ (own_b1 hv8) ((RM.2 c108).1 (own_g85 R1.2.2.1 Q.2.2.1 R1.2.2.2.2.2.2 c74 c92)).2 c114
                                                · intro c114
                                                  refine g_iconst K 631 (1 : Int32) at_631 (by decide) ?_
                                                  refine g_goto K 632 636 at_632 (by decide) (by decide) ?_
                                                  refine g_retN K 636 .boolean at_636 rfl (by simp) (by decide) (by decide) ?_
                                                  rw [hQ]
                                                  rfl
                                            · intro c108
                                              refine g_iload K 582 at_582 rfl ?_
                                              refine g_bipush K 584 (-3 : Int32) at_584 (by decide) ?_
                                              refine g_ii_ne K 586 603 at_586 (by decide) (by decide) ?_ ?_
                                              · intro c115
                                                exfalso
                                                have R1 := own_r1ok (own_mkF1 (own_mkS (own_b1 hv1) c42 c43 hg37 hg38 hg39 hg40) (own_b2 hz2) hz46 hz48 hz50 hz52 hv54 hz55 hv57 hz58) hv72 hg68 hg69 hg70 hg71 c73; have RN := own_rn z4 g71 (own_b2 hz4) g68 g69 g70 (R1.2.1 c74).2 R1.2.2.2.1 R1.2.2.2.2.1 hv89 hg85 hg86 hg87 hg88; have Q := RN.2 c90; have RM := own_rn z6 g88 (own_b2 hz6) g85 g86 g87 (Q.2.1 (own_n3 R1.2.2.1 c92)).2 Q.2.2.2.1 Q.2.2.2.2.1 hv107 hg103 hg104 hg105 hg106; exact c115 (RM.1 c108).1
                                              · intro c115
                                                refine g_aload K 589 at_589 rfl rfl ?_
                                                refine g_iload K 591 at_591 rfl ?_
                                                refine g_callS K 593 [(.ref a9), (.int v8)] 0 at_593 (rm_after l Z a0 hw a9 v8 h95 n0 Z102 g103 g104 g105 g106 E97 g15 F98 F99 F100 F101 ) (tw hw 16 rfl) (tw hw 17 rfl) (tw hw 18 rfl) (tw hw 19 rfl) (by decide) pd2 rfl (st := []) rfl (Nat.le_of_eq rfl) rfl (by decide) (by decide) (by decide) (by decide) ?_
                                                rintro _ h116 ⟨hv, Kp117, E118⟩
                                                rw [hv]
                                                clear hv
                                                have Z119 := Nat.le_trans Z102 Kp117.1
                                                refine go_cast (k' := (0 + 1)) (n' := (0 + 4)) (st' := [(.int (f_after g103 g104 g105 g106 v8))]) rfl rfl rfl ?_
                                                refine g_if_eq K 596 603 at_596 (by decide) (by decide) ?_ ?_
                                                · intro c120
                                                  exfalso
                                                  have R1 := own_r1ok (own_mkF1 (own_mkS (own_b1 hv1) c42 c43 hg37 hg38 hg39 hg40) (own_b2 hz2) hz46 hz48 hz50 hz52 hv54 hz55 hv57 hz58) hv72 hg68 hg69 hg70 hg71 c73; have RN := own_rn z4 g71 (own_b2 hz4) g68 g69 g70 (R1.2.1 c74).2 R1.2.2.2.1 R1.2.2.2.2.1 hv89 hg85 hg86 hg87 hg88; have Q := RN.2 c90; have RM := own_rn z6 g88 (own_b2 hz6) g85 g86 g87 (Q.2.1 (own_n3 R1.2.2.1 c92)).2 Q.2.2.2.1 Q.2.2.2.2.1 hv107 hg103 hg104 hg105 hg106; exact own_dead _ _ _ _ _ (own_b1 hv8) (RM.1 c108).2 c120
                                                · intro c120
                                                  refine g_iconst K 599 (1 : Int32) at_599 (by decide) ?_
                                                  refine g_goto K 600 604 at_600 (by decide) (by decide) ?_
                                                  refine g_retN K 604 .boolean at_604 rfl (by simp) (by decide) (by decide) ?_
                                                  rw [hQ]
                                                  rfl
                                          · intro c94
                                            exfalso
                                            have R1 := own_r1ok (own_mkF1 (own_mkS (own_b1 hv1) c42 c43 hg37 hg38 hg39 hg40) (own_b2 hz2) hz46 hz48 hz50 hz52 hv54 hz55 hv57 hz58) hv72 hg68 hg69 hg70 hg71 c73; have RN := own_rn z4 g71 (own_b2 hz4) g68 g69 g70 (R1.2.1 c74).2 R1.2.2.2.1 R1.2.2.2.2.1 hv89 hg85 hg86 hg87 hg88; exact c94 (own_idle ((RN.2 c90).2.1 (own_n3 R1.2.2.1 c92)).2)
                                      · intro c92
                                        refine g_iload K 524 at_524 rfl ?_
                                        refine g_iload K 526 at_526 rfl ?_
                                        refine g_ii_ne K 528 545 at_528 (by decide) (by decide) ?_ ?_
                                        · intro c121
                                          exfalso
                                          have R1 := own_r1ok (own_mkF1 (own_mkS (own_b1 hv1) c42 c43 hg37 hg38 hg39 hg40) (own_b2 hz2) hz46 hz48 hz50 hz52 hv54 hz55 hv57 hz58) hv72 hg68 hg69 hg70 hg71 c73; have RN := own_rn z4 g71 (own_b2 hz4) g68 g69 g70 (R1.2.1 c74).2 R1.2.2.2.1 R1.2.2.2.2.1 hv89 hg85 hg86 hg87 hg88; exact c121 (((RN.2 c90).1 (own_g1 R1.2.2.1 c92)).1.trans (by rw [R1.2.2.2.2.2.1]; exact hv91))
                                        · intro c121
                                          refine g_aload K 531 at_531 rfl rfl ?_
                                          refine g_iload K 533 at_533 rfl ?_
                                          refine g_callS K 535 [(.ref a9), (.int v8)] 0 at_535 (rm_after l Z a0 hw a9 v8 h77 n0 Z84 g85 g86 g87 g88 E79 g15 F80 F81 F82 F83 ) (tw hw 16 rfl) (tw hw 17 rfl) (tw hw 18 rfl) (tw hw 19 rfl) (by decide) pd2 rfl (st := []) rfl (Nat.le_of_eq rfl) rfl (by decide) (by decide) (by decide) (by decide) ?_
                                          rintro _ h122 ⟨hv, Kp123, E124⟩
                                          rw [hv]
                                          clear hv
                                          have Z125 := Nat.le_trans Z84 Kp123.1
                                          refine go_cast (k' := (0 + 1)) (n' := (0 + 4)) (st' := [(.int (f_after g85 g86 g87 g88 v8))]) rfl rfl rfl ?_
                                          refine g_if_eq K 538 545 at_538 (by decide) (by decide) ?_ ?_
                                          · intro c126
                                            exfalso
                                            have R1 := own_r1ok (own_mkF1 (own_mkS (own_b1 hv1) c42 c43 hg37 hg38 hg39 hg40) (own_b2 hz2) hz46 hz48 hz50 hz52 hv54 hz55 hv57 hz58) hv72 hg68 hg69 hg70 hg71 c73; have RN := own_rn z4 g71 (own_b2 hz4) g68 g69 g70 (R1.2.1 c74).2 R1.2.2.2.1 R1.2.2.2.2.1 hv89 hg85 hg86 hg87 hg88; exact own_dead _ _ _ _ _ (own_b1 hv8) ((RN.2 c90).1 (own_g1 R1.2.2.1 c92)).2 c126
                                          · intro c126
                                            refine g_iconst K 541 (1 : Int32) at_541 (by decide) ?_
                                            refine g_goto K 542 546 at_542 (by decide) (by decide) ?_
                                            refine g_retN K 546 .boolean at_546 rfl (by simp) (by decide) (by decide) ?_
                                            rw [hQ]
                                            rfl
                                    · intro c90
                                      refine g_iload K 482 at_482 rfl ?_
                                      refine g_bipush K 484 (-3 : Int32) at_484 (by decide) ?_
                                      refine g_ii_ne K 486 503 at_486 (by decide) (by decide) ?_ ?_
                                      · intro c127
                                        exfalso
                                        have R1 := own_r1ok (own_mkF1 (own_mkS (own_b1 hv1) c42 c43 hg37 hg38 hg39 hg40) (own_b2 hz2) hz46 hz48 hz50 hz52 hv54 hz55 hv57 hz58) hv72 hg68 hg69 hg70 hg71 c73; have RN := own_rn z4 g71 (own_b2 hz4) g68 g69 g70 (R1.2.1 c74).2 R1.2.2.2.1 R1.2.2.2.2.1 hv89 hg85 hg86 hg87 hg88; exact c127 (RN.1 c90).1
                                      · intro c127
                                        refine g_aload K 489 at_489 rfl rfl ?_
                                        refine g_iload K 491 at_491 rfl ?_
                                        refine g_callS K 493 [(.ref a9), (.int v8)] 0 at_493 (rm_after l Z a0 hw a9 v8 h77 n0 Z84 g85 g86 g87 g88 E79 g15 F80 F81 F82 F83 ) (tw hw 16 rfl) (tw hw 17 rfl) (tw hw 18 rfl) (tw hw 19 rfl) (by decide) pd2 rfl (st := []) rfl (Nat.le_of_eq rfl) rfl (by decide) (by decide) (by decide) (by decide) ?_
                                        rintro _ h128 ⟨hv, Kp129, E130⟩
                                        rw [hv]
                                        clear hv
                                        have Z131 := Nat.le_trans Z84 Kp129.1
                                        refine go_cast (k' := (0 + 1)) (n' := (0 + 4)) (st' := [(.int (f_after g85 g86 g87 g88 v8))]) rfl rfl rfl ?_
                                        refine g_if_eq K 496 503 at_496 (by decide) (by decide) ?_ ?_
                                        · intro c132
                                          exfalso
                                          have R1 := own_r1ok (own_mkF1 (own_mkS (own_b1 hv1) c42 c43 hg37 hg38 hg39 hg40) (own_b2 hz2) hz46 hz48 hz50 hz52 hv54 hz55 hv57 hz58) hv72 hg68 hg69 hg70 hg71 c73; have RN := own_rn z4 g71 (own_b2 hz4) g68 g69 g70 (R1.2.1 c74).2 R1.2.2.2.1 R1.2.2.2.2.1 hv89 hg85 hg86 hg87 hg88; exact own_dead _ _ _ _ _ (own_b1 hv8) (RN.1 c90).2 c132
                                        · intro c132
                                          refine g_iconst K 499 (1 : Int32) at_499 (by decide) ?_
                                          refine g_goto K 500 504 at_500 (by decide) (by decide) ?_
                                          refine g_retN K 504 .boolean at_504 rfl (by simp) (by decide) (by decide) ?_
                                          rw [hQ]
                                          rfl
                                  · intro c76
                                    exfalso
                                    exact c76 (own_idle ((own_r1ok (own_mkF1 (own_mkS (own_b1 hv1) c42 c43 hg37 hg38 hg39 hg40) (own_b2 hz2) hz46 hz48 hz50 hz52 hv54 hz55 hv57 hz58) hv72 hg68 hg69 hg70 hg71 c73).2.1 c74).2)
                              · intro c74
                                refine g_iload K 424 at_424 rfl ?_
                                refine g_iload K 426 at_426 rfl ?_
                                refine g_ii_ne K 428 445 at_428 (by decide) (by decide) ?_ ?_
                                · intro c133
                                  exfalso
                                  exact c133 ((own_r1ok (own_mkF1 (own_mkS (own_b1 hv1) c42 c43 hg37 hg38 hg39 hg40) (own_b2 hz2) hz46 hz48 hz50 hz52 hv54 hz55 hv57 hz58) hv72 hg68 hg69 hg70 hg71 c73).1 c74).1
                                · intro c133
                                  refine g_aload K 431 at_431 rfl rfl ?_
                                  refine g_iload K 433 at_433 rfl ?_
                                  refine g_callS K 435 [(.ref a9), (.int v8)] 0 at_435 (rm_after l Z a0 hw a9 v8 h60 n0 Z67 g68 g69 g70 g71 E62 g15 F63 F64 F65 F66 ) (tw hw 16 rfl) (tw hw 17 rfl) (tw hw 18 rfl) (tw hw 19 rfl) (by decide) pd2 rfl (st := []) rfl (Nat.le_of_eq rfl) rfl (by decide) (by decide) (by decide) (by decide) ?_
                                  rintro _ h134 ⟨hv, Kp135, E136⟩
                                  rw [hv]
                                  clear hv
                                  have Z137 := Nat.le_trans Z67 Kp135.1
                                  refine go_cast (k' := (0 + 1)) (n' := (0 + 4)) (st' := [(.int (f_after g68 g69 g70 g71 v8))]) rfl rfl rfl ?_
                                  refine g_if_eq K 438 445 at_438 (by decide) (by decide) ?_ ?_
                                  · intro c138
                                    exfalso
                                    exact own_dead _ _ _ _ _ (own_b1 hv8) ((own_r1ok (own_mkF1 (own_mkS (own_b1 hv1) c42 c43 hg37 hg38 hg39 hg40) (own_b2 hz2) hz46 hz48 hz50 hz52 hv54 hz55 hv57 hz58) hv72 hg68 hg69 hg70 hg71 c73).1 c74).2 c138
                                  · intro c138
                                    refine g_iconst K 441 (1 : Int32) at_441 (by decide) ?_
                                    refine g_goto K 442 446 at_442 (by decide) (by decide) ?_
                                    refine g_retN K 446 .boolean at_446 rfl (by simp) (by decide) (by decide) ?_
                                    rw [hQ]
                                    rfl
                            · intro c73
                              refine g_iload K 395 at_395 rfl ?_
                              refine g_bipush K 397 (-3 : Int32) at_397 (by decide) ?_
                              refine g_ii_ne K 399 416 at_399 (by decide) (by decide) ?_ ?_
                              · intro c139
                                exfalso
                                exact c139 (own_r1bad (own_mkF1 (own_mkS (own_b1 hv1) c42 c43 hg37 hg38 hg39 hg40) (own_b2 hz2) hz46 hz48 hz50 hz52 hv54 hz55 hv57 hz58) hv72 hg68 c73).1
                              · intro c139
                                refine g_aload K 402 at_402 rfl rfl ?_
                                refine g_iload K 404 at_404 rfl ?_
                                refine g_callS K 406 [(.ref a9), (.int v8)] 0 at_406 (rm_after l Z a0 hw a9 v8 h60 n0 Z67 g68 g69 g70 g71 E62 g15 F63 F64 F65 F66 ) (tw hw 16 rfl) (tw hw 17 rfl) (tw hw 18 rfl) (tw hw 19 rfl) (by decide) pd2 rfl (st := []) rfl (Nat.le_of_eq rfl) rfl (by decide) (by decide) (by decide) (by decide) ?_
                                rintro _ h140 ⟨hv, Kp141, E142⟩
                                rw [hv]
                                clear hv
                                have Z143 := Nat.le_trans Z67 Kp141.1
                                refine go_cast (k' := (0 + 1)) (n' := (0 + 4)) (st' := [(.int (f_after g68 g69 g70 g71 v8))]) rfl rfl rfl ?_
                                refine g_if_eq K 409 416 at_409 (by decide) (by decide) ?_ ?_
                                · intro c144
                                  exfalso
                                  exact own_dead _ _ _ _ _ (own_b1 hv8) (own_r1bad (own_mkF1 (own_mkS (own_b1 hv1) c42 c43 hg37 hg38 hg39 hg40) (own_b2 hz2) hz46 hz48 hz50 hz52 hv54 hz55 hv57 hz58) hv72 hg68 c73).2 c144
                                · intro c144
                                  refine g_iconst K 412 (1 : Int32) at_412 (by decide) ?_
                                  refine g_goto K 413 417 at_413 (by decide) (by decide) ?_
                                  refine g_retN K 417 .boolean at_417 rfl (by simp) (by decide) (by decide) ?_
                                  rw [hQ]
                                  rfl
                          refine g_ii_ne K 299 309 at_299 (by decide) (by decide) ?_ ?_
                          · intro c145
                            refine g_iload K 309 at_309 rfl ?_
                            refine g_iconst K 311 (3 : Int32) at_311 (by decide) ?_
                            refine g_ii_ne K 312 353 at_312 (by decide) (by decide) ?_ ?_
                            · intro c146
                              refine g_iload K 353 at_353 rfl ?_
                              refine g_if_eq K 355 377 at_355 (by decide) (by decide) ?_ ?_
                              · intro c147
                                refine g_iconst K 377 (0 : Int32) at_377 (by decide) ?_
                                refine g_istore K 378 #[.val (.int p0), .val (.int p1), .val (.int p2), .val (.int p3), .val (.int p4), .val (.int p5), .val (.int v1), .val (.int z2), .val (.int z4), .val (.int z6), .val (.int v8), .val (.ref a9), .val (.int v41), .val (.int z46), .val (.int z48), .val (.int z50), .val (.int v54), .val (.int z55), .val (.int v57), .val (.int (0 : Int32)), .unset, .unset, .unset, .unset] at_378 rfl ?_
                                exact J59 _ (by rw [if_neg c145, if_neg c146, if_pos c147])
                              · intro c147
                                refine g_iload K 358 at_358 rfl ?_
                                refine g_bipush K 360 (16 : Int32) at_360 (by decide) ?_
                                refine g_ii_lt K 362 377 at_362 (by decide) (by decide) ?_ ?_
                                · intro c148
                                  refine g_iconst K 377 (0 : Int32) at_377 (by decide) ?_
                                  refine g_istore K 378 #[.val (.int p0), .val (.int p1), .val (.int p2), .val (.int p3), .val (.int p4), .val (.int p5), .val (.int v1), .val (.int z2), .val (.int z4), .val (.int z6), .val (.int v8), .val (.ref a9), .val (.int v41), .val (.int z46), .val (.int z48), .val (.int z50), .val (.int v54), .val (.int z55), .val (.int v57), .val (.int (0 : Int32)), .unset, .unset, .unset, .unset] at_378 rfl ?_
                                  exact J59 _ (by rw [if_neg c145, if_neg c146, if_neg c147, if_pos c148])
                                · intro c148
                                  refine g_iload K 365 at_365 rfl ?_
                                  refine g_sipush K 367 (271 : Int32) at_367 (by decide) ?_
                                  refine g_ii_gt K 370 377 at_370 (by decide) (by decide) ?_ ?_
                                  · intro c149
                                    refine g_iconst K 377 (0 : Int32) at_377 (by decide) ?_
                                    refine g_istore K 378 #[.val (.int p0), .val (.int p1), .val (.int p2), .val (.int p3), .val (.int p4), .val (.int p5), .val (.int v1), .val (.int z2), .val (.int z4), .val (.int z6), .val (.int v8), .val (.ref a9), .val (.int v41), .val (.int z46), .val (.int z48), .val (.int z50), .val (.int v54), .val (.int z55), .val (.int v57), .val (.int (0 : Int32)), .unset, .unset, .unset, .unset] at_378 rfl ?_
                                    exact J59 _ (by rw [if_neg c145, if_neg c146, if_neg c147, if_neg c148, if_pos c149])
                                  · intro c149
                                    refine g_iconst K 373 (1 : Int32) at_373 (by decide) ?_
                                    refine g_goto K 374 378 at_374 (by decide) (by decide) ?_
                                    refine g_istore K 378 #[.val (.int p0), .val (.int p1), .val (.int p2), .val (.int p3), .val (.int p4), .val (.int p5), .val (.int v1), .val (.int z2), .val (.int z4), .val (.int z6), .val (.int v8), .val (.ref a9), .val (.int v41), .val (.int z46), .val (.int z48), .val (.int z50), .val (.int v54), .val (.int z55), .val (.int v57), .val (.int (1 : Int32)), .unset, .unset, .unset, .unset] at_378 rfl ?_
                                    exact J59 _ (by rw [if_neg c145, if_neg c146, if_neg c147, if_neg c148, if_neg c149])
                            · intro c146
                              refine g_iload K 315 at_315 rfl ?_
                              refine g_if_eq K 317 347 at_317 (by decide) (by decide) ?_ ?_
                              · intro c150
                                refine g_iconst K 347 (0 : Int32) at_347 (by decide) ?_
                                refine g_istore K 348 #[.val (.int p0), .val (.int p1), .val (.int p2), .val (.int p3), .val (.int p4), .val (.int p5), .val (.int v1), .val (.int z2), .val (.int z4), .val (.int z6), .val (.int v8), .val (.ref a9), .val (.int v41), .val (.int z46), .val (.int z48), .val (.int z50), .val (.int v54), .val (.int z55), .val (.int v57), .val (.int (0 : Int32)), .unset, .unset, .unset, .unset] at_348 rfl ?_
                                refine g_goto K 350 380 at_350 (by decide) (by decide) ?_
                                exact J59 _ (by rw [if_neg c145, if_pos c146, if_pos c150])
                              · intro c150
                                refine g_iload K 320 at_320 rfl ?_
                                refine g_bipush K 322 (32 : Int32) at_322 (by decide) ?_
                                refine g_ii_lt K 324 347 at_324 (by decide) (by decide) ?_ ?_
                                · intro c151
                                  refine g_iconst K 347 (0 : Int32) at_347 (by decide) ?_
                                  refine g_istore K 348 #[.val (.int p0), .val (.int p1), .val (.int p2), .val (.int p3), .val (.int p4), .val (.int p5), .val (.int v1), .val (.int z2), .val (.int z4), .val (.int z6), .val (.int v8), .val (.ref a9), .val (.int v41), .val (.int z46), .val (.int z48), .val (.int z50), .val (.int v54), .val (.int z55), .val (.int v57), .val (.int (0 : Int32)), .unset, .unset, .unset, .unset] at_348 rfl ?_
                                  refine g_goto K 350 380 at_350 (by decide) (by decide) ?_
                                  exact J59 _ (by rw [if_neg c145, if_pos c146, if_neg c150, if_pos c151])
                                · intro c151
                                  refine g_iload K 327 at_327 rfl ?_
                                  refine g_sipush K 329 (864 : Int32) at_329 (by decide) ?_
                                  refine g_ii_lt K 332 343 at_332 (by decide) (by decide) ?_ ?_
                                  · intro c152
                                    refine g_iconst K 343 (1 : Int32) at_343 (by decide) ?_
                                    refine g_goto K 344 348 at_344 (by decide) (by decide) ?_
                                    refine g_istore K 348 #[.val (.int p0), .val (.int p1), .val (.int p2), .val (.int p3), .val (.int p4), .val (.int p5), .val (.int v1), .val (.int z2), .val (.int z4), .val (.int z6), .val (.int v8), .val (.ref a9), .val (.int v41), .val (.int z46), .val (.int z48), .val (.int z50), .val (.int v54), .val (.int z55), .val (.int v57), .val (.int (1 : Int32)), .unset, .unset, .unset, .unset] at_348 rfl ?_
                                    refine g_goto K 350 380 at_350 (by decide) (by decide) ?_
                                    exact J59 _ (by rw [if_neg c145, if_pos c146, if_neg c150, if_neg c151, if_pos c152])
                                  · intro c152
                                    refine g_iload K 335 at_335 rfl ?_
                                    refine g_sipush K 337 (895 : Int32) at_337 (by decide) ?_
                                    refine g_ii_le K 340 347 at_340 (by decide) (by decide) ?_ ?_
                                    · intro c153
                                      refine g_iconst K 347 (0 : Int32) at_347 (by decide) ?_
                                      refine g_istore K 348 #[.val (.int p0), .val (.int p1), .val (.int p2), .val (.int p3), .val (.int p4), .val (.int p5), .val (.int v1), .val (.int z2), .val (.int z4), .val (.int z6), .val (.int v8), .val (.ref a9), .val (.int v41), .val (.int z46), .val (.int z48), .val (.int z50), .val (.int v54), .val (.int z55), .val (.int v57), .val (.int (0 : Int32)), .unset, .unset, .unset, .unset] at_348 rfl ?_
                                      refine g_goto K 350 380 at_350 (by decide) (by decide) ?_
                                      exact J59 _ (by rw [if_neg c145, if_pos c146, if_neg c150, if_neg c151, if_neg c152, if_neg c153])
                                    · intro c153
                                      refine g_iconst K 343 (1 : Int32) at_343 (by decide) ?_
                                      refine g_goto K 344 348 at_344 (by decide) (by decide) ?_
                                      refine g_istore K 348 #[.val (.int p0), .val (.int p1), .val (.int p2), .val (.int p3), .val (.int p4), .val (.int p5), .val (.int v1), .val (.int z2), .val (.int z4), .val (.int z6), .val (.int v8), .val (.ref a9), .val (.int v41), .val (.int z46), .val (.int z48), .val (.int z50), .val (.int v54), .val (.int z55), .val (.int v57), .val (.int (1 : Int32)), .unset, .unset, .unset, .unset] at_348 rfl ?_
                                      refine g_goto K 350 380 at_350 (by decide) (by decide) ?_
                                      exact J59 _ (by rw [if_neg c145, if_pos c146, if_neg c150, if_neg c151, if_neg c152, if_pos c153])
                          · intro c145
                            refine g_iload K 302 at_302 rfl ?_
                            refine g_istore K 304 #[.val (.int p0), .val (.int p1), .val (.int p2), .val (.int p3), .val (.int p4), .val (.int p5), .val (.int v1), .val (.int z2), .val (.int z4), .val (.int z6), .val (.int v8), .val (.ref a9), .val (.int v41), .val (.int z46), .val (.int z48), .val (.int z50), .val (.int v54), .val (.int z55), .val (.int v57), .val (.int z55), .unset, .unset, .unset, .unset] at_304 rfl ?_
                            refine g_goto K 306 380 at_306 (by decide) (by decide) ?_
                            exact J59 _ (by rw [if_pos c145])
                        refine g_ii_ne K 273 280 at_273 (by decide) (by decide) ?_ ?_
                        · intro c154
                          refine g_iconst K 280 (0 : Int32) at_280 (by decide) ?_
                          exact J56 _ (by rw [if_neg c154])
                        · intro c154
                          refine g_iconst K 276 (1 : Int32) at_276 (by decide) ?_
                          refine g_goto K 277 281 at_277 (by decide) (by decide) ?_
                          exact J56 _ (by rw [if_pos c154])
                      refine g_if_eq K 244 252 at_244 (by decide) (by decide) ?_ ?_
                      · intro c155
                        refine g_iload K 252 at_252 rfl ?_
                        refine g_if_eq K 254 262 at_254 (by decide) (by decide) ?_ ?_
                        · intro c156
                          refine g_bipush K 262 (7 : Int32) at_262 (by decide) ?_
                          exact J53 _ (by rw [if_pos c155, if_pos c156])
                        · intro c156
                          refine g_bipush K 257 (15 : Int32) at_257 (by decide) ?_
                          refine g_goto K 259 264 at_259 (by decide) (by decide) ?_
                          exact J53 _ (by rw [if_pos c155, if_neg c156])
                      · intro c155
                        refine g_bipush K 247 (31 : Int32) at_247 (by decide) ?_
                        refine g_goto K 249 264 at_249 (by decide) (by decide) ?_
                        exact J53 _ (by rw [if_neg c155])
                    refine g_if_eq K 221 228 at_221 (by decide) (by decide) ?_ ?_
                    · intro c157
                      refine g_iload K 228 at_228 rfl ?_
                      refine g_if_eq K 230 237 at_230 (by decide) (by decide) ?_ ?_
                      · intro c158
                        refine g_iconst K 237 (4 : Int32) at_237 (by decide) ?_
                        exact J51 _ (by rw [if_pos c157, if_pos c158])
                      · intro c158
                        refine g_iconst K 233 (3 : Int32) at_233 (by decide) ?_
                        refine g_goto K 234 238 at_234 (by decide) (by decide) ?_
                        exact J51 _ (by rw [if_pos c157, if_neg c158])
                    · intro c157
                      refine g_iconst K 224 (2 : Int32) at_224 (by decide) ?_
                      refine g_goto K 225 238 at_225 (by decide) (by decide) ?_
                      exact J51 _ (by rw [if_neg c157])
                  refine g_ii_ne K 209 216 at_209 (by decide) (by decide) ?_ ?_
                  · intro c159
                    refine g_iconst K 216 (0 : Int32) at_216 (by decide) ?_
                    exact J49 _ (by rw [if_neg c159])
                  · intro c159
                    refine g_iconst K 212 (1 : Int32) at_212 (by decide) ?_
                    refine g_goto K 213 217 at_213 (by decide) (by decide) ?_
                    exact J49 _ (by rw [if_pos c159])
                refine g_ii_ne K 193 200 at_193 (by decide) (by decide) ?_ ?_
                · intro c160
                  refine g_iconst K 200 (0 : Int32) at_200 (by decide) ?_
                  exact J47 _ (by rw [if_neg c160])
                · intro c160
                  refine g_iconst K 196 (1 : Int32) at_196 (by decide) ?_
                  refine g_goto K 197 201 at_197 (by decide) (by decide) ?_
                  exact J47 _ (by rw [if_pos c160])
              · intro c45
                exfalso
                exact c45 (own_idle (own_spos (own_mkS (own_b1 hv1) c42 c43 hg37 hg38 hg39 hg40)))
          · intro c43
            refine g_iload K 148 at_148 rfl ?_
            refine g_bipush K 150 (-2 : Int32) at_150 (by decide) ?_
            refine g_ii_ne K 152 169 at_152 (by decide) (by decide) ?_ ?_
            · intro c161
              exfalso
              exact c161 (hv41.symm.trans ((own_D v1 (own_b1 hv1)).2.1 c42 c43).1)
            · intro c161
              refine g_aload K 155 at_155 rfl rfl ?_
              refine g_iload K 157 at_157 rfl ?_
              refine g_callS K 159 [(.ref a9), (.int v8)] 0 at_159 (rm_after l Z a0 hw a9 v8 h29 n0 Z36 g37 g38 g39 g40 E31 g15 F32 F33 F34 F35 ) (tw hw 16 rfl) (tw hw 17 rfl) (tw hw 18 rfl) (tw hw 19 rfl) (by decide) pd2 rfl (st := []) rfl (Nat.le_of_eq rfl) rfl (by decide) (by decide) (by decide) (by decide) ?_
              rintro _ h162 ⟨hv, Kp163, E164⟩
              rw [hv]
              clear hv
              have Z165 := Nat.le_trans Z36 Kp163.1
              refine go_cast (k' := (0 + 1)) (n' := (0 + 4)) (st' := [(.int (f_after g37 g38 g39 g40 v8))]) rfl rfl rfl ?_
              refine g_if_eq K 162 169 at_162 (by decide) (by decide) ?_ ?_
              · intro c166
                exfalso
                exact own_dead _ _ _ _ _ (own_b1 hv8) (hg37.trans ((own_D v1 (own_b1 hv1)).2.1 c42 c43).2) c166
              · intro c166
                refine g_iconst K 165 (1 : Int32) at_165 (by decide) ?_
                refine g_goto K 166 170 at_166 (by decide) (by decide) ?_
                refine g_retN K 170 .boolean at_170 rfl (by simp) (by decide) (by decide) ?_
                rw [hQ]
                rfl
        · intro c42
          refine g_iload K 117 at_117 rfl ?_
          refine g_iload K 119 at_119 rfl ?_
          refine g_ii_ne K 121 138 at_121 (by decide) (by decide) ?_ ?_
          · intro c167
            exfalso
            exact c167 (hv41.symm.trans ((own_D v1 (own_b1 hv1)).1 c42).1)
          · intro c167
            refine g_aload K 124 at_124 rfl rfl ?_
            refine g_iload K 126 at_126 rfl ?_
            refine g_callS K 128 [(.ref a9), (.int v8)] 0 at_128 (rm_after l Z a0 hw a9 v8 h29 n0 Z36 g37 g38 g39 g40 E31 g15 F32 F33 F34 F35 ) (tw hw 16 rfl) (tw hw 17 rfl) (tw hw 18 rfl) (tw hw 19 rfl) (by decide) pd2 rfl (st := []) rfl (Nat.le_of_eq rfl) rfl (by decide) (by decide) (by decide) (by decide) ?_
            rintro _ h168 ⟨hv, Kp169, E170⟩
            rw [hv]
            clear hv
            have Z171 := Nat.le_trans Z36 Kp169.1
            refine go_cast (k' := (0 + 1)) (n' := (0 + 4)) (st' := [(.int (f_after g37 g38 g39 g40 v8))]) rfl rfl rfl ?_
            refine g_if_eq K 131 138 at_131 (by decide) (by decide) ?_ ?_
            · intro c172
              exfalso
              exact own_dead _ _ _ _ _ (own_b1 hv8) (hg37.trans ((own_D v1 (own_b1 hv1)).1 c42).2) c172
            · intro c172
              refine g_iconst K 134 (1 : Int32) at_134 (by decide) ?_
              refine g_goto K 135 139 at_135 (by decide) (by decide) ?_
              refine g_retN K 139 .boolean at_139 rfl (by simp) (by decide) (by decide) ?_
              rw [hQ]
              rfl
      refine g_if_eq K 61 75 at_61 (by decide) (by decide) ?_ ?_
      · intro c173
        refine g_iloadN K 75 at_75 rfl ?_
        refine g_sipush K 76 (255 : Int32) at_76 (by decide) ?_
        refine g_iand K 79 at_79 ?_
        exact J7 _ (by rw [if_pos c173])
      · intro c173
        refine g_sipush K 64 (128 : Int32) at_64 (by decide) ?_
        refine g_iloadN K 67 at_67 rfl ?_
        refine g_bipush K 68 (63 : Int32) at_68 (by decide) ?_
        refine g_iand K 70 at_70 ?_
        refine g_ior K 71 at_71 ?_
        refine g_goto K 72 80 at_72 (by decide) (by decide) ?_
        exact J7 _ (by rw [if_neg c173])
    refine g_if_eq K 36 50 at_36 (by decide) (by decide) ?_ ?_
    · intro c174
      refine g_iloadN K 50 at_50 rfl ?_
      refine g_sipush K 51 (255 : Int32) at_51 (by decide) ?_
      refine g_iand K 54 at_54 ?_
      exact J5 _ (by rw [if_pos c174])
    · intro c174
      refine g_sipush K 39 (128 : Int32) at_39 (by decide) ?_
      refine g_iloadN K 42 at_42 rfl ?_
      refine g_bipush K 43 (63 : Int32) at_43 (by decide) ?_
      refine g_iand K 45 at_45 ?_
      refine g_ior K 46 at_46 ?_
      refine g_goto K 47 55 at_47 (by decide) (by decide) ?_
      exact J5 _ (by rw [if_neg c174])
  refine g_if_eq K 11 25 at_11 (by decide) (by decide) ?_ ?_
  · intro c175
    refine g_iloadN K 25 at_25 rfl ?_
    refine g_sipush K 26 (255 : Int32) at_26 (by decide) ?_
    refine g_iand K 29 at_29 ?_
    exact J3 _ (by rw [if_pos c175])
  · intro c175
    refine g_sipush K 14 (128 : Int32) at_14 (by decide) ?_
    refine g_iloadN K 17 at_17 rfl ?_
    refine g_bipush K 18 (63 : Int32) at_18 (by decide) ?_
    refine g_iand K 20 at_20 ?_
    refine g_ior K 21 at_21 ?_
    refine g_goto K 22 30 at_22 (by decide) (by decide) ?_
    exact J3 _ (by rw [if_neg c175])
set_option maxRecDepth 65536 in
theorem comes_1 {Post : Tables → Env → Array Value → State → Outcome → State → Prop} (hpost : ∀ tb e args s v u, (limb_1_1.after args s (.returned v) u = true ∧ limb_1_2.after args s (.returned v) u = true ∧ True) → FrameEnd s (.returned v) u (Jvm.fieldLocs frame_1_writes args s ++ Jvm.arrayLocs frame_1_arrays args s ++ Jvm.staticLocs frame_1_statics s) 16 128 → Post tb e args s (.returned v) u) :
    ArmFor flags0 classFile x code maxLocals ret World_1 tables_1 room_1 Calls_1 rest_1 Pre_1 Post := by
  intro l hfl _ _ p e ha hc hk s m args below hf hA hF happ hP
  obtain ⟨hcalls, hrest, hpre⟩ := hP
  obtain ⟨-, -, -, hnamed, -, -, -, hat⟩ := (Spec.applies_iff hf).mp happ
  obtain ⟨hg, hn⟩ := and_e (Cond.before_iff.mp (show (Jvm.Cond.and given_1 narrow_1).before args s = true from hpre))
  obtain ⟨hcnt, hg0⟩ := and_e hg
  obtain ⟨w0, w1, w2, w3, w4, w5, rfl⟩ : ∃ w0 w1 w2 w3 w4 w5 : Value, args = #[w0, w1, w2, w3, w4, w5] := by
    have hs : args.size = 6 := by simpa [Cond.value, given_1] using hcnt
    obtain ⟨L⟩ := args
    match L, hs with
    | [w0, w1, w2, w3, w4, w5], _ => exact ⟨w0, w1, w2, w3, w4, w5, rfl⟩
  have hw := fun d (hd : d ∈ tables_1) => atoms_spec (ws := Jvm.Cond.code x code maxLocals ret :: tables_1) hat d (List.mem_cons_of_mem _ hd)
  obtain ⟨hq0, hg1⟩ := and_e hg0
  obtain ⟨i0, e0⟩ := is_v hq0
  obtain rfl : w0 = (.int i0) := Option.some.inj e0
  obtain ⟨hq1, hg2⟩ := and_e hg1
  obtain ⟨i1, e1⟩ := is_v hq1
  obtain rfl : w1 = (.int i1) := Option.some.inj e1
  obtain ⟨hq2, hg3⟩ := and_e hg2
  obtain ⟨i2, e2⟩ := is_v hq2
  obtain rfl : w2 = (.int i2) := Option.some.inj e2
  obtain ⟨hq3, hg4⟩ := and_e hg3
  obtain ⟨i3, e3⟩ := is_v hq3
  obtain rfl : w3 = (.int i3) := Option.some.inj e3
  obtain ⟨hq4, hg5⟩ := and_e hg4
  obtain ⟨i4, e4⟩ := is_v hq4
  obtain rfl : w4 = (.int i4) := Option.some.inj e4
  obtain ⟨i5, e5⟩ := is_v hg5
  obtain rfl : w5 = (.int i5) := Option.some.inj e5
  obtain ⟨n, o, h1, h2, h3, _, L, rfl, ⟨rfl, N⟩, hq⟩ := rm_law l s _ hw i0 i1 i2 i3 i4 i5 s.heap s.heap.size (Nat.le_refl _) tables_1 p e ha hc hk s m _ below hf ((Spec.applies_iff_loose hf).mp happ).1 ⟨rfl, State.Warmed39.refl s, rfl⟩ trivial
  refine ⟨n, _, h1, h2, h3, hpost _ _ _ _ _ _ ⟨Cond.after_iff.mpr rfl, Cond.after_iff.mpr (eq_i res_at (Term.int_eval (1)) rfl), trivial⟩ ⟨hq.1, hq.2.1, (hq.2.2.sift fun y hy => Or.inr (N y hy)).mono (by decide) (by decide)⟩⟩
theorem main_1_1 : Claimed_1_1 := comes_1 fun _ _ _ _ _ _ h hF => ⟨h.1, hF⟩
theorem main_1_2 : Claimed_1_2 := comes_1 fun _ _ _ _ _ _ h hF => ⟨h.2.1, hF⟩
end Jvm.Pilot.@@N@@
namespace Jvm.Pilot.@@N@@
open Jvm Jvm.ClassFile Sem Op Lib Jvm.Free Jvm.Stand Jvm.Pilot.@@N@@.Jvm.D
/-! MADE BY PROGRAM (witnessworld.py) out of the Statement's table words and the real class files: 9 classes; the members and pool entries that the words name. The judged class is class 1, her method 4. -/
namespace start1
open Jvm.ClassFile
def u (s : String) : CpInfo := .utf8 (stringToUtf16 s)
/-- a pool by its gaps: so many unusable entries, then the entry; so many at the end -/
def gap : Nat → List CpInfo → List CpInfo
  | 0, r => r
  | n + 1, r => .unusable :: gap n r
def poolList (es : List (Nat × CpInfo)) (last : Nat) : List CpInfo := es.foldr (fun e r => gap e.1 (e.2 :: r)) (gap last [])
def pool (es : List (Nat × CpInfo)) (last : Nat) : Array CpInfo := ⟨poolList es last⟩
def fileOf (pool : Array CpInfo) (this : Nat) (attrs : Array Attribute := #[]) (ms : Array MethodInfo := #[]) (fl : Nat := 33) (sup : Nat := 0) (ifs : Array Nat := #[]) (fds : Array FieldInfo := #[]) : ClassFile where
  minorVersion := 0
  majorVersion := 65
  constantPool := pool
  accessFlags := fl
  thisClass := this
  superClass := sup
  interfaces := ifs
  fields := fds
  methods := ms
  attributes := attrs
def plain (name : String) (sup : Option ClassId) : Class where
  name := name
  kind := .ordinary
  loader := none
  accessFlags := 33
  super := sup
  interfaces := #[]
  cf := none
  fields := #[]
  methods := #[]
  instanceTypes := #[]
  staticTypes := #[]
  resolved := #[]
  callSites := []
  init := .initialized
  statics := none
  mirror := none

def pool0 : Array CpInfo := pool [(5, u "<init>"), (0, u "()V"), (1, .class_ 10), (1, u "java/lang/Object")] 113

def k0c0 : Code := { maxStack := 0, maxLocals := 1, code := object_method_1_code, exceptionTable := #[], attributes := #[] }
def k0m0 : Method := { name := "<init>", desc := "()V", sig := { parameters := [], returnType := none }, accessFlags := 1, code := some k0c0 }
/-- java/lang/Object -/
def k0 : Class := { plain "java/lang/Object" none with
  accessFlags := 33
  interfaces := #[]
  cf := some (fileOf pool0 8 #[] #[{ accessFlags := 1, nameIndex := 5, descriptorIndex := 6, attributes := #[] }] 33 0 #[] #[])
  fields := #[]
  methods := #[k0m0]
  instanceTypes := #[]
  staticTypes := #[]
  resolved := Array.replicate 124 none
  statics := none }

def pool1 : Array CpInfo := pool [(2, .class_ 4), (0, .nameAndType 5 6), (0, u "java/lang/Object"), (0, u "<init>"), (0, u "()V"), (0, .methodref 8 9), (0, .class_ 10), (0, .nameAndType 11 12), (0, u "com/example/gapwise/gapwise/Utf8TakePinLaw"), (0, u "leads"), (0, u "(I)Z"), (0, .class_ 14), (0, u "com/example/gapwise/gapwise/Term$Utf8"), (0, .methodref 13 16), (0, .nameAndType 17 18), (0, u "idle"), (0, u "()Z"), (0, .methodref 13 20), (0, .nameAndType 21 22), (0, u "take"), (0, u "(B)I"), (0, .methodref 8 24), (0, .nameAndType 25 26), (0, u "fresh"), (0, u "(I)I"), (0, .methodref 13 3), (0, .methodref 8 29), (0, .nameAndType 30 31), (0, u "after"), (0, u "(Lcom/example/gapwise/gapwise/Term$Utf8;I)Z"), (3, u "law"), (0, u "(IIIIII)Z")] 6

def k1m0 : Method := { name := "<init>", desc := "()V", sig := { parameters := [], returnType := none }, accessFlags := 2, code := none }
def k1c1 : Code := { maxStack := 2, maxLocals := 4, code := method_2_code, exceptionTable := #[], attributes := #[] }
def k1m1 : Method := { name := "leads", desc := "(I)Z", sig := { parameters := [.int], returnType := some .boolean }, accessFlags := 10, code := some k1c1 }
def k1c2 : Code := { maxStack := 2, maxLocals := 1, code := method_3_code, exceptionTable := #[], attributes := #[] }
def k1m2 : Method := { name := "fresh", desc := "(I)I", sig := { parameters := [.int], returnType := some .int }, accessFlags := 10, code := some k1c2 }
def k1c3 : Code := { maxStack := 2, maxLocals := 2, code := method_4_code, exceptionTable := #[], attributes := #[] }
def k1m3 : Method := { name := "after", desc := "(Lcom/example/gapwise/gapwise/Term$Utf8;I)Z", sig := { parameters := [(.object "com/example/gapwise/gapwise/Term$Utf8"), .int], returnType := some .boolean }, accessFlags := 10, code := some k1c3 }
def k1c4 : Code := { maxStack := 4, maxLocals := 24, code := code, exceptionTable := #[], attributes := #[] }
def k1m4 : Method := { name := "law", desc := "(IIIIII)Z", sig := { parameters := [.int, .int, .int, .int, .int, .int], returnType := some .boolean }, accessFlags := 9, code := some k1c4 }
/-- com/example/gapwise/gapwise/Utf8TakePinLaw -/
def k1 : Class := { plain "com/example/gapwise/gapwise/Utf8TakePinLaw" (some 0) with
  accessFlags := 49
  interfaces := #[]
  cf := some (fileOf pool1 8 #[] #[{ accessFlags := 2, nameIndex := 5, descriptorIndex := 6, attributes := #[] }, { accessFlags := 10, nameIndex := 11, descriptorIndex := 12, attributes := #[] }, { accessFlags := 10, nameIndex := 25, descriptorIndex := 26, attributes := #[] }, { accessFlags := 10, nameIndex := 30, descriptorIndex := 31, attributes := #[] }, { accessFlags := 9, nameIndex := 35, descriptorIndex := 36, attributes := #[] }] 49 2 #[] #[])
  fields := #[]
  methods := #[k1m0, k1m1, k1m2, k1m3, k1m4]
  instanceTypes := #[]
  staticTypes := #[]
  resolved := Array.replicate 43 none
  statics := none }

def pool2 : Array CpInfo := pool [(1, .methodref 2 3), (0, .class_ 4), (0, .nameAndType 5 6), (0, u "java/lang/Object"), (0, u "<init>"), (0, u "()V"), (0, .fieldref 8 9), (0, .class_ 10), (0, .nameAndType 11 12), (0, u "com/example/gapwise/gapwise/Term$Utf8"), (0, u "left"), (0, u "I"), (0, .fieldref 8 14), (0, .nameAndType 15 12), (0, u "low"), (0, .fieldref 8 17), (0, .nameAndType 18 12), (0, u "high"), (0, .fieldref 8 20), (0, .nameAndType 21 12), (0, u "codePoint"), (0, u "MORE"), (2, u "INVALID"), (1, u "BROKEN"), (3, u "idle"), (0, u "()Z"), (1, u "take"), (0, u "(B)I"), (4, .class_ 41), (0, u "com/example/gapwise/gapwise/Term")] 2

def k2c0 : Code := { maxStack := 1, maxLocals := 1, code := prog_244_method_1_code, exceptionTable := #[], attributes := #[] }
def k2m0 : Method := { name := "<init>", desc := "()V", sig := { parameters := [], returnType := none }, accessFlags := 0, code := some k2c0 }
def k2c1 : Code := { maxStack := 1, maxLocals := 1, code := prog_244_method_2_code, exceptionTable := #[], attributes := #[] }
def k2m1 : Method := { name := "idle", desc := "()Z", sig := { parameters := [], returnType := some .boolean }, accessFlags := 0, code := some k2c1 }
def k2c2 : Code := { maxStack := 4, maxLocals := 4, code := prog_244_method_3_code, exceptionTable := #[], attributes := #[] }
def k2m2 : Method := { name := "take", desc := "(B)I", sig := { parameters := [.byte], returnType := some .int }, accessFlags := 0, code := some k2c2 }
/-- com/example/gapwise/gapwise/Term$Utf8 -/
def k2 : Class := { plain "com/example/gapwise/gapwise/Term$Utf8" (some 0) with
  accessFlags := 48
  interfaces := #[]
  cf := some (fileOf pool2 8 #[.nestHost 40] #[{ accessFlags := 0, nameIndex := 5, descriptorIndex := 6, attributes := #[] }, { accessFlags := 0, nameIndex := 31, descriptorIndex := 32, attributes := #[] }, { accessFlags := 0, nameIndex := 34, descriptorIndex := 35, attributes := #[] }] 48 2 #[] #[{ accessFlags := 24, nameIndex := 22, descriptorIndex := 12, attributes := #[] }, { accessFlags := 24, nameIndex := 25, descriptorIndex := 12, attributes := #[] }, { accessFlags := 24, nameIndex := 27, descriptorIndex := 12, attributes := #[] }, { accessFlags := 2, nameIndex := 11, descriptorIndex := 12, attributes := #[] }, { accessFlags := 2, nameIndex := 21, descriptorIndex := 12, attributes := #[] }, { accessFlags := 2, nameIndex := 15, descriptorIndex := 12, attributes := #[] }, { accessFlags := 2, nameIndex := 18, descriptorIndex := 12, attributes := #[] }])
  fields := #[{ name := "MORE", type := .int, accessFlags := 24, slot := 0, constantValue := 0 }, { name := "INVALID", type := .int, accessFlags := 24, slot := 1, constantValue := 0 }, { name := "BROKEN", type := .int, accessFlags := 24, slot := 2, constantValue := 0 }, { name := "left", type := .int, accessFlags := 2, slot := 0, constantValue := 0 }, { name := "codePoint", type := .int, accessFlags := 2, slot := 1, constantValue := 0 }, { name := "low", type := .int, accessFlags := 2, slot := 2, constantValue := 0 }, { name := "high", type := .int, accessFlags := 2, slot := 3, constantValue := 0 }]
  methods := #[k2m0, k2m1, k2m2]
  instanceTypes := #[.int, .int, .int, .int]
  staticTypes := #[.int, .int, .int]
  resolved := Array.replicate 44 none
  statics := none }

def pool3 : Array CpInfo := pool [(1, u "java/lang/Cloneable"), (0, .class_ 1), (0, u "java/lang/Object"), (0, .class_ 3)] 3

/-- java/lang/Cloneable -/
def k3 : Class := { plain "java/lang/Cloneable" (some 0) with
  accessFlags := 1537
  interfaces := #[]
  cf := some (fileOf pool3 2 #[] #[] 1537 4 #[] #[])
  fields := #[]
  methods := #[]
  instanceTypes := #[]
  staticTypes := #[]
  resolved := Array.replicate 8 none
  statics := none }

def pool4 : Array CpInfo := pool [(1, u "java/io/Serializable"), (0, .class_ 1), (0, u "java/lang/Object"), (0, .class_ 3)] 3

/-- java/io/Serializable -/
def k4 : Class := { plain "java/io/Serializable" (some 0) with
  accessFlags := 1537
  interfaces := #[]
  cf := some (fileOf pool4 2 #[] #[] 1537 4 #[] #[])
  fields := #[]
  methods := #[]
  instanceTypes := #[]
  staticTypes := #[]
  resolved := Array.replicate 8 none
  statics := none }

/-- the primitive byte -/
def k5 : Class := { plain "byte" none with kind := .primitive 'B', accessFlags := 0x411 }
/-- [B -/
def k6 : Class := { plain "[B" (some 0) with kind := .array 5 .byte, interfaces := #[3, 4], accessFlags := 1041 }

/-- the primitive int -/
def k7 : Class := { plain "int" none with kind := .primitive 'I', accessFlags := 0x411 }
/-- [I -/
def k8 : Class := { plain "[I" (some 0) with kind := .array 7 .int, interfaces := #[3, 4], accessFlags := 1041 }

def heap : Heap := #[]
def classes : Array Class := #[k0, k1, k2, k3, k4, k5, k6, k7, k8]
def interned : List (Array UInt16 × Addr) := []
def slotsUsed : Nat := 0
def theMethod : MethodId := ⟨1, 4⟩
def args0 : Array Value := #[.int 300, .int 5, .int 6, .int 7, .int 8, .int 9]
def aboutOver (below : List Frame) : State where
  vm := { classes := classes, interned := interned.toArray }
  heap := heap
  slotsUsed := slotsUsed
  threads := #[{ frames := .invoking theMethod args0 :: below }]
def below0 : List Frame := [.native { method := ⟨0, 0⟩, args := #[] }]
def about1 : State := aboutOver below0
def p0 : Program := .bare "" "" ""
def e0 : Env := launch0.env 0 0 0
theorem w_frames : about1.frames = Frame.invoking theMethod args0 :: below0 := rfl
set_option maxRecDepth 65536 in
theorem w_args : argsFit about1.vm theMethod args0 = true := by decide +kernel
set_option maxRecDepth 65536 in
theorem w_heap : heapFits about1 = true := by decide +kernel
set_option maxRecDepth 65536 in
theorem w_runnable : about1.curStatus? = some .runnable := by decide +kernel
set_option maxRecDepth 65536 in
theorem w_alone : about1.alone = true := by decide +kernel
set_option maxRecDepth 65536 in
theorem w_named : about1.methodNamed? x = some theMethod := by decide +kernel
set_option maxRecDepth 65536 in
theorem w_hears : about1.hears theMethod below0 = true := by decide +kernel
set_option maxRecDepth 65536 in
theorem w_ripe : about1.ripe theMethod args0 below0 = true := by decide +kernel
theorem w_running : about1.status = .running := rfl
set_option maxRecDepth 65536 in
theorem w_room : about1.hasRoom e0.platform room_1 = true :=
  launch0.hasRoom_least _ room_1 (by decide +kernel) (by decide +kernel) (by decide +kernel) (by decide +kernel) (by decide +kernel) (by decide +kernel)
theorem allAtoms_all (ts : List Jvm.Cond) (a : Array Jvm.Value) (st : Jvm.State) : (allAtoms ts).before a st = ts.all (fun c => c.before a st) := by
  induction ts with
  | nil => rfl
  | cons c t ih =>
    show (Jvm.Cond.and c (allAtoms t)).before a st = _
    rw [Jvm.Cond.before_and, ih, List.all_cons]
def words1 : List Jvm.Cond := Jvm.Cond.code x code maxLocals ret :: tables_1
/-- a 'code' word, met by the world's own term for the bytes: nothing is compared byte by byte -/
theorem code_word {y : MethodName} {bytes : ByteArray} {mx : Nat} {rt : Option FieldType} {a : Array Value} {s : State} {m : MethodId} {meth : Method} {c : Code} (h1 : s.methodNamed? y = some m) (h2 : s.vm.method? m = some meth) (h3 : meth.code = some c) (h4 : c.code = bytes)
    (h5 : (c.maxLocals == mx && c.exceptionTable.isEmpty && decide (c.maxStack ≤ mostOperands) && decide (meth.sig.returnType = rt) && !meth.locks && decide (parseMethodDescriptor y.desc = some meth.sig)) = true) : (Jvm.Cond.code y bytes mx rt).before a s = true := by
  simp only [Bool.and_eq_true, beq_iff_eq, Bool.not_eq_true', decide_eq_true_eq] at h5
  obtain ⟨⟨⟨⟨⟨g1, g2⟩, g3⟩, g4⟩, g5⟩, g6⟩ := h5
  simp [Cond.before, Cond.holds, Cond.value, h1, h2, h3, h4, g1, g2, g3, g4, g5, g6]
def isCode : Jvm.Cond → Bool
  | .code _ _ _ _ => true
  | _ => false
theorem all_split {L : List Jvm.Cond} {P : Jvm.Cond → Bool} (h1 : L.all (fun c => isCode c || P c) = true) (h2 : ∀ c ∈ L.filter isCode, P c = true) : L.all P = true := by
  refine List.all_eq_true.mpr fun c hc => ?_
  have h := List.all_eq_true.mp h1 c hc
  rcases Bool.eq_false_or_eq_true (isCode c) with hi | hi
  · exact h2 c (List.mem_filter.mpr ⟨hc, hi⟩)
  · simpa [hi] using h
set_option maxRecDepth 65536 in
theorem w_c0 : (Jvm.Cond.code x code maxLocals ret).before args0 about1 = true := code_word (m := ⟨1, 4⟩) (meth := k1m4) (c := k1c4) (by decide +kernel) rfl rfl rfl (by decide +kernel)
set_option maxRecDepth 65536 in
theorem w_c1 : (Jvm.Cond.code ({ cls := "com/example/gapwise/gapwise/Term$Utf8", name := "<init>", desc := "()V" } : Jvm.MethodName) prog_244_method_1_code (1 : Nat) (Option.none : Option Jvm.ClassFile.FieldType)).before args0 about1 = true := code_word (m := ⟨2, 0⟩) (meth := k2m0) (c := k2c0) (by decide +kernel) rfl rfl rfl (by decide +kernel)
set_option maxRecDepth 65536 in
theorem w_c2 : (Jvm.Cond.code ({ cls := "java/lang/Object", name := "<init>", desc := "()V" } : Jvm.MethodName) object_method_1_code (1 : Nat) (Option.none : Option Jvm.ClassFile.FieldType)).before args0 about1 = true := code_word (m := ⟨0, 0⟩) (meth := k0m0) (c := k0c0) (by decide +kernel) rfl rfl rfl (by decide +kernel)
set_option maxRecDepth 65536 in
theorem w_c3 : (Jvm.Cond.code ({ cls := "com/example/gapwise/gapwise/Term$Utf8", name := "take", desc := "(B)I" } : Jvm.MethodName) prog_244_method_3_code (4 : Nat) (Option.some Jvm.ClassFile.FieldType.int)).before args0 about1 = true := code_word (m := ⟨2, 2⟩) (meth := k2m2) (c := k2c2) (by decide +kernel) rfl rfl rfl (by decide +kernel)
set_option maxRecDepth 65536 in
theorem w_c4 : (Jvm.Cond.code ({ cls := "com/example/gapwise/gapwise/Utf8TakePinLaw", name := "after", desc := "(Lcom/example/gapwise/gapwise/Term$Utf8;I)Z" } : Jvm.MethodName) method_4_code (2 : Nat) (Option.some Jvm.ClassFile.FieldType.boolean)).before args0 about1 = true := code_word (m := ⟨1, 3⟩) (meth := k1m3) (c := k1c3) (by decide +kernel) rfl rfl rfl (by decide +kernel)
set_option maxRecDepth 65536 in
theorem w_c5 : (Jvm.Cond.code ({ cls := "com/example/gapwise/gapwise/Term$Utf8", name := "idle", desc := "()Z" } : Jvm.MethodName) prog_244_method_2_code (1 : Nat) (Option.some Jvm.ClassFile.FieldType.boolean)).before args0 about1 = true := code_word (m := ⟨2, 1⟩) (meth := k2m1) (c := k2c1) (by decide +kernel) rfl rfl rfl (by decide +kernel)
set_option maxRecDepth 65536 in
theorem w_c6 : (Jvm.Cond.code ({ cls := "com/example/gapwise/gapwise/Utf8TakePinLaw", name := "fresh", desc := "(I)I" } : Jvm.MethodName) method_3_code (1 : Nat) (Option.some Jvm.ClassFile.FieldType.int)).before args0 about1 = true := code_word (m := ⟨1, 2⟩) (meth := k1m2) (c := k1c2) (by decide +kernel) rfl rfl rfl (by decide +kernel)
set_option maxRecDepth 65536 in
theorem w_c7 : (Jvm.Cond.code ({ cls := "com/example/gapwise/gapwise/Utf8TakePinLaw", name := "leads", desc := "(I)Z" } : Jvm.MethodName) method_2_code (4 : Nat) (Option.some Jvm.ClassFile.FieldType.boolean)).before args0 about1 = true := code_word (m := ⟨1, 1⟩) (meth := k1m1) (c := k1c1) (by decide +kernel) rfl rfl rfl (by decide +kernel)
def codes1 : List Jvm.Cond := [Jvm.Cond.code x code maxLocals ret, Jvm.Cond.code ({ cls := "com/example/gapwise/gapwise/Term$Utf8", name := "<init>", desc := "()V" } : Jvm.MethodName) prog_244_method_1_code (1 : Nat) (Option.none : Option Jvm.ClassFile.FieldType), Jvm.Cond.code ({ cls := "java/lang/Object", name := "<init>", desc := "()V" } : Jvm.MethodName) object_method_1_code (1 : Nat) (Option.none : Option Jvm.ClassFile.FieldType), Jvm.Cond.code ({ cls := "com/example/gapwise/gapwise/Term$Utf8", name := "take", desc := "(B)I" } : Jvm.MethodName) prog_244_method_3_code (4 : Nat) (Option.some Jvm.ClassFile.FieldType.int), Jvm.Cond.code ({ cls := "com/example/gapwise/gapwise/Utf8TakePinLaw", name := "after", desc := "(Lcom/example/gapwise/gapwise/Term$Utf8;I)Z" } : Jvm.MethodName) method_4_code (2 : Nat) (Option.some Jvm.ClassFile.FieldType.boolean), Jvm.Cond.code ({ cls := "com/example/gapwise/gapwise/Term$Utf8", name := "idle", desc := "()Z" } : Jvm.MethodName) prog_244_method_2_code (1 : Nat) (Option.some Jvm.ClassFile.FieldType.boolean), Jvm.Cond.code ({ cls := "com/example/gapwise/gapwise/Utf8TakePinLaw", name := "fresh", desc := "(I)I" } : Jvm.MethodName) method_3_code (1 : Nat) (Option.some Jvm.ClassFile.FieldType.int), Jvm.Cond.code ({ cls := "com/example/gapwise/gapwise/Utf8TakePinLaw", name := "leads", desc := "(I)Z" } : Jvm.MethodName) method_2_code (4 : Nat) (Option.some Jvm.ClassFile.FieldType.boolean)]
set_option maxRecDepth 65536 in
theorem codes_eq : words1.filter isCode = codes1 := rfl
theorem w_codes : ∀ c ∈ words1.filter isCode, c.before args0 about1 = true := by
  rw [codes_eq]
  intro c hc
  simp only [codes1, List.mem_cons, List.not_mem_nil, or_false] at hc
  rcases hc with rfl | rfl | rfl | rfl | rfl | rfl | rfl | rfl
  · exact w_c0
  · exact w_c1
  · exact w_c2
  · exact w_c3
  · exact w_c4
  · exact w_c5
  · exact w_c6
  · exact w_c7
set_option maxRecDepth 65536 in
theorem w_t1 : (words1.take 24).all (fun c => isCode c || c.before args0 about1) = true := by decide +kernel
set_option maxRecDepth 65536 in
theorem w_t2 : (words1.drop 24).all (fun c => isCode c || c.before args0 about1) = true := by decide +kernel
theorem w_tables : (allAtoms (Jvm.Cond.code x code maxLocals ret :: tables_1)).before args0 about1 = true := by
  rw [allAtoms_all]
  show words1.all (fun c => c.before args0 about1) = true
  refine all_split ?_ w_codes
  rw [← List.take_append_drop 24 words1, List.all_append, w_t1, w_t2]
  rfl
set_option maxRecDepth 65536 in
theorem w_case : (Jvm.Cond.and given_1 narrow_1).before args0 about1 = true := by decide +kernel
theorem w_applies : (headSpec (Jvm.Cond.code x code maxLocals ret :: tables_1) room_1).applies x e0.platform about1 = true :=
  (Spec.applies_iff w_frames).mpr ⟨w_running, w_runnable, w_alone, w_named, w_hears, w_ripe, w_room, w_tables⟩
theorem atStart : AtStart classFile x code maxLocals ret World_1 tables_1 room_1 Calls_1 rest_1 Pre_1 launch0 p0 e0 about1 theMethod args0 below0 :=
  ⟨lists_1, trivial, launch0.admits_env _ _ _, launch0.least_env, fairChoices_fair.cas, fairChoices_fair.clock, w_frames, w_args, w_heap, w_applies, trivial, trivial, w_case⟩
end start1
theorem witness_1 : WitnessClaimed_1 := ⟨start1.p0, start1.e0, start1.about1, start1.theMethod, start1.args0, start1.below0, start1.atStart⟩
end Jvm.Pilot.@@N@@
