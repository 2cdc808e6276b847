import JvmDerived
import JvmDerived.Pilot.@@N@@Statement
import JvmDerived.Pilot.@@N@@Code
set_option linter.unusedVariables false
set_option linter.unusedSimpArgs false
namespace Jvm.Pilot.@@N@@
open Jvm Jvm.ClassFile Sem Op Lib Jvm.Free Jvm.Stand Jvm.LawKit Jvm.RoadKit Bundle Jvm.Pilot.@@N@@.Jvm.D
/-- from any state that stands here with this heap the walk comes to a return with Q -/
def Go (p : Program) (l : Launch) (e : Env) (R : Room) (s : State) (m : MethodId) (args : Array Value) (below : List Frame) (meth : Method) (c : Code) (n0 : Nat) (Q : Option Value → Heap → Prop) (h : Heap) (k n : Nat) (f : JFrame) : Prop :=
  ∀ T L, Stand p l e R s m args below meth c T L k n → T.heap = h → Fr n0 L →
    ∃ s₂ o, Steps p.tables e below (T.setTop f) s₂ ∧ s₂.status = .running ∧ Ended s₂ below o ∧
      ∃ v L', o = .returned v ∧ (Q v s₂.heap ∧ Fr n0 L') ∧ FrameEnd s o s₂ L' R.cells R.slots
/-- what is known of the body that is walked -/
def Kx (Z : State) (own nm : String) (bytes : ByteArray) (ml : Nat) (rt : Option FieldType) (p : Program) (s : State) (m : MethodId) (meth : Method) (c : Code) : Prop :=
  p.tables.exec = Jvm.exec ∧ Z.Warmed39 s.vm ∧ s.vm.findClass own = some m.cls ∧ c.code = bytes ∧ c.maxLocals = ml ∧ meth.sig.returnType = rt ∧ meth.locks = false ∧ meth.name = nm
/-- a method's contract, at given arguments and heap -/
def Meets (l : Launch) (y : MethodName) (bytes : ByteArray) (ml : Nat) (rt : Option FieldType) (rm : Room) (Z : State) (as : Array Value) (h0 : Heap) (n0 : Nat) (Q : Option Value → Heap → Prop) : Prop :=
  ∀ ws : List Jvm.Cond, MetFree l y (head1 (Jvm.Cond.code y bytes ml rt :: ws) rm) (fun a U => a = as ∧ Z.Warmed39 U.vm ∧ U.heap = h0) (fun _ _ _ _ _ => True)
    (fun _ U o U' => ∃ v L, o = .returned v ∧ (Q v U'.heap ∧ Fr n0 L) ∧ FrameEnd U o U' L rm.cells rm.slots)
/-- an array of ints, bytes, booleans ..: its values as a list -/
def IA (Z : State) (h : Heap) (a : Addr) (ty : FieldType) (xs : List Int32) : Prop := ∃ cl : Cell, Arr Z h a cl ty ∧ cl.slots = (xs.map Value.int).toArray
/-- an array of longs -/
def LA (Z : State) (h : Heap) (a : Addr) (xs : List Int64) : Prop := ∃ cl : Cell, Arr Z h a cl .long ∧ cl.slots = (xs.map Value.long).toArray
section ArrFacts
variable {Z : State} {h h' : Heap} {a : Addr} {ty : FieldType} {xs : List Int32} {ys : List Int64} {ws : List Addr}
theorem IA.keep (F : IA Z h a ty xs) (K : Keep h h' ws) (q : a ∉ ws) : IA Z h' a ty xs := by obtain ⟨c, A, r⟩ := F; exact ⟨c, ⟨K.2.1 a c A.1 q, A.2⟩, r⟩
theorem LA.keep (F : LA Z h a ys) (K : Keep h h' ws) (q : a ∉ ws) : LA Z h' a ys := by obtain ⟨c, A, r⟩ := F; exact ⟨c, ⟨K.2.1 a c A.1 q, A.2⟩, r⟩
theorem IA.lt (F : IA Z h a ty xs) : a < h.size := by obtain ⟨c, A, -⟩ := F; exact A.lt
theorem LA.lt (F : LA Z h a ys) : a < h.size := by obtain ⟨c, A, -⟩ := F; exact A.lt
theorem IA.set {j : Nat} {x : Int32} (F : IA Z h a ty xs) (W : Wr h h' a j (.int x)) : IA Z h' a ty (xs.set j x) := by
  obtain ⟨c, A, r⟩ := F
  refine ⟨_, A.same W, ?_⟩
  simp [Cell.setSlot, r, List.map_set]
theorem LA.set {j : Nat} {x : Int64} (F : LA Z h a ys) (W : Wr h h' a j (.long x)) : LA Z h' a (ys.set j x) := by
  obtain ⟨c, A, r⟩ := F
  refine ⟨_, A.same W, ?_⟩
  simp [Cell.setSlot, r, List.map_set]
theorem keep_ext (E : Ext h h') : Keep h h' [] := (Keep.refl h []).ext E
theorem own_clamp {j : Int32} {n : Nat} (h0 : ¬ j < 0) (hn : j.toNatClampNeg < n) {cl : Cell} (hs : cl.slots.size = n) : ¬ (j < 0 ∨ cl.slots.size ≤ j.toNatClampNeg) := by
  rw [hs]; rintro (q | q)
  · exact h0 q
  · omega
theorem own_ne_of_lt {a b : Nat} {h : Heap} (q : a < h.size) (r : b = h.size) : a ≠ b := by omega
end ArrFacts
section GoSteps
variable {p : Program} {l : Launch} {e : Env} {R : Room} {s : State} {m : MethodId} {args : Array Value} {below : List Frame} {meth : Method} {c : Code} {n0 : Nat} {Q : Option Value → Heap → Prop} {h : Heap} {k n : Nat} {Z : State} {own nm : String} {bytes : ByteArray} {ml : Nat} {rt : Option FieldType} {Ls : Array Slot} {st : List Value} {a0 : Array Value}
theorem go_step {f f' : JFrame} (st : ∀ T L, Stand p l e R s m args below meth c T L k n → ∀ t, Steps p.tables e below (T.setTop f') t → Steps p.tables e below (T.setTop f) t) (hr : Go p l e R s m args below meth c n0 Q h k n f') : Go p l e R s m args below meth c n0 Q h k n f := by
  intro T L X eT N
  obtain ⟨s₂, o, S, r⟩ := hr T L X eT N
  exact ⟨s₂, o, st T L X _ S, r⟩
theorem go_mono {f : JFrame} {k' n' : Nat} (hk : k ≤ k') (hn : n ≤ n') (hr : Go p l e R s m args below meth c n0 Q h k' n' f) : Go p l e R s m args below meth c n0 Q h k n f := by
  intro T L X eT N
  exact hr T L (X.more hk hn) eT N
theorem go_post {f : JFrame} {Q' : Option Value → Heap → Prop} (hq : ∀ v h, Q' v h → Q v h) (hr : Go p l e R s m args below meth c n0 Q' h k n f) : Go p l e R s m args below meth c n0 Q h k n f := by
  intro T L X eT N
  obtain ⟨s₂, o, S, r1, r2, v, L', q1, q2, q3⟩ := hr T L X eT N
  exact ⟨s₂, o, S, r1, r2, v, L', q1, ⟨hq _ _ q2.1, q2.2⟩, q3⟩
theorem go_cast {pc : Nat} {k' n' : Nat} {st' : List Value} (q1 : k = k') (q2 : n = n') (q3 : st = st') (hr : Go p l e R s m args below meth c n0 Q h k' n' (mkF m pc Ls st')) : Go p l e R s m args below meth c n0 Q h k n (mkF m pc Ls st) := by subst q1 q2 q3; exact hr
theorem g_iload (K : Kx Z own nm bytes ml rt p s m meth c) (pc : Nat) {i : Nat} {v : Int32} (hd : decode bytes pc = .ok (.iload i, 2)) (hl : Ls[i]? = some (.val (.int v))) (hr : Go p l e R s m args below meth c n0 Q h k n (mkF m (pc + 2) Ls (.int v :: st))) : Go p l e R s m args below meth c n0 Q h k n (mkF m pc Ls st) :=
  go_step (fun T L X t S => XS.iload X.here K.1 rfl (hb K.2.2.2.1 hd) hl S) hr
theorem g_iloadN (K : Kx Z own nm bytes ml rt p s m meth c) (pc : Nat) {i : Fin 4} {v : Int32} (hd : decode bytes pc = .ok (.iload_n i, 1)) (hl : Ls[i.val]? = some (.val (.int v))) (hr : Go p l e R s m args below meth c n0 Q h k n (mkF m (pc + 1) Ls (.int v :: st))) : Go p l e R s m args below meth c n0 Q h k n (mkF m pc Ls st) :=
  go_step (fun T L X t S => XS.iloadN X.here K.1 rfl (hb K.2.2.2.1 hd) hl S) hr
theorem g_lload (K : Kx Z own nm bytes ml rt p s m meth c) (pc : Nat) {i : Nat} {v : Int64} (hd : decode bytes pc = .ok (.lload i, 2)) (hl : Ls[i]? = some (.val (.long v))) (hr : Go p l e R s m args below meth c n0 Q h k n (mkF m (pc + 2) Ls (.long v :: st))) : Go p l e R s m args below meth c n0 Q h k n (mkF m pc Ls st) :=
  go_step (fun T L X t S => XT.lload X.here K.1 rfl (hb K.2.2.2.1 hd) hl S) hr
theorem g_lloadN (K : Kx Z own nm bytes ml rt p s m meth c) (pc : Nat) {i : Fin 4} {v : Int64} (hd : decode bytes pc = .ok (.lload_n i, 1)) (hl : Ls[i.val]? = some (.val (.long v))) (hr : Go p l e R s m args below meth c n0 Q h k n (mkF m (pc + 1) Ls (.long v :: st))) : Go p l e R s m args below meth c n0 Q h k n (mkF m pc Ls st) :=
  go_step (fun T L X t S => XT.lloadN X.here K.1 rfl (hb K.2.2.2.1 hd) hl S) hr
theorem g_aload (K : Kx Z own nm bytes ml rt p s m meth c) (pc : Nat) {i : Nat} {v : Value} (hd : decode bytes pc = .ok (.aload i, 2)) (hl : Ls[i]? = some (.val v)) (hv : v.isRef = true) (hr : Go p l e R s m args below meth c n0 Q h k n (mkF m (pc + 2) Ls (v :: st))) : Go p l e R s m args below meth c n0 Q h k n (mkF m pc Ls st) :=
  go_step (fun T L X t S => XS.aload X.here K.1 rfl (hb K.2.2.2.1 hd) hl hv S) hr
theorem g_aloadN (K : Kx Z own nm bytes ml rt p s m meth c) (pc : Nat) {i : Fin 4} {v : Value} (hd : decode bytes pc = .ok (.aload_n i, 1)) (hl : Ls[i.val]? = some (.val v)) (hv : v.isRef = true) (hr : Go p l e R s m args below meth c n0 Q h k n (mkF m (pc + 1) Ls (v :: st))) : Go p l e R s m args below meth c n0 Q h k n (mkF m pc Ls st) :=
  go_step (fun T L X t S => XS.aloadN X.here K.1 rfl (hb K.2.2.2.1 hd) hl hv S) hr
theorem g_istore (K : Kx Z own nm bytes ml rt p s m meth c) (pc : Nat) {i : Nat} {v : Int32} (l' : Array Slot) (hd : decode bytes pc = .ok (.istore i, 2)) (hl : storeLocals Ls i (.int v) = some l') (hr : Go p l e R s m args below meth c n0 Q h k n (mkF m (pc + 2) l' st)) : Go p l e R s m args below meth c n0 Q h k n (mkF m pc Ls (.int v :: st)) :=
  go_step (fun T L X t S => XS.istore X.here K.1 rfl (hb K.2.2.2.1 hd) rfl hl S) hr
theorem g_istoreN (K : Kx Z own nm bytes ml rt p s m meth c) (pc : Nat) {i : Fin 4} {v : Int32} (l' : Array Slot) (hd : decode bytes pc = .ok (.istore_n i, 1)) (hl : storeLocals Ls i.val (.int v) = some l') (hr : Go p l e R s m args below meth c n0 Q h k n (mkF m (pc + 1) l' st)) : Go p l e R s m args below meth c n0 Q h k n (mkF m pc Ls (.int v :: st)) :=
  go_step (fun T L X t S => XS.istoreN X.here K.1 rfl (hb K.2.2.2.1 hd) rfl hl S) hr
theorem g_lstore (K : Kx Z own nm bytes ml rt p s m meth c) (pc : Nat) {i : Nat} {v : Int64} (l' : Array Slot) (hd : decode bytes pc = .ok (.lstore i, 2)) (hl : storeLocals Ls i (.long v) = some l') (hr : Go p l e R s m args below meth c n0 Q h k n (mkF m (pc + 2) l' st)) : Go p l e R s m args below meth c n0 Q h k n (mkF m pc Ls (.long v :: st)) :=
  go_step (fun T L X t S => XT.lstore X.here K.1 rfl (hb K.2.2.2.1 hd) rfl hl S) hr
theorem g_lstoreN (K : Kx Z own nm bytes ml rt p s m meth c) (pc : Nat) {i : Fin 4} {v : Int64} (l' : Array Slot) (hd : decode bytes pc = .ok (.lstore_n i, 1)) (hl : storeLocals Ls i.val (.long v) = some l') (hr : Go p l e R s m args below meth c n0 Q h k n (mkF m (pc + 1) l' st)) : Go p l e R s m args below meth c n0 Q h k n (mkF m pc Ls (.long v :: st)) :=
  go_step (fun T L X t S => XT.lstoreN X.here K.1 rfl (hb K.2.2.2.1 hd) rfl hl S) hr
theorem g_astore (K : Kx Z own nm bytes ml rt p s m meth c) (pc : Nat) {i : Nat} {v : Value} (l' : Array Slot) (hd : decode bytes pc = .ok (.astore i, 2)) (hv : v.isRef = true) (hl : storeLocals Ls i v = some l') (hr : Go p l e R s m args below meth c n0 Q h k n (mkF m (pc + 2) l' st)) : Go p l e R s m args below meth c n0 Q h k n (mkF m pc Ls (v :: st)) :=
  go_step (fun T L X t S => XS.astore X.here K.1 rfl (hb K.2.2.2.1 hd) rfl hv hl S) hr
theorem g_astoreN (K : Kx Z own nm bytes ml rt p s m meth c) (pc : Nat) {i : Fin 4} {v : Value} (l' : Array Slot) (hd : decode bytes pc = .ok (.astore_n i, 1)) (hv : v.isRef = true) (hl : storeLocals Ls i.val v = some l') (hr : Go p l e R s m args below meth c n0 Q h k n (mkF m (pc + 1) l' st)) : Go p l e R s m args below meth c n0 Q h k n (mkF m pc Ls (v :: st)) :=
  go_step (fun T L X t S => XS.astoreN X.here K.1 rfl (hb K.2.2.2.1 hd) rfl hv hl S) hr
theorem g_iconst (K : Kx Z own nm bytes ml rt p s m meth c) (pc : Nat) {i : Int} (v : Int32) (hd : decode bytes pc = .ok (.iconst i, 1)) (hv : Int32.ofInt i = v) (hr : Go p l e R s m args below meth c n0 Q h k n (mkF m (pc + 1) Ls (.int v :: st))) : Go p l e R s m args below meth c n0 Q h k n (mkF m pc Ls st) :=
  go_step (fun T L X t S => XT.iconstV X.here K.1 rfl v (hb K.2.2.2.1 hd) hv S) hr
theorem g_bipush (K : Kx Z own nm bytes ml rt p s m meth c) (pc : Nat) {i : Int} (v : Int32) (hd : decode bytes pc = .ok (.bipush i, 2)) (hv : (Int8.ofInt i).toInt32 = v) (hr : Go p l e R s m args below meth c n0 Q h k n (mkF m (pc + 2) Ls (.int v :: st))) : Go p l e R s m args below meth c n0 Q h k n (mkF m pc Ls st) :=
  go_step (fun T L X t S => XT.bipushV X.here K.1 rfl v (hb K.2.2.2.1 hd) hv S) hr
theorem g_sipush (K : Kx Z own nm bytes ml rt p s m meth c) (pc : Nat) {i : Int} (v : Int32) (hd : decode bytes pc = .ok (.sipush i, 3)) (hv : (Int16.ofInt i).toInt32 = v) (hr : Go p l e R s m args below meth c n0 Q h k n (mkF m (pc + 3) Ls (.int v :: st))) : Go p l e R s m args below meth c n0 Q h k n (mkF m pc Ls st) :=
  go_step (fun T L X t S => XT.sipushV X.here K.1 rfl v (hb K.2.2.2.1 hd) hv S) hr
theorem g_lconst (K : Kx Z own nm bytes ml rt p s m meth c) (pc : Nat) {i : Fin 2} (v : Int64) (hd : decode bytes pc = .ok (.lconst i, 1)) (hv : Int64.ofNat i = v) (hr : Go p l e R s m args below meth c n0 Q h k n (mkF m (pc + 1) Ls (.long v :: st))) : Go p l e R s m args below meth c n0 Q h k n (mkF m pc Ls st) :=
  go_step (fun T L X t S => XT.lconstV X.here K.1 rfl v (hb K.2.2.2.1 hd) hv S) hr
theorem g_aconst_null (K : Kx Z own nm bytes ml rt p s m meth c) (pc : Nat)  (hd : decode bytes pc = .ok (.aconst_null, 1))  (hr : Go p l e R s m args below meth c n0 Q h k n (mkF m (pc + 1) Ls (.null :: st))) : Go p l e R s m args below meth c n0 Q h k n (mkF m pc Ls st) :=
  go_step (fun T L X t S => XS.aconstNull X.here K.1 rfl (hb K.2.2.2.1 hd)  S) hr
theorem g_iinc (K : Kx Z own nm bytes ml rt p s m meth c) (pc : Nat) {i : Nat} {cst : Int} {x : Int32} (v : Int32) (l' : Array Slot) (hd : decode bytes pc = .ok (.iinc i cst, 3)) (hv : Int32.ofInt cst = v) (hl : Ls[i]? = some (.val (.int x))) (hl' : storeLocals Ls i (.int (x + v)) = some l') (hr : Go p l e R s m args below meth c n0 Q h k n (mkF m (pc + 3) l' st)) : Go p l e R s m args below meth c n0 Q h k n (mkF m pc Ls st) :=
  go_step (fun T L X t S => XT.iincV X.here K.1 rfl v (hb K.2.2.2.1 hd) hv hl hl' S) hr
theorem g_iadd (K : Kx Z own nm bytes ml rt p s m meth c) (pc : Nat) {x y : Int32} (hd : decode bytes pc = .ok (.iadd, 1))  (hr : Go p l e R s m args below meth c n0 Q h k n (mkF m (pc + 1) Ls (.int (x + y) :: st))) : Go p l e R s m args below meth c n0 Q h k n (mkF m pc Ls (.int y :: .int x :: st)) :=
  go_step (fun T L X t S => XS.iadd X.here K.1 rfl (hb K.2.2.2.1 hd) rfl S) hr
theorem g_isub (K : Kx Z own nm bytes ml rt p s m meth c) (pc : Nat) {x y : Int32} (hd : decode bytes pc = .ok (.isub, 1))  (hr : Go p l e R s m args below meth c n0 Q h k n (mkF m (pc + 1) Ls (.int (x - y) :: st))) : Go p l e R s m args below meth c n0 Q h k n (mkF m pc Ls (.int y :: .int x :: st)) :=
  go_step (fun T L X t S => XS.isub X.here K.1 rfl (hb K.2.2.2.1 hd) rfl S) hr
theorem g_imul (K : Kx Z own nm bytes ml rt p s m meth c) (pc : Nat) {x y : Int32} (hd : decode bytes pc = .ok (.imul, 1))  (hr : Go p l e R s m args below meth c n0 Q h k n (mkF m (pc + 1) Ls (.int (x * y) :: st))) : Go p l e R s m args below meth c n0 Q h k n (mkF m pc Ls (.int y :: .int x :: st)) :=
  go_step (fun T L X t S => XS.imul X.here K.1 rfl (hb K.2.2.2.1 hd) rfl S) hr
theorem g_iand (K : Kx Z own nm bytes ml rt p s m meth c) (pc : Nat) {x y : Int32} (hd : decode bytes pc = .ok (.iand, 1))  (hr : Go p l e R s m args below meth c n0 Q h k n (mkF m (pc + 1) Ls (.int (x &&& y) :: st))) : Go p l e R s m args below meth c n0 Q h k n (mkF m pc Ls (.int y :: .int x :: st)) :=
  go_step (fun T L X t S => XS.iand X.here K.1 rfl (hb K.2.2.2.1 hd) rfl S) hr
theorem g_ior (K : Kx Z own nm bytes ml rt p s m meth c) (pc : Nat) {x y : Int32} (hd : decode bytes pc = .ok (.ior, 1))  (hr : Go p l e R s m args below meth c n0 Q h k n (mkF m (pc + 1) Ls (.int (x ||| y) :: st))) : Go p l e R s m args below meth c n0 Q h k n (mkF m pc Ls (.int y :: .int x :: st)) :=
  go_step (fun T L X t S => XT.ior X.here K.1 rfl (hb K.2.2.2.1 hd) rfl S) hr
theorem g_ixor (K : Kx Z own nm bytes ml rt p s m meth c) (pc : Nat) {x y : Int32} (hd : decode bytes pc = .ok (.ixor, 1))  (hr : Go p l e R s m args below meth c n0 Q h k n (mkF m (pc + 1) Ls (.int (x ^^^ y) :: st))) : Go p l e R s m args below meth c n0 Q h k n (mkF m pc Ls (.int y :: .int x :: st)) :=
  go_step (fun T L X t S => XT.ixor X.here K.1 rfl (hb K.2.2.2.1 hd) rfl S) hr
theorem g_ishl (K : Kx Z own nm bytes ml rt p s m meth c) (pc : Nat) {x y : Int32} (hd : decode bytes pc = .ok (.ishl, 1))  (hr : Go p l e R s m args below meth c n0 Q h k n (mkF m (pc + 1) Ls (.int (x <<< (y &&& 31)) :: st))) : Go p l e R s m args below meth c n0 Q h k n (mkF m pc Ls (.int y :: .int x :: st)) :=
  go_step (fun T L X t S => XT.ishl X.here K.1 rfl (hb K.2.2.2.1 hd) rfl S) hr
theorem g_ishr (K : Kx Z own nm bytes ml rt p s m meth c) (pc : Nat) {x y : Int32} (hd : decode bytes pc = .ok (.ishr, 1))  (hr : Go p l e R s m args below meth c n0 Q h k n (mkF m (pc + 1) Ls (.int (x >>> (y &&& 31)) :: st))) : Go p l e R s m args below meth c n0 Q h k n (mkF m pc Ls (.int y :: .int x :: st)) :=
  go_step (fun T L X t S => XT.ishr X.here K.1 rfl (hb K.2.2.2.1 hd) rfl S) hr
theorem g_iushr (K : Kx Z own nm bytes ml rt p s m meth c) (pc : Nat) {x y : Int32} (hd : decode bytes pc = .ok (.iushr, 1))  (hr : Go p l e R s m args below meth c n0 Q h k n (mkF m (pc + 1) Ls (.int (XT.ushr x y) :: st))) : Go p l e R s m args below meth c n0 Q h k n (mkF m pc Ls (.int y :: .int x :: st)) :=
  go_step (fun T L X t S => XT.iushr X.here K.1 rfl (hb K.2.2.2.1 hd) rfl S) hr
theorem g_idiv (K : Kx Z own nm bytes ml rt p s m meth c) (pc : Nat) {x y : Int32} (hd : decode bytes pc = .ok (.idiv, 1)) (hy : y ≠ 0) (hr : Go p l e R s m args below meth c n0 Q h k n (mkF m (pc + 1) Ls (.int (x / y) :: st))) : Go p l e R s m args below meth c n0 Q h k n (mkF m pc Ls (.int y :: .int x :: st)) :=
  go_step (fun T L X t S => XS.idiv X.here K.1 rfl (hb K.2.2.2.1 hd) rfl hy S) hr
theorem g_irem (K : Kx Z own nm bytes ml rt p s m meth c) (pc : Nat) {x y : Int32} (hd : decode bytes pc = .ok (.irem, 1)) (hy : y ≠ 0) (hr : Go p l e R s m args below meth c n0 Q h k n (mkF m (pc + 1) Ls (.int (x % y) :: st))) : Go p l e R s m args below meth c n0 Q h k n (mkF m pc Ls (.int y :: .int x :: st)) :=
  go_step (fun T L X t S => iremM X K.1 rfl (hb K.2.2.2.1 hd) rfl hy S) hr
theorem g_ineg (K : Kx Z own nm bytes ml rt p s m meth c) (pc : Nat) {x : Int32} (hd : decode bytes pc = .ok (.ineg, 1))  (hr : Go p l e R s m args below meth c n0 Q h k n (mkF m (pc + 1) Ls (.int (-x) :: st))) : Go p l e R s m args below meth c n0 Q h k n (mkF m pc Ls (.int x :: st)) :=
  go_step (fun T L X t S => XS.ineg X.here K.1 rfl (hb K.2.2.2.1 hd) rfl S) hr
theorem g_ladd (K : Kx Z own nm bytes ml rt p s m meth c) (pc : Nat) {x y : Int64} (hd : decode bytes pc = .ok (.ladd, 1))  (hr : Go p l e R s m args below meth c n0 Q h k n (mkF m (pc + 1) Ls (.long (x + y) :: st))) : Go p l e R s m args below meth c n0 Q h k n (mkF m pc Ls (.long y :: .long x :: st)) :=
  go_step (fun T L X t S => XT.ladd X.here K.1 rfl (hb K.2.2.2.1 hd) rfl S) hr
theorem g_lsub (K : Kx Z own nm bytes ml rt p s m meth c) (pc : Nat) {x y : Int64} (hd : decode bytes pc = .ok (.lsub, 1))  (hr : Go p l e R s m args below meth c n0 Q h k n (mkF m (pc + 1) Ls (.long (x - y) :: st))) : Go p l e R s m args below meth c n0 Q h k n (mkF m pc Ls (.long y :: .long x :: st)) :=
  go_step (fun T L X t S => XT.lsub X.here K.1 rfl (hb K.2.2.2.1 hd) rfl S) hr
theorem g_lmul (K : Kx Z own nm bytes ml rt p s m meth c) (pc : Nat) {x y : Int64} (hd : decode bytes pc = .ok (.lmul, 1))  (hr : Go p l e R s m args below meth c n0 Q h k n (mkF m (pc + 1) Ls (.long (x * y) :: st))) : Go p l e R s m args below meth c n0 Q h k n (mkF m pc Ls (.long y :: .long x :: st)) :=
  go_step (fun T L X t S => XT.lmul X.here K.1 rfl (hb K.2.2.2.1 hd) rfl S) hr
theorem g_land (K : Kx Z own nm bytes ml rt p s m meth c) (pc : Nat) {x y : Int64} (hd : decode bytes pc = .ok (.land, 1))  (hr : Go p l e R s m args below meth c n0 Q h k n (mkF m (pc + 1) Ls (.long (x &&& y) :: st))) : Go p l e R s m args below meth c n0 Q h k n (mkF m pc Ls (.long y :: .long x :: st)) :=
  go_step (fun T L X t S => XT.land X.here K.1 rfl (hb K.2.2.2.1 hd) rfl S) hr
theorem g_lor (K : Kx Z own nm bytes ml rt p s m meth c) (pc : Nat) {x y : Int64} (hd : decode bytes pc = .ok (.lor, 1))  (hr : Go p l e R s m args below meth c n0 Q h k n (mkF m (pc + 1) Ls (.long (x ||| y) :: st))) : Go p l e R s m args below meth c n0 Q h k n (mkF m pc Ls (.long y :: .long x :: st)) :=
  go_step (fun T L X t S => XT.lor X.here K.1 rfl (hb K.2.2.2.1 hd) rfl S) hr
theorem g_lxor (K : Kx Z own nm bytes ml rt p s m meth c) (pc : Nat) {x y : Int64} (hd : decode bytes pc = .ok (.lxor, 1))  (hr : Go p l e R s m args below meth c n0 Q h k n (mkF m (pc + 1) Ls (.long (x ^^^ y) :: st))) : Go p l e R s m args below meth c n0 Q h k n (mkF m pc Ls (.long y :: .long x :: st)) :=
  go_step (fun T L X t S => XT.lxor X.here K.1 rfl (hb K.2.2.2.1 hd) rfl S) hr
theorem g_ldiv (K : Kx Z own nm bytes ml rt p s m meth c) (pc : Nat) {x y : Int64} (hd : decode bytes pc = .ok (.ldiv, 1)) (hy : y ≠ 0) (hr : Go p l e R s m args below meth c n0 Q h k n (mkF m (pc + 1) Ls (.long (x / y) :: st))) : Go p l e R s m args below meth c n0 Q h k n (mkF m pc Ls (.long y :: .long x :: st)) :=
  go_step (fun T L X t S => XT.ldiv X.here K.1 rfl (hb K.2.2.2.1 hd) rfl hy S) hr
theorem g_lshl (K : Kx Z own nm bytes ml rt p s m meth c) (pc : Nat) {x : Int64} {y : Int32} (hd : decode bytes pc = .ok (.lshl, 1))  (hr : Go p l e R s m args below meth c n0 Q h k n (mkF m (pc + 1) Ls (.long (x <<< (y.toInt64 &&& 63)) :: st))) : Go p l e R s m args below meth c n0 Q h k n (mkF m pc Ls (.int y :: .long x :: st)) :=
  go_step (fun T L X t S => XT.lshl X.here K.1 rfl (hb K.2.2.2.1 hd) rfl S) hr
theorem g_lshr (K : Kx Z own nm bytes ml rt p s m meth c) (pc : Nat) {x : Int64} {y : Int32} (hd : decode bytes pc = .ok (.lshr, 1))  (hr : Go p l e R s m args below meth c n0 Q h k n (mkF m (pc + 1) Ls (.long (x >>> (y.toInt64 &&& 63)) :: st))) : Go p l e R s m args below meth c n0 Q h k n (mkF m pc Ls (.int y :: .long x :: st)) :=
  go_step (fun T L X t S => XT.lshr X.here K.1 rfl (hb K.2.2.2.1 hd) rfl S) hr
theorem g_lushr (K : Kx Z own nm bytes ml rt p s m meth c) (pc : Nat) {x : Int64} {y : Int32} (hd : decode bytes pc = .ok (.lushr, 1))  (hr : Go p l e R s m args below meth c n0 Q h k n (mkF m (pc + 1) Ls (.long (XT.ushrL x y) :: st))) : Go p l e R s m args below meth c n0 Q h k n (mkF m pc Ls (.int y :: .long x :: st)) :=
  go_step (fun T L X t S => XT.lushr X.here K.1 rfl (hb K.2.2.2.1 hd) rfl S) hr
theorem g_lneg (K : Kx Z own nm bytes ml rt p s m meth c) (pc : Nat) {x : Int64} (hd : decode bytes pc = .ok (.lneg, 1))  (hr : Go p l e R s m args below meth c n0 Q h k n (mkF m (pc + 1) Ls (.long (-x) :: st))) : Go p l e R s m args below meth c n0 Q h k n (mkF m pc Ls (.long x :: st)) :=
  go_step (fun T L X t S => XT.lneg X.here K.1 rfl (hb K.2.2.2.1 hd) rfl S) hr
theorem g_i2l (K : Kx Z own nm bytes ml rt p s m meth c) (pc : Nat) {x : Int32} (hd : decode bytes pc = .ok (.i2l, 1))  (hr : Go p l e R s m args below meth c n0 Q h k n (mkF m (pc + 1) Ls (.long x.toInt64 :: st))) : Go p l e R s m args below meth c n0 Q h k n (mkF m pc Ls (.int x :: st)) :=
  go_step (fun T L X t S => XT.i2l X.here K.1 rfl (hb K.2.2.2.1 hd) rfl S) hr
theorem g_l2i (K : Kx Z own nm bytes ml rt p s m meth c) (pc : Nat) {x : Int64} (hd : decode bytes pc = .ok (.l2i, 1))  (hr : Go p l e R s m args below meth c n0 Q h k n (mkF m (pc + 1) Ls (.int x.toInt32 :: st))) : Go p l e R s m args below meth c n0 Q h k n (mkF m pc Ls (.long x :: st)) :=
  go_step (fun T L X t S => XT.l2i X.here K.1 rfl (hb K.2.2.2.1 hd) rfl S) hr
theorem g_i2b (K : Kx Z own nm bytes ml rt p s m meth c) (pc : Nat) {x : Int32} (hd : decode bytes pc = .ok (.i2b, 1))  (hr : Go p l e R s m args below meth c n0 Q h k n (mkF m (pc + 1) Ls (.int x.toInt8.toInt32 :: st))) : Go p l e R s m args below meth c n0 Q h k n (mkF m pc Ls (.int x :: st)) :=
  go_step (fun T L X t S => XT.i2b X.here K.1 rfl (hb K.2.2.2.1 hd) rfl S) hr
theorem g_i2s (K : Kx Z own nm bytes ml rt p s m meth c) (pc : Nat) {x : Int32} (hd : decode bytes pc = .ok (.i2s, 1))  (hr : Go p l e R s m args below meth c n0 Q h k n (mkF m (pc + 1) Ls (.int x.toInt16.toInt32 :: st))) : Go p l e R s m args below meth c n0 Q h k n (mkF m pc Ls (.int x :: st)) :=
  go_step (fun T L X t S => XT.i2s X.here K.1 rfl (hb K.2.2.2.1 hd) rfl S) hr
theorem g_lcmp (K : Kx Z own nm bytes ml rt p s m meth c) (pc : Nat) {x y : Int64} (hd : decode bytes pc = .ok (.lcmp, 1))  (hr : Go p l e R s m args below meth c n0 Q h k n (mkF m (pc + 1) Ls (.int (XT.cmpL x y) :: st))) : Go p l e R s m args below meth c n0 Q h k n (mkF m pc Ls (.long y :: .long x :: st)) :=
  go_step (fun T L X t S => XT.lcmp X.here K.1 rfl (hb K.2.2.2.1 hd) rfl S) hr
theorem g_dup (K : Kx Z own nm bytes ml rt p s m meth c) (pc : Nat) {v : Value} (hd : decode bytes pc = .ok (.dup, 1)) (hc : v.category = 1) (hr : Go p l e R s m args below meth c n0 Q h k n (mkF m (pc + 1) Ls (v :: v :: st))) : Go p l e R s m args below meth c n0 Q h k n (mkF m pc Ls (v :: st)) :=
  go_step (fun T L X t S => XS.dup X.here K.1 rfl (hb K.2.2.2.1 hd) rfl hc S) hr
theorem g_pop (K : Kx Z own nm bytes ml rt p s m meth c) (pc : Nat) {v : Value} (hd : decode bytes pc = .ok (.pop, 1)) (hc : v.category = 1) (hr : Go p l e R s m args below meth c n0 Q h k n (mkF m (pc + 1) Ls st)) : Go p l e R s m args below meth c n0 Q h k n (mkF m pc Ls (v :: st)) :=
  go_step (fun T L X t S => XT.pop X.here K.1 rfl (hb K.2.2.2.1 hd) rfl hc S) hr
theorem g_goto (K : Kx Z own nm bytes ml rt p s m meth c) (pc pc' : Nat) {o : Int} (hd : decode bytes pc = .ok (.goto o, 3)) (ho : 0 ≤ (pc : Int) + o) (hp : ((pc : Int) + o).toNat = pc') (hr : Go p l e R s m args below meth c n0 Q h k n (mkF m pc' Ls st)) : Go p l e R s m args below meth c n0 Q h k n (mkF m pc Ls st) :=
  go_step (fun T L X t S => XS.goto X.here K.1 rfl rfl (hb K.2.2.2.1 hd) ho hp S) hr
theorem g_if_eq (K : Kx Z own nm bytes ml rt p s m meth c) (pc pc' : Nat) {o : Int} {x : Int32} (hd : decode bytes pc = .ok (.ifCond .eq o, 3)) (ho : 0 ≤ (pc : Int) + o) (hp : ((pc : Int) + o).toNat = pc') (hT : x = 0 → Go p l e R s m args below meth c n0 Q h k n (mkF m pc' Ls st)) (hF : ¬ x = 0 → Go p l e R s m args below meth c n0 Q h k n (mkF m (pc + 3) Ls st)) : Go p l e R s m args below meth c n0 Q h k n (mkF m pc Ls (.int x :: st)) := by
  by_cases q : x = 0
  · exact go_step (fun T L X t S => XS.ifYes X.here K.1 rfl rfl (hb K.2.2.2.1 hd) rfl (XT.i0_eq_t q) ho hp S) (hT q)
  · exact go_step (fun T L X t S => XS.ifNo X.here K.1 rfl (hb K.2.2.2.1 hd) rfl (XT.i0_eq_f q) S) (hF q)
theorem g_ii_eq (K : Kx Z own nm bytes ml rt p s m meth c) (pc pc' : Nat) {o : Int} {x y : Int32} (hd : decode bytes pc = .ok (.if_icmp .eq o, 3)) (ho : 0 ≤ (pc : Int) + o) (hp : ((pc : Int) + o).toNat = pc') (hT : x = y → Go p l e R s m args below meth c n0 Q h k n (mkF m pc' Ls st)) (hF : ¬ x = y → Go p l e R s m args below meth c n0 Q h k n (mkF m (pc + 3) Ls st)) : Go p l e R s m args below meth c n0 Q h k n (mkF m pc Ls (.int y :: .int x :: st)) := by
  by_cases q : x = y
  · exact go_step (fun T L X t S => XS.icmpYes X.here K.1 rfl rfl (hb K.2.2.2.1 hd) rfl (XT.ii_eq_t q) ho hp S) (hT q)
  · exact go_step (fun T L X t S => XS.icmpNo X.here K.1 rfl (hb K.2.2.2.1 hd) rfl (XT.ii_eq_f q) S) (hF q)
theorem g_ll_eq (K : Kx Z own nm bytes ml rt p s m meth c) (pc pc' : Nat) {o : Int} {x y : Int64} (hd : decode bytes pc = .ok (.ifCond .eq o, 3)) (ho : 0 ≤ (pc : Int) + o) (hp : ((pc : Int) + o).toNat = pc') (hT : x = y → Go p l e R s m args below meth c n0 Q h k n (mkF m pc' Ls st)) (hF : ¬ x = y → Go p l e R s m args below meth c n0 Q h k n (mkF m (pc + 3) Ls st)) : Go p l e R s m args below meth c n0 Q h k n (mkF m pc Ls (.int (XT.cmpL x y) :: st)) := by
  by_cases q : x = y
  · exact go_step (fun T L X t S => XS.ifYes X.here K.1 rfl rfl (hb K.2.2.2.1 hd) rfl (XT.ll_eq_t q) ho hp S) (hT q)
  · exact go_step (fun T L X t S => XS.ifNo X.here K.1 rfl (hb K.2.2.2.1 hd) rfl (XT.ll_eq_f q) S) (hF q)
theorem g_if_ne (K : Kx Z own nm bytes ml rt p s m meth c) (pc pc' : Nat) {o : Int} {x : Int32} (hd : decode bytes pc = .ok (.ifCond .ne o, 3)) (ho : 0 ≤ (pc : Int) + o) (hp : ((pc : Int) + o).toNat = pc') (hT : ¬ x = 0 → Go p l e R s m args below meth c n0 Q h k n (mkF m pc' Ls st)) (hF : x = 0 → Go p l e R s m args below meth c n0 Q h k n (mkF m (pc + 3) Ls st)) : Go p l e R s m args below meth c n0 Q h k n (mkF m pc Ls (.int x :: st)) := by
  by_cases q : x = 0
  · exact go_step (fun T L X t S => XS.ifNo X.here K.1 rfl (hb K.2.2.2.1 hd) rfl (XT.i0_ne_f q) S) (hF q)
  · exact go_step (fun T L X t S => XS.ifYes X.here K.1 rfl rfl (hb K.2.2.2.1 hd) rfl (XT.i0_ne_t q) ho hp S) (hT q)
theorem g_ii_ne (K : Kx Z own nm bytes ml rt p s m meth c) (pc pc' : Nat) {o : Int} {x y : Int32} (hd : decode bytes pc = .ok (.if_icmp .ne o, 3)) (ho : 0 ≤ (pc : Int) + o) (hp : ((pc : Int) + o).toNat = pc') (hT : ¬ x = y → Go p l e R s m args below meth c n0 Q h k n (mkF m pc' Ls st)) (hF : x = y → Go p l e R s m args below meth c n0 Q h k n (mkF m (pc + 3) Ls st)) : Go p l e R s m args below meth c n0 Q h k n (mkF m pc Ls (.int y :: .int x :: st)) := by
  by_cases q : x = y
  · exact go_step (fun T L X t S => XS.icmpNo X.here K.1 rfl (hb K.2.2.2.1 hd) rfl (XT.ii_ne_f q) S) (hF q)
  · exact go_step (fun T L X t S => XS.icmpYes X.here K.1 rfl rfl (hb K.2.2.2.1 hd) rfl (XT.ii_ne_t q) ho hp S) (hT q)
theorem g_ll_ne (K : Kx Z own nm bytes ml rt p s m meth c) (pc pc' : Nat) {o : Int} {x y : Int64} (hd : decode bytes pc = .ok (.ifCond .ne o, 3)) (ho : 0 ≤ (pc : Int) + o) (hp : ((pc : Int) + o).toNat = pc') (hT : ¬ x = y → Go p l e R s m args below meth c n0 Q h k n (mkF m pc' Ls st)) (hF : x = y → Go p l e R s m args below meth c n0 Q h k n (mkF m (pc + 3) Ls st)) : Go p l e R s m args below meth c n0 Q h k n (mkF m pc Ls (.int (XT.cmpL x y) :: st)) := by
  by_cases q : x = y
  · exact go_step (fun T L X t S => XS.ifNo X.here K.1 rfl (hb K.2.2.2.1 hd) rfl (XT.ll_ne_f q) S) (hF q)
  · exact go_step (fun T L X t S => XS.ifYes X.here K.1 rfl rfl (hb K.2.2.2.1 hd) rfl (XT.ll_ne_t q) ho hp S) (hT q)
theorem g_if_lt (K : Kx Z own nm bytes ml rt p s m meth c) (pc pc' : Nat) {o : Int} {x : Int32} (hd : decode bytes pc = .ok (.ifCond .lt o, 3)) (ho : 0 ≤ (pc : Int) + o) (hp : ((pc : Int) + o).toNat = pc') (hT : x < 0 → Go p l e R s m args below meth c n0 Q h k n (mkF m pc' Ls st)) (hF : ¬ x < 0 → Go p l e R s m args below meth c n0 Q h k n (mkF m (pc + 3) Ls st)) : Go p l e R s m args below meth c n0 Q h k n (mkF m pc Ls (.int x :: st)) := by
  by_cases q : x < 0
  · exact go_step (fun T L X t S => XS.ifYes X.here K.1 rfl rfl (hb K.2.2.2.1 hd) rfl (XT.i0_lt_t q) ho hp S) (hT q)
  · exact go_step (fun T L X t S => XS.ifNo X.here K.1 rfl (hb K.2.2.2.1 hd) rfl (XT.i0_lt_f q) S) (hF q)
theorem g_ii_lt (K : Kx Z own nm bytes ml rt p s m meth c) (pc pc' : Nat) {o : Int} {x y : Int32} (hd : decode bytes pc = .ok (.if_icmp .lt o, 3)) (ho : 0 ≤ (pc : Int) + o) (hp : ((pc : Int) + o).toNat = pc') (hT : x < y → Go p l e R s m args below meth c n0 Q h k n (mkF m pc' Ls st)) (hF : ¬ x < y → Go p l e R s m args below meth c n0 Q h k n (mkF m (pc + 3) Ls st)) : Go p l e R s m args below meth c n0 Q h k n (mkF m pc Ls (.int y :: .int x :: st)) := by
  by_cases q : x < y
  · exact go_step (fun T L X t S => XS.icmpYes X.here K.1 rfl rfl (hb K.2.2.2.1 hd) rfl (XT.ii_lt_t q) ho hp S) (hT q)
  · exact go_step (fun T L X t S => XS.icmpNo X.here K.1 rfl (hb K.2.2.2.1 hd) rfl (XT.ii_lt_f q) S) (hF q)
theorem g_ll_lt (K : Kx Z own nm bytes ml rt p s m meth c) (pc pc' : Nat) {o : Int} {x y : Int64} (hd : decode bytes pc = .ok (.ifCond .lt o, 3)) (ho : 0 ≤ (pc : Int) + o) (hp : ((pc : Int) + o).toNat = pc') (hT : x < y → Go p l e R s m args below meth c n0 Q h k n (mkF m pc' Ls st)) (hF : ¬ x < y → Go p l e R s m args below meth c n0 Q h k n (mkF m (pc + 3) Ls st)) : Go p l e R s m args below meth c n0 Q h k n (mkF m pc Ls (.int (XT.cmpL x y) :: st)) := by
  by_cases q : x < y
  · exact go_step (fun T L X t S => XS.ifYes X.here K.1 rfl rfl (hb K.2.2.2.1 hd) rfl (XT.ll_lt_t q) ho hp S) (hT q)
  · exact go_step (fun T L X t S => XS.ifNo X.here K.1 rfl (hb K.2.2.2.1 hd) rfl (XT.ll_lt_f q) S) (hF q)
theorem g_if_ge (K : Kx Z own nm bytes ml rt p s m meth c) (pc pc' : Nat) {o : Int} {x : Int32} (hd : decode bytes pc = .ok (.ifCond .ge o, 3)) (ho : 0 ≤ (pc : Int) + o) (hp : ((pc : Int) + o).toNat = pc') (hT : ¬ x < 0 → Go p l e R s m args below meth c n0 Q h k n (mkF m pc' Ls st)) (hF : x < 0 → Go p l e R s m args below meth c n0 Q h k n (mkF m (pc + 3) Ls st)) : Go p l e R s m args below meth c n0 Q h k n (mkF m pc Ls (.int x :: st)) := by
  by_cases q : x < 0
  · exact go_step (fun T L X t S => XS.ifNo X.here K.1 rfl (hb K.2.2.2.1 hd) rfl (XT.i0_ge_f q) S) (hF q)
  · exact go_step (fun T L X t S => XS.ifYes X.here K.1 rfl rfl (hb K.2.2.2.1 hd) rfl (XT.i0_ge_t q) ho hp S) (hT q)
theorem g_ii_ge (K : Kx Z own nm bytes ml rt p s m meth c) (pc pc' : Nat) {o : Int} {x y : Int32} (hd : decode bytes pc = .ok (.if_icmp .ge o, 3)) (ho : 0 ≤ (pc : Int) + o) (hp : ((pc : Int) + o).toNat = pc') (hT : ¬ x < y → Go p l e R s m args below meth c n0 Q h k n (mkF m pc' Ls st)) (hF : x < y → Go p l e R s m args below meth c n0 Q h k n (mkF m (pc + 3) Ls st)) : Go p l e R s m args below meth c n0 Q h k n (mkF m pc Ls (.int y :: .int x :: st)) := by
  by_cases q : x < y
  · exact go_step (fun T L X t S => XS.icmpNo X.here K.1 rfl (hb K.2.2.2.1 hd) rfl (XT.ii_ge_f q) S) (hF q)
  · exact go_step (fun T L X t S => XS.icmpYes X.here K.1 rfl rfl (hb K.2.2.2.1 hd) rfl (XT.ii_ge_t q) ho hp S) (hT q)
theorem g_ll_ge (K : Kx Z own nm bytes ml rt p s m meth c) (pc pc' : Nat) {o : Int} {x y : Int64} (hd : decode bytes pc = .ok (.ifCond .ge o, 3)) (ho : 0 ≤ (pc : Int) + o) (hp : ((pc : Int) + o).toNat = pc') (hT : ¬ x < y → Go p l e R s m args below meth c n0 Q h k n (mkF m pc' Ls st)) (hF : x < y → Go p l e R s m args below meth c n0 Q h k n (mkF m (pc + 3) Ls st)) : Go p l e R s m args below meth c n0 Q h k n (mkF m pc Ls (.int (XT.cmpL x y) :: st)) := by
  by_cases q : x < y
  · exact go_step (fun T L X t S => XS.ifNo X.here K.1 rfl (hb K.2.2.2.1 hd) rfl (XT.ll_ge_f q) S) (hF q)
  · exact go_step (fun T L X t S => XS.ifYes X.here K.1 rfl rfl (hb K.2.2.2.1 hd) rfl (XT.ll_ge_t q) ho hp S) (hT q)
theorem g_if_gt (K : Kx Z own nm bytes ml rt p s m meth c) (pc pc' : Nat) {o : Int} {x : Int32} (hd : decode bytes pc = .ok (.ifCond .gt o, 3)) (ho : 0 ≤ (pc : Int) + o) (hp : ((pc : Int) + o).toNat = pc') (hT : 0 < x → Go p l e R s m args below meth c n0 Q h k n (mkF m pc' Ls st)) (hF : ¬ 0 < x → Go p l e R s m args below meth c n0 Q h k n (mkF m (pc + 3) Ls st)) : Go p l e R s m args below meth c n0 Q h k n (mkF m pc Ls (.int x :: st)) := by
  by_cases q : 0 < x
  · exact go_step (fun T L X t S => XS.ifYes X.here K.1 rfl rfl (hb K.2.2.2.1 hd) rfl (XT.i0_gt_t q) ho hp S) (hT q)
  · exact go_step (fun T L X t S => XS.ifNo X.here K.1 rfl (hb K.2.2.2.1 hd) rfl (XT.i0_gt_f q) S) (hF q)
theorem g_ii_gt (K : Kx Z own nm bytes ml rt p s m meth c) (pc pc' : Nat) {o : Int} {x y : Int32} (hd : decode bytes pc = .ok (.if_icmp .gt o, 3)) (ho : 0 ≤ (pc : Int) + o) (hp : ((pc : Int) + o).toNat = pc') (hT : y < x → Go p l e R s m args below meth c n0 Q h k n (mkF m pc' Ls st)) (hF : ¬ y < x → Go p l e R s m args below meth c n0 Q h k n (mkF m (pc + 3) Ls st)) : Go p l e R s m args below meth c n0 Q h k n (mkF m pc Ls (.int y :: .int x :: st)) := by
  by_cases q : y < x
  · exact go_step (fun T L X t S => XS.icmpYes X.here K.1 rfl rfl (hb K.2.2.2.1 hd) rfl (XT.ii_gt_t q) ho hp S) (hT q)
  · exact go_step (fun T L X t S => XS.icmpNo X.here K.1 rfl (hb K.2.2.2.1 hd) rfl (XT.ii_gt_f q) S) (hF q)
theorem g_ll_gt (K : Kx Z own nm bytes ml rt p s m meth c) (pc pc' : Nat) {o : Int} {x y : Int64} (hd : decode bytes pc = .ok (.ifCond .gt o, 3)) (ho : 0 ≤ (pc : Int) + o) (hp : ((pc : Int) + o).toNat = pc') (hT : y < x → Go p l e R s m args below meth c n0 Q h k n (mkF m pc' Ls st)) (hF : ¬ y < x → Go p l e R s m args below meth c n0 Q h k n (mkF m (pc + 3) Ls st)) : Go p l e R s m args below meth c n0 Q h k n (mkF m pc Ls (.int (XT.cmpL x y) :: st)) := by
  by_cases q : y < x
  · exact go_step (fun T L X t S => XS.ifYes X.here K.1 rfl rfl (hb K.2.2.2.1 hd) rfl (XT.ll_gt_t q) ho hp S) (hT q)
  · exact go_step (fun T L X t S => XS.ifNo X.here K.1 rfl (hb K.2.2.2.1 hd) rfl (XT.ll_gt_f q) S) (hF q)
theorem g_if_le (K : Kx Z own nm bytes ml rt p s m meth c) (pc pc' : Nat) {o : Int} {x : Int32} (hd : decode bytes pc = .ok (.ifCond .le o, 3)) (ho : 0 ≤ (pc : Int) + o) (hp : ((pc : Int) + o).toNat = pc') (hT : ¬ 0 < x → Go p l e R s m args below meth c n0 Q h k n (mkF m pc' Ls st)) (hF : 0 < x → Go p l e R s m args below meth c n0 Q h k n (mkF m (pc + 3) Ls st)) : Go p l e R s m args below meth c n0 Q h k n (mkF m pc Ls (.int x :: st)) := by
  by_cases q : 0 < x
  · exact go_step (fun T L X t S => XS.ifNo X.here K.1 rfl (hb K.2.2.2.1 hd) rfl (XT.i0_le_f q) S) (hF q)
  · exact go_step (fun T L X t S => XS.ifYes X.here K.1 rfl rfl (hb K.2.2.2.1 hd) rfl (XT.i0_le_t q) ho hp S) (hT q)
theorem g_ii_le (K : Kx Z own nm bytes ml rt p s m meth c) (pc pc' : Nat) {o : Int} {x y : Int32} (hd : decode bytes pc = .ok (.if_icmp .le o, 3)) (ho : 0 ≤ (pc : Int) + o) (hp : ((pc : Int) + o).toNat = pc') (hT : ¬ y < x → Go p l e R s m args below meth c n0 Q h k n (mkF m pc' Ls st)) (hF : y < x → Go p l e R s m args below meth c n0 Q h k n (mkF m (pc + 3) Ls st)) : Go p l e R s m args below meth c n0 Q h k n (mkF m pc Ls (.int y :: .int x :: st)) := by
  by_cases q : y < x
  · exact go_step (fun T L X t S => XS.icmpNo X.here K.1 rfl (hb K.2.2.2.1 hd) rfl (XT.ii_le_f q) S) (hF q)
  · exact go_step (fun T L X t S => XS.icmpYes X.here K.1 rfl rfl (hb K.2.2.2.1 hd) rfl (XT.ii_le_t q) ho hp S) (hT q)
theorem g_ll_le (K : Kx Z own nm bytes ml rt p s m meth c) (pc pc' : Nat) {o : Int} {x y : Int64} (hd : decode bytes pc = .ok (.ifCond .le o, 3)) (ho : 0 ≤ (pc : Int) + o) (hp : ((pc : Int) + o).toNat = pc') (hT : ¬ y < x → Go p l e R s m args below meth c n0 Q h k n (mkF m pc' Ls st)) (hF : y < x → Go p l e R s m args below meth c n0 Q h k n (mkF m (pc + 3) Ls st)) : Go p l e R s m args below meth c n0 Q h k n (mkF m pc Ls (.int (XT.cmpL x y) :: st)) := by
  by_cases q : y < x
  · exact go_step (fun T L X t S => XS.ifNo X.here K.1 rfl (hb K.2.2.2.1 hd) rfl (XT.ll_le_f q) S) (hF q)
  · exact go_step (fun T L X t S => XS.ifYes X.here K.1 rfl rfl (hb K.2.2.2.1 hd) rfl (XT.ll_le_t q) ho hp S) (hT q)
theorem g_aa_eq (K : Kx Z own nm bytes ml rt p s m meth c) (pc pc' : Nat) {o : Int} {x y : Value} (hx' : x.isRef = true) (hy' : y.isRef = true) (hd : decode bytes pc = .ok (.if_acmp .eq o, 3)) (ho : 0 ≤ (pc : Int) + o) (hp : ((pc : Int) + o).toNat = pc') (hT : x = y → Go p l e R s m args below meth c n0 Q h k n (mkF m pc' Ls st)) (hF : ¬ x = y → Go p l e R s m args below meth c n0 Q h k n (mkF m (pc + 3) Ls st)) : Go p l e R s m args below meth c n0 Q h k n (mkF m pc Ls (y :: x :: st)) := by
  by_cases q : x = y
  · exact go_step (fun T L X t S => XT.acmpYes X.here K.1 rfl rfl (hb K.2.2.2.1 hd) rfl hx' hy' (XT.aa_eq_t q) ho hp S) (hT q)
  · exact go_step (fun T L X t S => XT.acmpNo X.here K.1 rfl (hb K.2.2.2.1 hd) rfl hx' hy' (XT.aa_eq_f q) S) (hF q)
theorem g_aa_ne (K : Kx Z own nm bytes ml rt p s m meth c) (pc pc' : Nat) {o : Int} {x y : Value} (hx' : x.isRef = true) (hy' : y.isRef = true) (hd : decode bytes pc = .ok (.if_acmp .ne o, 3)) (ho : 0 ≤ (pc : Int) + o) (hp : ((pc : Int) + o).toNat = pc') (hT : ¬ x = y → Go p l e R s m args below meth c n0 Q h k n (mkF m pc' Ls st)) (hF : x = y → Go p l e R s m args below meth c n0 Q h k n (mkF m (pc + 3) Ls st)) : Go p l e R s m args below meth c n0 Q h k n (mkF m pc Ls (y :: x :: st)) := by
  by_cases q : x = y
  · exact go_step (fun T L X t S => XT.acmpNo X.here K.1 rfl (hb K.2.2.2.1 hd) rfl hx' hy' (XT.aa_ne_f q) S) (hF q)
  · exact go_step (fun T L X t S => XT.acmpYes X.here K.1 rfl rfl (hb K.2.2.2.1 hd) rfl hx' hy' (XT.aa_ne_t q) ho hp S) (hT q)
theorem g_ifnull_ref (K : Kx Z own nm bytes ml rt p s m meth c) (pc : Nat) {o : Int} {b : Addr} (hd : decode bytes pc = .ok (.ifnull o, 3)) (hr : Go p l e R s m args below meth c n0 Q h k n (mkF m (pc + 3) Ls st)) : Go p l e R s m args below meth c n0 Q h k n (mkF m pc Ls (.ref b :: st)) :=
  go_step (fun T L X t S => XS.ifnullNo X.here K.1 rfl (hb K.2.2.2.1 hd) rfl S) hr
theorem g_ifnull_null (K : Kx Z own nm bytes ml rt p s m meth c) (pc pc' : Nat) {o : Int} (hd : decode bytes pc = .ok (.ifnull o, 3)) (ho : 0 ≤ (pc : Int) + o) (hp : ((pc : Int) + o).toNat = pc') (hr : Go p l e R s m args below meth c n0 Q h k n (mkF m pc' Ls st)) : Go p l e R s m args below meth c n0 Q h k n (mkF m pc Ls (.null :: st)) :=
  go_step (fun T L X t S => XS.ifnullYes X.here K.1 rfl rfl (hb K.2.2.2.1 hd) rfl ho hp S) hr
theorem g_ldc (K : Kx Z own nm bytes ml rt p s m meth c) (pc : Nat) {i : Nat} {v : Int32} (hd : decode bytes pc = .ok (.ldc i, 2)) (w : (Jvm.Cond.constant own i v).before a0 Z = true) (hr : Go p l e R s m args below meth c n0 Q h k n (mkF m (pc + 2) Ls (.int v :: st))) : Go p l e R s m args below meth c n0 Q h k n (mkF m pc Ls st) :=
  go_step (fun T L X t S => X.ldcI K.1 K.2.2.1 (mvT K.2.1 w) rfl (hb K.2.2.2.1 hd) S) hr
theorem g_ldc_w (K : Kx Z own nm bytes ml rt p s m meth c) (pc : Nat) {i : Nat} {v : Int32} (hd : decode bytes pc = .ok (.ldc_w i, 3)) (w : (Jvm.Cond.constant own i v).before a0 Z = true) (hr : Go p l e R s m args below meth c n0 Q h k n (mkF m (pc + 3) Ls (.int v :: st))) : Go p l e R s m args below meth c n0 Q h k n (mkF m pc Ls st) :=
  go_step (fun T L X t S => X.ldcWI K.1 K.2.2.1 (mvT K.2.1 w) rfl (hb K.2.2.2.1 hd) S) hr
theorem g_ldc2_w (K : Kx Z own nm bytes ml rt p s m meth c) (pc : Nat) {i : Nat} {v : Int64} (hd : decode bytes pc = .ok (.ldc2_w i, 3)) (w : (Jvm.Cond.constantLong own i v).before a0 Z = true) (hr : Go p l e R s m args below meth c n0 Q h k n (mkF m (pc + 3) Ls (.long v :: st))) : Go p l e R s m args below meth c n0 Q h k n (mkF m pc Ls st) :=
  go_step (fun T L X t S => X.ldc2J K.1 K.2.2.1 (mvT K.2.1 w) rfl (hb K.2.2.2.1 hd) S) hr
theorem g_ireturn (K : Kx Z own nm bytes ml rt p s m meth c) (pc : Nat) {z : Int32} (hd : decode bytes pc = .ok (.ireturn, 1)) (hrt : rt = some .int)  (hk : k ≤ R.cells) (hn : n ≤ R.slots) (hq : Q (some (.int z)) h) : Go p l e R s m args below meth c n0 Q h k n (mkF m pc Ls [.int z]) := by
  intro T L X eT N
  obtain ⟨fs, hr, hrun, hended, hW, hsame⟩ := X.leave (v := some (.int z)) (fun hh => by first | rfl | (rw [K.2.2.2.2.2.1, hrt] at hh; cases hh)) K.2.2.2.2.2.2.1
  refine ⟨_, _, X.ireturnOut K.1 (K.2.2.2.2.2.1.trans hrt) rfl (Or.inl rfl) (hb K.2.2.2.1 hd) hr, hrun, hended, _, L, rfl, ⟨?_, N⟩, ⟨_, rfl⟩, hW, hsame.mono hk hn⟩
  show Q _ T.heap
  rw [eT]; exact hq
theorem g_retN (K : Kx Z own nm bytes ml rt p s m meth c) (pc : Nat) {z : Int32} (t : FieldType) (hd : decode bytes pc = .ok (.ireturn, 1)) (hrt : rt = some t) (ht : t = .boolean ∨ t = .byte ∨ t = .char ∨ t = .short) (hk : k ≤ R.cells) (hn : n ≤ R.slots) (hq : Q (some (.int (nar t z))) h) : Go p l e R s m args below meth c n0 Q h k n (mkF m pc Ls (.int z :: st)) := by
  intro T L X eT N
  obtain ⟨fs, hr, hrun, hended, hW, hsame⟩ := X.leave (v := some (.int (nar t z))) (fun hh => by first | rfl | (rw [K.2.2.2.2.2.1, hrt] at hh; cases hh)) K.2.2.2.2.2.2.1
  refine ⟨_, _, retN X K.1 (K.2.2.2.2.2.1.trans hrt) ht (hb K.2.2.2.1 hd) hr, hrun, hended, _, L, rfl, ⟨?_, N⟩, ⟨_, rfl⟩, hW, hsame.mono hk hn⟩
  show Q _ T.heap
  rw [eT]; exact hq
theorem g_lreturn (K : Kx Z own nm bytes ml rt p s m meth c) (pc : Nat) {z : Int64} (hd : decode bytes pc = .ok (.lreturn, 1)) (hrt : rt = some .long)  (hk : k ≤ R.cells) (hn : n ≤ R.slots) (hq : Q (some (.long z)) h) : Go p l e R s m args below meth c n0 Q h k n (mkF m pc Ls [.long z]) := by
  intro T L X eT N
  obtain ⟨fs, hr, hrun, hended, hW, hsame⟩ := X.leave (v := some (.long z)) (fun hh => by first | rfl | (rw [K.2.2.2.2.2.1, hrt] at hh; cases hh)) K.2.2.2.2.2.2.1
  refine ⟨_, _, X.lreturnOut K.1 (K.2.2.2.2.2.1.trans hrt) (hb K.2.2.2.1 hd) hr, hrun, hended, _, L, rfl, ⟨?_, N⟩, ⟨_, rfl⟩, hW, hsame.mono hk hn⟩
  show Q _ T.heap
  rw [eT]; exact hq
theorem g_areturn (K : Kx Z own nm bytes ml rt p s m meth c) (pc : Nat) {w : Value} (t : FieldType) (hd : decode bytes pc = .ok (.areturn, 1)) (hrt : rt = some t) (hw : w.isRef = true) (ht : t.isReference = true) (hk : k ≤ R.cells) (hn : n ≤ R.slots) (hq : Q (some w) h) : Go p l e R s m args below meth c n0 Q h k n (mkF m pc Ls [w]) := by
  intro T L X eT N
  obtain ⟨fs, hr, hrun, hended, hW, hsame⟩ := X.leave (v := some w) (fun hh => by first | rfl | (rw [K.2.2.2.2.2.1, hrt] at hh; cases hh)) K.2.2.2.2.2.2.1
  refine ⟨_, _, X.areturnOut K.1 hw (K.2.2.2.2.2.1.trans hrt) ht (hb K.2.2.2.1 hd) hr, hrun, hended, _, L, rfl, ⟨?_, N⟩, ⟨_, rfl⟩, hW, hsame.mono hk hn⟩
  show Q _ T.heap
  rw [eT]; exact hq
theorem g_return (K : Kx Z own nm bytes ml rt p s m meth c) (pc : Nat)  (hd : decode bytes pc = .ok (.return_, 1)) (hrt : rt = none)  (hk : k ≤ R.cells) (hn : n ≤ R.slots) (hq : Q none h) : Go p l e R s m args below meth c n0 Q h k n (mkF m pc Ls []) := by
  intro T L X eT N
  obtain ⟨fs, hr, hrun, hended, hW, hsame⟩ := X.leave (v := none) (fun hh => by first | rfl | (rw [K.2.2.2.2.2.1, hrt] at hh; cases hh)) K.2.2.2.2.2.2.1
  refine ⟨_, _, X.returnOut K.1 (K.2.2.2.2.2.1.trans hrt) (hb K.2.2.2.1 hd) hr, hrun, hended, _, L, rfl, ⟨?_, N⟩, ⟨_, rfl⟩, hW, hsame.mono hk hn⟩
  show Q _ T.heap
  rw [eT]; exact hq
theorem g_getfield (K : Kx Z own nm bytes ml rt p s m meth c) (pc : Nat) {i : Nat} {C f d : String} {a : Addr} {v : Value} (hd : decode bytes pc = .ok (.getfield i, 3)) (w : (Jvm.Cond.fieldLink own i C f d).before a0 Z = true) (F : Fld Z h a C f d v) (hr : Go p l e R s m args below meth c n0 Q h k n (mkF m (pc + 3) Ls (v :: st))) : Go p l e R s m args below meth c n0 Q h k n (mkF m pc Ls (.ref a :: st)) := by
  intro T L X eT N
  obtain ⟨T', X', e', stp⟩ := getF X K.1 K.2.1 K.2.2.1 (host := "") (Or.inl w) Via.refl eT F (g := mkF m pc Ls (.ref a :: st)) rfl rfl (hb K.2.2.2.1 hd)
  obtain ⟨s₂, o, S, r⟩ := hr T' L X' e' N
  exact ⟨s₂, o, stp _ S, r⟩
theorem g_putfield (K : Kx Z own nm bytes ml rt p s m meth c) (pc : Nat) {i kk : Nat} {C f d : String} {a : Addr} {v old : Value} (ty : FieldType) (hd : decode bytes pc = .ok (.putfield i, 3)) (w : (Jvm.Cond.fieldLink own i C f d).before a0 Z = true) (F : Fld Z h a C f d old) (E : Exa Z h a C) (Lw : (Jvm.Cond.lays C C f d).before a0 Z = true ∨ ((Jvm.Cond.laysFinal C C f d).before a0 Z = true ∧ own = C ∧ nm = "<init>")) (wi : (Jvm.Cond.instantiable C kk).before a0 Z = true) (hty : parseFieldDescriptor d = some ty) (hnv : narrow ty v = v) (hfv : fits ty v = true) (ha : n0 ≤ a) (hr : ∀ h', Wr h h' a (Jvm.RoadKit.slotOf Z C f d) v → Keep h h' [a] → Go p l e R s m args below meth c n0 Q h' k n (mkF m (pc + 3) Ls st)) : Go p l e R s m args below meth c n0 Q h k n (mkF m pc Ls (v :: .ref a :: st)) := by
  intro T L X eT N
  obtain ⟨T', h', X', e', W, stp⟩ := putF X K.1 K.2.1 K.2.2.1 (host := "") (Or.inl w) Via.refl eT F E (Lw.imp id fun q => ⟨q.1, q.2.1, K.2.2.2.2.2.2.2.trans q.2.2⟩) wi hty hnv hfv (g := mkF m pc Ls (v :: .ref a :: st)) rfl rfl (hb K.2.2.2.1 hd)
  obtain ⟨s₂, o, S, r⟩ := hr h' W (Keep.of_wr W) T' _ X' e' (Fr.snoc X' N ha)
  exact ⟨s₂, o, stp _ S, r⟩
theorem g_new (K : Kx Z own nm bytes ml rt p s m meth c) (pc : Nat) {i kk : Nat} {C : String} (hd : decode bytes pc = .ok (.new i, 3)) (w : (Jvm.Cond.classLink own i C).before a0 Z = true) (wi : (Jvm.Cond.instantiable C kk).before a0 Z = true) (wz : (Jvm.Cond.initialized C).before a0 Z = true) (hk : k + 1 ≤ R.cells) (hn : n + kk ≤ R.slots) (hr : ∀ h' a, a = h.size → Keep h h' [] → Exa Z h' a C → (∀ {O f d : String} {ty : FieldType}, Laid Z a0 C O f d → parseFieldDescriptor d = some ty → Fld Z h' a O f d (defaultValue ty)) → Go p l e R s m args below meth c n0 Q h' (k + 1) (n + kk) (mkF m (pc + 3) Ls (.ref a :: st))) : Go p l e R s m args below meth c n0 Q h k n (mkF m pc Ls st) := by
  intro T L X eT N
  obtain ⟨T', h', X', e', E, A, D, -, stp⟩ := newO X K.1 K.2.1 K.2.2.1 w wi wz eT (g := mkF m pc Ls st) rfl (hb K.2.2.2.1 hd) hk hn
  obtain ⟨s₂, o, S, r⟩ := hr h' h.size rfl (keep_ext E) A D T' L X' e' N
  exact ⟨s₂, o, stp _ S, r⟩
theorem g_initO (K : Kx Z own nm bytes ml rt p s m meth c) (pc : Nat) {i : Nat} {a : Addr} (hd : decode bytes pc = .ok (.invokespecial i, 3)) (w1 : (Jvm.Cond.methodLink own i Lib.objectInit).before a0 Z = true) (w2 : (Jvm.Cond.instanceMethod Lib.objectInit).before a0 Z = true) (w3 : (Jvm.Cond.code Lib.objectInit ⟨#[0xb1]⟩ 1 none).before a0 Z = true) (hls : Ls.size = ml) (hf : 1 ≤ R.frames) (W : Nat) (hW : (st.map fun v => v.category).sum ≤ W) (hlo : W + 12 ≤ R.locals) (hr : Go p l e R s m args below meth c n0 Q h k n (mkF m (pc + 3) Ls st)) : Go p l e R s m args below meth c n0 Q h k n (mkF m pc Ls (.ref a :: st)) := by
  intro T L X eT N
  obtain ⟨T', X', e', stp⟩ := initO X K.1 K.2.1 K.2.2.1 w1 w2 w3 eT (g := mkF m pc Ls (.ref a :: st)) rfl (hls.trans K.2.2.2.2.1.symm) rfl (hb K.2.2.2.1 hd) hf (W := W) (by show 2 * 0 + _ ≤ _; omega) hlo
  obtain ⟨s₂, o, S, r⟩ := hr T' L X' e' N
  exact ⟨s₂, o, stp _ S, r⟩
theorem g_newI (K : Kx Z own nm bytes ml rt p s m meth c) (pc : Nat) {aty : ArrayType} {z : Int32} (ty : FieldType) (hd : decode bytes pc = .ok (.newarray aty, 2)) (hty : newarray.typeOf aty = ty) (hdef : defaultValue ty = .int 0) (w : (Jvm.Cond.arrayClass ty).before a0 Z = true) (hz : ¬ z < 0) (cap : Nat) (hcap : z.toNatClampNeg ≤ cap) (hb8 : cap * 8 ≤ 536870912) (hk : k + 1 ≤ R.cells) (hn : n + cap ≤ R.slots) (hr : ∀ h' a, a = h.size → Keep h h' [] → IA Z h' a ty (List.replicate z.toNatClampNeg 0) → Go p l e R s m args below meth c n0 Q h' (k + 1) (n + cap) (mkF m (pc + 2) Ls (.ref a :: st))) : Go p l e R s m args below meth c n0 Q h k n (mkF m pc Ls (.int z :: st)) := by
  subst hty
  intro T L X eT N
  obtain ⟨T', h', cA, X', e', E, A, stp⟩ := newP X K.1 K.2.1 w eT (g := mkF m pc Ls (.int z :: st)) rfl (hb K.2.2.2.1 hd) rfl hz hcap hb8 hk hn
  obtain ⟨s₂, o, S, r⟩ := hr h' h.size rfl (keep_ext E) ⟨_, A, by simp [newA, hdef]⟩ T' L X' e' N
  exact ⟨s₂, o, stp _ S, r⟩
theorem g_newJ (K : Kx Z own nm bytes ml rt p s m meth c) (pc : Nat) {z : Int32} (hd : decode bytes pc = .ok (.newarray .long, 2)) (w : (Jvm.Cond.arrayClass .long).before a0 Z = true) (hz : ¬ z < 0) (cap : Nat) (hcap : z.toNatClampNeg ≤ cap) (hb8 : cap * 8 ≤ 536870912) (hk : k + 1 ≤ R.cells) (hn : n + cap ≤ R.slots) (hr : ∀ h' a, a = h.size → Keep h h' [] → LA Z h' a (List.replicate z.toNatClampNeg 0) → Go p l e R s m args below meth c n0 Q h' (k + 1) (n + cap) (mkF m (pc + 2) Ls (.ref a :: st))) : Go p l e R s m args below meth c n0 Q h k n (mkF m pc Ls (.int z :: st)) := by
  intro T L X eT N
  obtain ⟨T', h', cA, X', e', E, A, stp⟩ := newP X K.1 K.2.1 (aty := .long) w eT (g := mkF m pc Ls (.int z :: st)) rfl (hb K.2.2.2.1 hd) rfl hz hcap hb8 hk hn
  obtain ⟨s₂, o, S, r⟩ := hr h' h.size rfl (keep_ext E) ⟨_, A, by simp [newA, defaultValue, newarray.typeOf]⟩ T' L X' e' N
  exact ⟨s₂, o, stp _ S, r⟩
theorem g_iaload (K : Kx Z own nm bytes ml rt p s m meth c) (pc : Nat) {a : Addr} {xs : List Int32} {j : Int32} (v : Int32) (hd : decode bytes pc = .ok (.iaload, 1)) (F : IA Z h a .int xs) (hj : ¬ j < 0) (hv : xs[j.toNatClampNeg]? = some v) (hr : Go p l e R s m args below meth c n0 Q h k n (mkF m (pc + 1) Ls (.int v :: st))) : Go p l e R s m args below meth c n0 Q h k n (mkF m pc Ls (.int j :: .ref a :: st)) := by
  intro T L X eT N
  obtain ⟨cl, A, es⟩ := F
  obtain ⟨s₂, o, S, r⟩ := hr T L X eT N
  have hlt : j.toNatClampNeg < xs.length := (List.getElem?_eq_some_iff.mp hv).1
  refine ⟨s₂, o, X.iaload K.1 (j := j) (v := (.int v)) (by rw [eT]; exact A.1) (State.isArrayOf_alike K.2.1.alike A.2.1) A.2.2 (own_clamp hj hlt (by simp [es])) (by rw [es]; simp [hv]) (g := mkF m pc Ls (.int j :: .ref a :: st)) rfl rfl (hb K.2.2.2.1 hd) _ S, r⟩
theorem g_baload (K : Kx Z own nm bytes ml rt p s m meth c) (pc : Nat) {a : Addr} {xs : List Int32} {j : Int32} (v : Int32) (hd : decode bytes pc = .ok (.baload, 1)) (F : IA Z h a .byte xs) (hj : ¬ j < 0) (hv : xs[j.toNatClampNeg]? = some v) (hr : Go p l e R s m args below meth c n0 Q h k n (mkF m (pc + 1) Ls (.int v :: st))) : Go p l e R s m args below meth c n0 Q h k n (mkF m pc Ls (.int j :: .ref a :: st)) := by
  intro T L X eT N
  obtain ⟨cl, A, es⟩ := F
  obtain ⟨s₂, o, S, r⟩ := hr T L X eT N
  have hlt : j.toNatClampNeg < xs.length := (List.getElem?_eq_some_iff.mp hv).1
  refine ⟨s₂, o, X.baloadBytes K.1 (j := j) (v := (.int v)) (by rw [eT]; exact A.1) (State.isArrayOf_alike K.2.1.alike A.2.1) A.2.2 (own_clamp hj hlt (by simp [es])) (by rw [es]; simp [hv]) (g := mkF m pc Ls (.int j :: .ref a :: st)) rfl rfl (hb K.2.2.2.1 hd) _ S, r⟩
theorem g_zaload (K : Kx Z own nm bytes ml rt p s m meth c) (pc : Nat) {a : Addr} {xs : List Int32} {j : Int32} (v : Int32) (hd : decode bytes pc = .ok (.baload, 1)) (F : IA Z h a .boolean xs) (hj : ¬ j < 0) (hv : xs[j.toNatClampNeg]? = some v) (hr : Go p l e R s m args below meth c n0 Q h k n (mkF m (pc + 1) Ls (.int v :: st))) : Go p l e R s m args below meth c n0 Q h k n (mkF m pc Ls (.int j :: .ref a :: st)) := by
  intro T L X eT N
  obtain ⟨cl, A, es⟩ := F
  obtain ⟨s₂, o, S, r⟩ := hr T L X eT N
  have hlt : j.toNatClampNeg < xs.length := (List.getElem?_eq_some_iff.mp hv).1
  refine ⟨s₂, o, X.baloadBooleans K.1 (j := j) (v := (.int v)) (by rw [eT]; exact A.1) (State.isArrayOf_alike K.2.1.alike A.2.1) A.2.2 (own_clamp hj hlt (by simp [es])) (by rw [es]; simp [hv]) (g := mkF m pc Ls (.int j :: .ref a :: st)) rfl rfl (hb K.2.2.2.1 hd) _ S, r⟩
theorem g_saload (K : Kx Z own nm bytes ml rt p s m meth c) (pc : Nat) {a : Addr} {xs : List Int32} {j : Int32} (v : Int32) (hd : decode bytes pc = .ok (.saload, 1)) (F : IA Z h a .short xs) (hj : ¬ j < 0) (hv : xs[j.toNatClampNeg]? = some v) (hr : Go p l e R s m args below meth c n0 Q h k n (mkF m (pc + 1) Ls (.int v :: st))) : Go p l e R s m args below meth c n0 Q h k n (mkF m pc Ls (.int j :: .ref a :: st)) := by
  intro T L X eT N
  obtain ⟨cl, A, es⟩ := F
  obtain ⟨s₂, o, S, r⟩ := hr T L X eT N
  have hlt : j.toNatClampNeg < xs.length := (List.getElem?_eq_some_iff.mp hv).1
  refine ⟨s₂, o, X.saload K.1 (j := j) (v := (.int v)) (by rw [eT]; exact A.1) (State.isArrayOf_alike K.2.1.alike A.2.1) A.2.2 (own_clamp hj hlt (by simp [es])) (by rw [es]; simp [hv]) (g := mkF m pc Ls (.int j :: .ref a :: st)) rfl rfl (hb K.2.2.2.1 hd) _ S, r⟩
theorem g_laload (K : Kx Z own nm bytes ml rt p s m meth c) (pc : Nat) {a : Addr} {xs : List Int64} {j : Int32} (v : Int64) (hd : decode bytes pc = .ok (.laload, 1)) (F : LA Z h a xs) (hj : ¬ j < 0) (hv : xs[j.toNatClampNeg]? = some v) (hr : Go p l e R s m args below meth c n0 Q h k n (mkF m (pc + 1) Ls (.long v :: st))) : Go p l e R s m args below meth c n0 Q h k n (mkF m pc Ls (.int j :: .ref a :: st)) := by
  intro T L X eT N
  obtain ⟨cl, A, es⟩ := F
  obtain ⟨s₂, o, S, r⟩ := hr T L X eT N
  have hlt : j.toNatClampNeg < xs.length := (List.getElem?_eq_some_iff.mp hv).1
  refine ⟨s₂, o, X.laload K.1 (j := j) (v := (.long v)) (by rw [eT]; exact A.1) (State.isArrayOf_alike K.2.1.alike A.2.1) A.2.2 (own_clamp hj hlt (by simp [es])) (by rw [es]; simp [hv]) (g := mkF m pc Ls (.int j :: .ref a :: st)) rfl rfl (hb K.2.2.2.1 hd) _ S, r⟩
theorem g_iastore (K : Kx Z own nm bytes ml rt p s m meth c) (pc : Nat) {a : Addr} {xs : List Int32} {j : Int32} {x : Int32} (hd : decode bytes pc = .ok (.iastore, 1)) (F : IA Z h a .int xs) (hj : ¬ j < 0) (hlt : j.toNatClampNeg < xs.length) (ha : n0 ≤ a) (hr : ∀ h', Keep h h' [a] → IA Z h' a .int (xs.set j.toNatClampNeg (x)) → Go p l e R s m args below meth c n0 Q h' k n (mkF m (pc + 1) Ls st)) : Go p l e R s m args below meth c n0 Q h k n (mkF m pc Ls (.int x :: .int j :: .ref a :: st)) := by
  intro T L X eT N
  have F' := F
  obtain ⟨cl, A, es⟩ := F
  obtain ⟨T', h', X', e', W, stp⟩ := stI X K.1 K.2.1 eT A (j := j) (x := x) (own_clamp hj hlt (by simp [es])) (g := mkF m pc Ls (.int x :: .int j :: .ref a :: st)) rfl rfl (hb K.2.2.2.1 hd)
  obtain ⟨s₂, o, S, r⟩ := hr h' (Keep.of_wr W) (F'.set W) T' _ X' e' (Fr.snoc X' N ha)
  exact ⟨s₂, o, stp _ S, r⟩
theorem g_bastore (K : Kx Z own nm bytes ml rt p s m meth c) (pc : Nat) {a : Addr} {xs : List Int32} {j : Int32} {x : Int32} (hd : decode bytes pc = .ok (.bastore, 1)) (F : IA Z h a .byte xs) (hj : ¬ j < 0) (hlt : j.toNatClampNeg < xs.length) (ha : n0 ≤ a) (hr : ∀ h', Keep h h' [a] → IA Z h' a .byte (xs.set j.toNatClampNeg (nar .byte x)) → Go p l e R s m args below meth c n0 Q h' k n (mkF m (pc + 1) Ls st)) : Go p l e R s m args below meth c n0 Q h k n (mkF m pc Ls (.int x :: .int j :: .ref a :: st)) := by
  intro T L X eT N
  have F' := F
  obtain ⟨cl, A, es⟩ := F
  obtain ⟨T', h', X', e', W, stp⟩ := stB X K.1 K.2.1 eT A (j := j) (x := x) (own_clamp hj hlt (by simp [es])) (g := mkF m pc Ls (.int x :: .int j :: .ref a :: st)) rfl rfl (hb K.2.2.2.1 hd)
  obtain ⟨s₂, o, S, r⟩ := hr h' (Keep.of_wr W) (F'.set W) T' _ X' e' (Fr.snoc X' N ha)
  exact ⟨s₂, o, stp _ S, r⟩
theorem g_zastore (K : Kx Z own nm bytes ml rt p s m meth c) (pc : Nat) {a : Addr} {xs : List Int32} {j : Int32} {x : Int32} (hd : decode bytes pc = .ok (.bastore, 1)) (F : IA Z h a .boolean xs) (hj : ¬ j < 0) (hlt : j.toNatClampNeg < xs.length) (ha : n0 ≤ a) (hr : ∀ h', Keep h h' [a] → IA Z h' a .boolean (xs.set j.toNatClampNeg (nar .boolean x)) → Go p l e R s m args below meth c n0 Q h' k n (mkF m (pc + 1) Ls st)) : Go p l e R s m args below meth c n0 Q h k n (mkF m pc Ls (.int x :: .int j :: .ref a :: st)) := by
  intro T L X eT N
  have F' := F
  obtain ⟨cl, A, es⟩ := F
  obtain ⟨T', h', X', e', W, stp⟩ := stZ X K.1 K.2.1 eT A (j := j) (x := x) (own_clamp hj hlt (by simp [es])) (g := mkF m pc Ls (.int x :: .int j :: .ref a :: st)) rfl rfl (hb K.2.2.2.1 hd)
  obtain ⟨s₂, o, S, r⟩ := hr h' (Keep.of_wr W) (F'.set W) T' _ X' e' (Fr.snoc X' N ha)
  exact ⟨s₂, o, stp _ S, r⟩
theorem g_sastore (K : Kx Z own nm bytes ml rt p s m meth c) (pc : Nat) {a : Addr} {xs : List Int32} {j : Int32} {x : Int32} (hd : decode bytes pc = .ok (.sastore, 1)) (F : IA Z h a .short xs) (hj : ¬ j < 0) (hlt : j.toNatClampNeg < xs.length) (ha : n0 ≤ a) (hr : ∀ h', Keep h h' [a] → IA Z h' a .short (xs.set j.toNatClampNeg (nar .short x)) → Go p l e R s m args below meth c n0 Q h' k n (mkF m (pc + 1) Ls st)) : Go p l e R s m args below meth c n0 Q h k n (mkF m pc Ls (.int x :: .int j :: .ref a :: st)) := by
  intro T L X eT N
  have F' := F
  obtain ⟨cl, A, es⟩ := F
  obtain ⟨T', h', X', e', W, stp⟩ := stS X K.1 K.2.1 eT A (j := j) (x := x) (own_clamp hj hlt (by simp [es])) (g := mkF m pc Ls (.int x :: .int j :: .ref a :: st)) rfl rfl (hb K.2.2.2.1 hd)
  obtain ⟨s₂, o, S, r⟩ := hr h' (Keep.of_wr W) (F'.set W) T' _ X' e' (Fr.snoc X' N ha)
  exact ⟨s₂, o, stp _ S, r⟩
theorem g_lastore (K : Kx Z own nm bytes ml rt p s m meth c) (pc : Nat) {a : Addr} {xs : List Int64} {j : Int32} {x : Int64} (hd : decode bytes pc = .ok (.lastore, 1)) (F : LA Z h a xs) (hj : ¬ j < 0) (hlt : j.toNatClampNeg < xs.length) (ha : n0 ≤ a) (hr : ∀ h', Keep h h' [a] → LA Z h' a (xs.set j.toNatClampNeg (x)) → Go p l e R s m args below meth c n0 Q h' k n (mkF m (pc + 1) Ls st)) : Go p l e R s m args below meth c n0 Q h k n (mkF m pc Ls (.long x :: .int j :: .ref a :: st)) := by
  intro T L X eT N
  have F' := F
  obtain ⟨cl, A, es⟩ := F
  obtain ⟨T', h', X', e', W, stp⟩ := stJ X K.1 K.2.1 eT A (j := j) (x := x) (own_clamp hj hlt (by simp [es])) (g := mkF m pc Ls (.long x :: .int j :: .ref a :: st)) rfl rfl (hb K.2.2.2.1 hd)
  obtain ⟨s₂, o, S, r⟩ := hr h' (Keep.of_wr W) (F'.set W) T' _ X' e' (Fr.snoc X' N ha)
  exact ⟨s₂, o, stp _ S, r⟩
theorem g_alen (K : Kx Z own nm bytes ml rt p s m meth c) (pc : Nat) {a : Addr} {ty : FieldType} {xs : List Int32} (v : Int32) (hd : decode bytes pc = .ok (.arraylength, 1)) (F : IA Z h a ty xs) (hv : xs.length.toInt32 = v) (hr : Go p l e R s m args below meth c n0 Q h k n (mkF m (pc + 1) Ls (.int v :: st))) : Go p l e R s m args below meth c n0 Q h k n (mkF m pc Ls (.ref a :: st)) := by
  intro T L X eT N
  obtain ⟨cl, A, es⟩ := F
  obtain ⟨s₂, o, S, r⟩ := hr T L X eT N
  have hq : cl.slots.size.toInt32 = v := by rw [es]; simpa using hv
  refine ⟨s₂, o, X.arraylength K.1 (cell := cl) (by rw [eT]; exact A.1) (State.isArrayOf_alike K.2.1.alike A.2.1) (g := mkF m pc Ls (.ref a :: st)) rfl (rest := st) rfl (hb K.2.2.2.1 hd) _ ?_, r⟩
  rw [hq]; exact S
theorem g_callS (K : Kx Z own nm bytes ml rt p s m meth c) (pc : Nat) {i : Nat} {y : MethodName} {b2 : ByteArray} {ml2 : Nat} {rt2 : Option FieldType} {rm : Room} {Q' : Option Value → Heap → Prop} {sig : MethodDescriptor} {S0 : List Value} (argsL : List Value) (W : Nat) (hd : decode bytes pc = .ok (.invokestatic i, 3))
    (M : Meets l y b2 ml2 rt2 rm Z argsL.toArray h n0 Q') (wl : (Jvm.Cond.methodLink own i y).before a0 Z = true) (ws : (Jvm.Cond.static y).before a0 Z = true) (wz : (Jvm.Cond.initialized y.cls).before a0 Z = true) (wc : (Jvm.Cond.code y b2 ml2 rt2).before a0 Z = true) (hy : y.cls ≠ "java/lang/invoke/MethodHandle" ∧ y.cls ≠ "java/lang/invoke/VarHandle")
    (hpd : parseMethodDescriptor y.desc = some sig) (hlen : argsL.length = sig.parameters.length) (hS : S0 = argsL.reverse ++ st) (hW : (st.map fun v => v.category).sum ≤ W) (hls : Ls.size = ml) (hf : rm.frames + 1 ≤ R.frames) (hlo : W + (ml2 + 11) + rm.locals ≤ R.locals) (hk : k + rm.cells ≤ R.cells) (hn : n + rm.slots ≤ R.slots)
    (hr : ∀ v h', Q' v h' → Go p l e R s m args below meth c n0 Q h' (k + rm.cells) (n + rm.slots) (mkF m (pc + 3) Ls (v.toList ++ st))) : Go p l e R s m args below meth c n0 Q h k n (mkF m pc Ls S0) := by
  subst hS
  intro T L X eT N
  obtain ⟨v, vm₁, ⟨T', L', k', n'⟩, -, X', ⟨L2, hQ, l1, y1, z1⟩, stp⟩ := Jvm.LawKit.callS X K.1 (y := y) K.2.2.1 (mvT K.2.1 wl) (mvT K.2.1 ws) (mvT K.2.1 wz) (mvT K.2.1 wc) hy (backOf (W := W) (Q := fun v h L => Q' v h ∧ Fr n0 L) (M []) K.2.1 wc wz hf hlo) (g := mkF m pc Ls (argsL.reverse ++ st)) rfl (hls.trans K.2.2.2.2.1.symm) (argsL := argsL) (rest := st) (fun sg h => by cases hpd.symm.trans h; exact hlen) rfl (by show 2 * 0 + _ ≤ _; omega) (hb K.2.2.2.1 hd) (fun _ _ => ⟨rfl, eT, hk, hn⟩)
  dsimp only [Pt.U, Pt.locs, Pt.cells, Pt.slots] at X' l1 y1 z1 stp hQ
  subst l1 y1 z1
  obtain ⟨s₂, o, S, r⟩ := hr v _ hQ.1 T' _ X' rfl (Fr.app N hQ.2)
  exact ⟨s₂, o, stp _ S, r⟩
theorem g_callN (K : Kx Z own nm bytes ml rt p s m meth c) (pc : Nat) {i : Nat} {y : MethodName} {b2 : ByteArray} {ml2 : Nat} {rm : Room} {Q' : Option Value → Heap → Prop} {sig : MethodDescriptor} {S0 : List Value} {a : Addr} (argsL : List Value) (W : Nat) (hd : decode bytes pc = .ok (.invokespecial i, 3))
    (M : Meets l y b2 ml2 none rm Z (.ref a :: argsL).toArray h n0 Q') (hy1 : y.name = "<init>") (wl : (Jvm.Cond.methodLink own i y).before a0 Z = true) (wi : (Jvm.Cond.instanceMethod y).before a0 Z = true) (wz : (Jvm.Cond.initialized y.cls).before a0 Z = true) (wc : (Jvm.Cond.code y b2 ml2 none).before a0 Z = true) (hy : y.cls ≠ "java/lang/invoke/MethodHandle" ∧ y.cls ≠ "java/lang/invoke/VarHandle")
    (hpd : parseMethodDescriptor y.desc = some sig) (hlen : argsL.length = sig.parameters.length) (hS : S0 = argsL.reverse ++ .ref a :: st) (hW : (st.map fun v => v.category).sum ≤ W) (hls : Ls.size = ml) (hf : rm.frames + 1 ≤ R.frames) (hlo : W + (ml2 + 11) + rm.locals ≤ R.locals) (hk : k + rm.cells ≤ R.cells) (hn : n + rm.slots ≤ R.slots)
    (hr : ∀ v h', Q' v h' → Go p l e R s m args below meth c n0 Q h' (k + rm.cells) (n + rm.slots) (mkF m (pc + 3) Ls (v.toList ++ st))) : Go p l e R s m args below meth c n0 Q h k n (mkF m pc Ls S0) := by
  subst hS
  intro T L X eT N
  obtain ⟨v, vm₁, ⟨T', L', k', n'⟩, -, X', ⟨L2, hQ, l1, y1, z1⟩, stp⟩ := X.specialBack K.1 (y := y) hy1 K.2.2.1 (mvT K.2.1 wl) (mvT K.2.1 wi) (mvT K.2.1 wc) hy (backOf (W := W) (Q := fun v h L => Q' v h ∧ Fr n0 L) (M []) K.2.1 wc wz hf hlo) (g := mkF m pc Ls (argsL.reverse ++ .ref a :: st)) rfl (hls.trans K.2.2.2.2.1.symm) (Steps.refl _) (a := a) (argsL := argsL) (rest := st) (fun sg h => by cases hpd.symm.trans h; exact hlen) rfl (by show 2 * 0 + _ ≤ _; omega) (hb K.2.2.2.1 hd) (fun _ _ => ⟨rfl, eT, hk, hn⟩)
  dsimp only [Pt.U, Pt.locs, Pt.cells, Pt.slots] at X' l1 y1 z1 stp hQ
  subst l1 y1 z1
  obtain ⟨s₂, o, S, r⟩ := hr v _ hQ.1 T' _ X' rfl (Fr.app N hQ.2)
  exact ⟨s₂, o, stp.trans S, r⟩
theorem g_callV (K : Kx Z own nm bytes ml rt p s m meth c) (pc : Nat) {i : Nat} {y z : MethodName} {C : String} {b2 : ByteArray} {ml2 : Nat} {rt2 : Option FieldType} {rm : Room} {Q' : Option Value → Heap → Prop} {sig : MethodDescriptor} {S0 : List Value} {a : Addr} (argsL : List Value) (W : Nat) (hd : decode bytes pc = .ok (.invokevirtual i, 3))
    (M : Meets l z b2 ml2 rt2 rm Z (.ref a :: argsL).toArray h n0 Q') (E : Exa Z h a C) (wl : (Jvm.Cond.methodLink own i y).before a0 Z = true) (wd : (Jvm.Cond.declares y).before a0 Z = true) (wsel : (Jvm.Cond.selects C y z).before a0 Z = true) (wself : (Jvm.Cond.selects y.cls y y).before a0 Z = true) (wi : (Jvm.Cond.instanceMethod z).before a0 Z = true) (wz : (Jvm.Cond.initialized z.cls).before a0 Z = true) (wc : (Jvm.Cond.code z b2 ml2 rt2).before a0 Z = true) (hy : y.cls ≠ "java/lang/invoke/MethodHandle" ∧ y.cls ≠ "java/lang/invoke/VarHandle")
    (hpd : parseMethodDescriptor y.desc = some sig) (hlen : argsL.length = sig.parameters.length) (hS : S0 = argsL.reverse ++ .ref a :: st) (hW : (st.map fun v => v.category).sum ≤ W) (hls : Ls.size = ml) (hf : rm.frames + 1 ≤ R.frames) (hlo : W + (ml2 + 11) + rm.locals ≤ R.locals) (hk : k + rm.cells ≤ R.cells) (hn : n + rm.slots ≤ R.slots)
    (hr : ∀ v h', Q' v h' → Go p l e R s m args below meth c n0 Q h' (k + rm.cells) (n + rm.slots) (mkF m (pc + 3) Ls (v.toList ++ st))) : Go p l e R s m args below meth c n0 Q h k n (mkF m pc Ls S0) := by
  subst hS
  intro T L X eT N
  obtain ⟨cB, kB, q1, q2, q3⟩ := isOf K.2.1 eT E
  obtain ⟨v, vm₁, ⟨T', L', k', n'⟩, -, X', ⟨L2, hQ, l1, y1, z1⟩, stp⟩ := X.virtualBack K.1 (y := y) (z := z) K.2.2.1 (mvT K.2.1 wl) (mvT K.2.1 wd) (notFace_of_selects (args := #[]) (mvT K.2.1 wself)) (mvT K.2.1 wsel) (mvT K.2.1 wi) hy (backOf (W := W) (Q := fun v h L => Q' v h ∧ Fr n0 L) (M []) K.2.1 wc wz hf hlo) q1 q3 (g := mkF m pc Ls (argsL.reverse ++ .ref a :: st)) rfl (hls.trans K.2.2.2.2.1.symm) (Steps.refl _) (argsL := argsL) (rest := st) (fun sg h => by cases hpd.symm.trans h; exact hlen) rfl (by show 2 * 0 + _ ≤ _; omega) (hb K.2.2.2.1 hd) (fun _ _ => ⟨rfl, eT, hk, hn⟩)
  dsimp only [Pt.U, Pt.locs, Pt.cells, Pt.slots] at X' l1 y1 z1 stp hQ
  subst l1 y1 z1
  obtain ⟨s₂, o, S, r⟩ := hr v _ hQ.1 T' _ X' rfl (Fr.app N hQ.2)
  exact ⟨s₂, o, stp.trans S, r⟩
end GoSteps
theorem meets_of {l : Launch} {y : MethodName} {bytes : ByteArray} {ml : Nat} {rt : Option FieldType} {rm : Room} {Z : State} {as : Array Value} {h0 : Heap} {n0 : Nat} {Q : Option Value → Heap → Prop} (hx : plainFor y = true) {Ls : Array Slot} (hef : ∀ m, entryFrame m as ml = mkF m 0 Ls [])
    (body : ∀ p e s m below meth c, Kx Z y.cls y.name bytes ml rt p s m meth c → Go p l e rm s m as below meth c n0 Q h0 0 0 (mkF m 0 Ls [])) : Meets l y bytes ml rt rm Z as h0 n0 Q := by
  intro ws
  refine MetFree.of_bodySF hx hisR ?_
  intro p e s m args below meth c s₁ Bd hml0 hP hK
  obtain ⟨rfl, hZ, hh⟩ := hP
  have X0 : Stand p l e rm s m args below meth c s₁ [] 0 0 := Stand.of_body Bd
  have e0 : s₁.heap = h0 := by rw [← hh, Bd.state]; rfl
  obtain ⟨s₂, o, S, r1, r2, r3⟩ := body p e s m below meth c ⟨Bd.exec, hZ, findClass_of_methodNamed Bd.named, Bd.bytes, hml0, Bd.returns, Bd.notSynchronized, (name_of_methodNamed Bd.named Bd.method).1⟩ s₁ [] X0 e0 (Fr.nil n0)
  exact ⟨s₂, o, castTop (hef m) S, r1, r2, r3⟩
theorem tw {a0 : Array Value} {Z : State} {ts : List Jvm.Cond} (hw : ∀ d ∈ ts, d.before a0 Z = true) (i : Nat) {d : Jvm.Cond} (q : ts[i]? = some d) : d.before a0 Z = true := hw _ (List.mem_of_getElem? q)
theorem pn0 : plainName "com/example/caddis/caddis/TimeDelta" = true := by first | (simp [plainName, overriddenIn]; done) | decide +kernel
theorem pd0 : parseMethodDescriptor "(JJ[B)I" = some ⟨[.long, .long, (.array .byte)], some .int⟩ := by decide +kernel
theorem pn1 : plainName "com/example/caddis/caddis/TimeDeltaGetPinLaw" = true := by first | (simp [plainName, overriddenIn]; done) | decide +kernel
theorem pd1 : parseMethodDescriptor "([BI[BII)V" = some ⟨[(.array .byte), .int, (.array .byte), .int, .int], none⟩ := by decide +kernel
theorem pd2 : parseMethodDescriptor "([BIIJ)J" = some ⟨[(.array .byte), .int, .int, .long], some .long⟩ := by decide +kernel
theorem pd3 : parseMethodDescriptor "(JJJII)Z" = some ⟨[.long, .long, .long, .int, .int], some .boolean⟩ := by decide +kernel
theorem d1_0 : decode prog_59_method_2_code 0 = .ok (.lload_n 0, 1) := by decide +kernel
theorem d1_1 : decode prog_59_method_2_code 1 = .ok (.lload_n 2, 1) := by decide +kernel
theorem d1_2 : decode prog_59_method_2_code 2 = .ok (.lsub, 1) := by decide +kernel
theorem d1_3 : decode prog_59_method_2_code 3 = .ok (.lstore 5, 2) := by decide +kernel
theorem d1_5 : decode prog_59_method_2_code 5 = .ok (.lload 5, 2) := by decide +kernel
theorem d1_7 : decode prog_59_method_2_code 7 = .ok (.iconst 1, 1) := by decide +kernel
theorem d1_8 : decode prog_59_method_2_code 8 = .ok (.lshl, 1) := by decide +kernel
theorem d1_9 : decode prog_59_method_2_code 9 = .ok (.lload 5, 2) := by decide +kernel
theorem d1_11 : decode prog_59_method_2_code 11 = .ok (.bipush 63, 2) := by decide +kernel
theorem d1_13 : decode prog_59_method_2_code 13 = .ok (.lshr, 1) := by decide +kernel
theorem d1_14 : decode prog_59_method_2_code 14 = .ok (.lxor, 1) := by decide +kernel
theorem d1_15 : decode prog_59_method_2_code 15 = .ok (.lstore 7, 2) := by decide +kernel
theorem d1_17 : decode prog_59_method_2_code 17 = .ok (.iconst 0, 1) := by decide +kernel
theorem d1_18 : decode prog_59_method_2_code 18 = .ok (.istore 9, 2) := by decide +kernel
theorem d1_20 : decode prog_59_method_2_code 20 = .ok (.lload 7, 2) := by decide +kernel
theorem d1_22 : decode prog_59_method_2_code 22 = .ok (.ldc2_w 7, 3) := by decide +kernel
theorem d1_25 : decode prog_59_method_2_code 25 = .ok (.land, 1) := by decide +kernel
theorem d1_26 : decode prog_59_method_2_code 26 = .ok (.lconst 0, 1) := by decide +kernel
theorem d1_27 : decode prog_59_method_2_code 27 = .ok (.lcmp, 1) := by decide +kernel
theorem d1_28 : decode prog_59_method_2_code 28 = .ok (.ifCond .eq 33, 3) := by decide +kernel
theorem d1_31 : decode prog_59_method_2_code 31 = .ok (.aload 4, 2) := by decide +kernel
theorem d1_33 : decode prog_59_method_2_code 33 = .ok (.iload 9, 2) := by decide +kernel
theorem d1_35 : decode prog_59_method_2_code 35 = .ok (.lload 7, 2) := by decide +kernel
theorem d1_37 : decode prog_59_method_2_code 37 = .ok (.ldc2_w 9, 3) := by decide +kernel
theorem d1_40 : decode prog_59_method_2_code 40 = .ok (.land, 1) := by decide +kernel
theorem d1_41 : decode prog_59_method_2_code 41 = .ok (.ldc2_w 11, 3) := by decide +kernel
theorem d1_44 : decode prog_59_method_2_code 44 = .ok (.lor, 1) := by decide +kernel
theorem d1_45 : decode prog_59_method_2_code 45 = .ok (.l2i, 1) := by decide +kernel
theorem d1_46 : decode prog_59_method_2_code 46 = .ok (.i2b, 1) := by decide +kernel
theorem d1_47 : decode prog_59_method_2_code 47 = .ok (.bastore, 1) := by decide +kernel
theorem d1_48 : decode prog_59_method_2_code 48 = .ok (.lload 7, 2) := by decide +kernel
theorem d1_50 : decode prog_59_method_2_code 50 = .ok (.bipush 7, 2) := by decide +kernel
theorem d1_52 : decode prog_59_method_2_code 52 = .ok (.lushr, 1) := by decide +kernel
theorem d1_53 : decode prog_59_method_2_code 53 = .ok (.lstore 7, 2) := by decide +kernel
theorem d1_55 : decode prog_59_method_2_code 55 = .ok (.iinc 9 1, 3) := by decide +kernel
theorem d1_58 : decode prog_59_method_2_code 58 = .ok (.goto (-38), 3) := by decide +kernel
theorem d1_61 : decode prog_59_method_2_code 61 = .ok (.aload 4, 2) := by decide +kernel
theorem d1_63 : decode prog_59_method_2_code 63 = .ok (.iload 9, 2) := by decide +kernel
theorem d1_65 : decode prog_59_method_2_code 65 = .ok (.lload 7, 2) := by decide +kernel
theorem d1_67 : decode prog_59_method_2_code 67 = .ok (.l2i, 1) := by decide +kernel
theorem d1_68 : decode prog_59_method_2_code 68 = .ok (.i2b, 1) := by decide +kernel
theorem d1_69 : decode prog_59_method_2_code 69 = .ok (.bastore, 1) := by decide +kernel
theorem d1_70 : decode prog_59_method_2_code 70 = .ok (.iload 9, 2) := by decide +kernel
theorem d1_72 : decode prog_59_method_2_code 72 = .ok (.iconst 1, 1) := by decide +kernel
theorem d1_73 : decode prog_59_method_2_code 73 = .ok (.iadd, 1) := by decide +kernel
theorem d1_74 : decode prog_59_method_2_code 74 = .ok (.ireturn, 1) := by decide +kernel
theorem d2_0 : decode method_2_code 0 = .ok (.iload 4, 2) := by decide +kernel
theorem d2_2 : decode method_2_code 2 = .ok (.iload_n 3, 1) := by decide +kernel
theorem d2_3 : decode method_2_code 3 = .ok (.if_icmp .ge 13, 3) := by decide +kernel
theorem d2_6 : decode method_2_code 6 = .ok (.aload_n 0, 1) := by decide +kernel
theorem d2_7 : decode method_2_code 7 = .ok (.iload_n 1, 1) := by decide +kernel
theorem d2_8 : decode method_2_code 8 = .ok (.iload 4, 2) := by decide +kernel
theorem d2_10 : decode method_2_code 10 = .ok (.iadd, 1) := by decide +kernel
theorem d2_11 : decode method_2_code 11 = .ok (.aload_n 2, 1) := by decide +kernel
theorem d2_12 : decode method_2_code 12 = .ok (.iload 4, 2) := by decide +kernel
theorem d2_14 : decode method_2_code 14 = .ok (.baload, 1) := by decide +kernel
theorem d2_15 : decode method_2_code 15 = .ok (.bastore, 1) := by decide +kernel
theorem d2_16 : decode method_2_code 16 = .ok (.return_, 1) := by decide +kernel
theorem d3_0 : decode prog_59_method_4_code 0 = .ok (.lconst 0, 1) := by decide +kernel
theorem d3_1 : decode prog_59_method_4_code 1 = .ok (.lstore 5, 2) := by decide +kernel
theorem d3_3 : decode prog_59_method_4_code 3 = .ok (.iconst 0, 1) := by decide +kernel
theorem d3_4 : decode prog_59_method_4_code 4 = .ok (.istore 7, 2) := by decide +kernel
theorem d3_6 : decode prog_59_method_4_code 6 = .ok (.iload 7, 2) := by decide +kernel
theorem d3_8 : decode prog_59_method_4_code 8 = .ok (.iload_n 2, 1) := by decide +kernel
theorem d3_9 : decode prog_59_method_4_code 9 = .ok (.if_icmp .ge 30, 3) := by decide +kernel
theorem d3_12 : decode prog_59_method_4_code 12 = .ok (.lload 5, 2) := by decide +kernel
theorem d3_14 : decode prog_59_method_4_code 14 = .ok (.aload_n 0, 1) := by decide +kernel
theorem d3_15 : decode prog_59_method_4_code 15 = .ok (.iload_n 1, 1) := by decide +kernel
theorem d3_16 : decode prog_59_method_4_code 16 = .ok (.iload 7, 2) := by decide +kernel
theorem d3_18 : decode prog_59_method_4_code 18 = .ok (.iadd, 1) := by decide +kernel
theorem d3_19 : decode prog_59_method_4_code 19 = .ok (.baload, 1) := by decide +kernel
theorem d3_20 : decode prog_59_method_4_code 20 = .ok (.bipush 127, 2) := by decide +kernel
theorem d3_22 : decode prog_59_method_4_code 22 = .ok (.iand, 1) := by decide +kernel
theorem d3_23 : decode prog_59_method_4_code 23 = .ok (.i2l, 1) := by decide +kernel
theorem d3_24 : decode prog_59_method_4_code 24 = .ok (.bipush 7, 2) := by decide +kernel
theorem d3_26 : decode prog_59_method_4_code 26 = .ok (.iload 7, 2) := by decide +kernel
theorem d3_28 : decode prog_59_method_4_code 28 = .ok (.imul, 1) := by decide +kernel
theorem d3_29 : decode prog_59_method_4_code 29 = .ok (.lshl, 1) := by decide +kernel
theorem d3_30 : decode prog_59_method_4_code 30 = .ok (.lor, 1) := by decide +kernel
theorem d3_31 : decode prog_59_method_4_code 31 = .ok (.lstore 5, 2) := by decide +kernel
theorem d3_33 : decode prog_59_method_4_code 33 = .ok (.iinc 7 1, 3) := by decide +kernel
theorem d3_36 : decode prog_59_method_4_code 36 = .ok (.goto (-30), 3) := by decide +kernel
theorem d3_39 : decode prog_59_method_4_code 39 = .ok (.lload 5, 2) := by decide +kernel
theorem d3_41 : decode prog_59_method_4_code 41 = .ok (.iconst 1, 1) := by decide +kernel
theorem d3_42 : decode prog_59_method_4_code 42 = .ok (.lushr, 1) := by decide +kernel
theorem d3_43 : decode prog_59_method_4_code 43 = .ok (.lload 5, 2) := by decide +kernel
theorem d3_45 : decode prog_59_method_4_code 45 = .ok (.lconst 1, 1) := by decide +kernel
theorem d3_46 : decode prog_59_method_4_code 46 = .ok (.land, 1) := by decide +kernel
theorem d3_47 : decode prog_59_method_4_code 47 = .ok (.lneg, 1) := by decide +kernel
theorem d3_48 : decode prog_59_method_4_code 48 = .ok (.lxor, 1) := by decide +kernel
theorem d3_49 : decode prog_59_method_4_code 49 = .ok (.lstore 7, 2) := by decide +kernel
theorem d3_51 : decode prog_59_method_4_code 51 = .ok (.lload_n 3, 1) := by decide +kernel
theorem d3_52 : decode prog_59_method_4_code 52 = .ok (.lload 7, 2) := by decide +kernel
theorem d3_54 : decode prog_59_method_4_code 54 = .ok (.ladd, 1) := by decide +kernel
theorem d3_55 : decode prog_59_method_4_code 55 = .ok (.lreturn, 1) := by decide +kernel
theorem own_and63 (y : Int32) : (y.toInt64 &&& 63).toBitVec = BitVec.ofNat 64 (y.toBitVec.toNat % 64) := by
  apply BitVec.eq_of_getLsbD_eq
  intro i hi
  have h63 : (63 : Int64).toBitVec = BitVec.ofNat 64 (2 ^ 6 - 1) := by decide
  have hm : (y.toBitVec.toNat % 64) = y.toBitVec.toNat % 2 ^ 6 := rfl
  rw [Int64.toBitVec_and, Int32.toBitVec_toInt64, BitVec.getLsbD_and, BitVec.getLsbD_signExtend, h63, BitVec.getLsbD_ofNat, Nat.testBit_two_pow_sub_one, BitVec.getLsbD_ofNat, hm, Nat.testBit_mod_two_pow]
  by_cases h6 : i < 6
  · have h32 : i < 32 := by omega
    simp [hi, h6, h32, BitVec.getLsbD]
  · simp [h6]
theorem bv_lshl (x : Int64) (y : Int32) : (x <<< (y.toInt64 &&& 63)).toBitVec = x.toBitVec <<< (y.toBitVec.toNat % 64) := by
  show x.toBitVec <<< ((y.toInt64 &&& 63).toBitVec.smod 64) = _
  rw [BitVec.shiftLeft_eq', own_and63, smod64 _ (Nat.mod_lt _ (by decide))]
theorem bv_lshr (x : Int64) (y : Int32) : (x >>> (y.toInt64 &&& 63)).toBitVec = x.toBitVec.sshiftRight (y.toBitVec.toNat % 64) := by
  show x.toBitVec.sshiftRight' ((y.toInt64 &&& 63).toBitVec.smod 64) = _
  rw [BitVec.sshiftRight_eq', own_and63, smod64 _ (Nat.mod_lt _ (by decide))]
theorem bv_lushr (x : Int64) (y : Int32) : (XT.ushrL x y).toBitVec = x.toBitVec >>> (y.toBitVec.toNat % 64) := by
  show x.toBitVec >>> ((y.toInt64 &&& 63).toBitVec % 64) = _
  rw [BitVec.ushiftRight_eq', own_and63, BitVec.toNat_umod, BitVec.toNat_ofNat]
  congr 1
  show y.toBitVec.toNat % 64 % 2 ^ 64 % 64 = _
  omega
theorem bv_ishl (x y : Int32) : (x <<< (y &&& 31)).toBitVec = x.toBitVec <<< (y.toBitVec.toNat % 32) := by
  show x.toBitVec <<< ((y &&& 31).toBitVec.smod 32) = _
  rw [BitVec.shiftLeft_eq', sm32 y _ rfl]
theorem bv_ishr (x y : Int32) : (x >>> (y &&& 31)).toBitVec = x.toBitVec.sshiftRight (y.toBitVec.toNat % 32) := by
  show x.toBitVec.sshiftRight' ((y &&& 31).toBitVec.smod 32) = _
  rw [BitVec.sshiftRight_eq', sm32 y _ rfl]
theorem bv_iushr (x y : Int32) : (XT.ushr x y).toBitVec = x.toBitVec >>> (y.toBitVec.toNat % 32) := by
  show x.toBitVec >>> ((y &&& 31).toBitVec % 32) = _
  have h1 : (y &&& 31).toBitVec.toNat = y.toBitVec.toNat % 32 := by
    show (y.toBitVec &&& (31 : Int32).toBitVec).toNat = _
    rw [BitVec.toNat_and, show (31 : Int32).toBitVec.toNat = 2 ^ 5 - 1 from by decide, Nat.and_two_pow_sub_one_eq_mod]
  rw [BitVec.ushiftRight_eq', BitVec.toNat_umod, h1]
  congr 1
  show y.toBitVec.toNat % 32 % 32 = _
  omega
theorem u64 (x : Int64) : (x.toBitVec.toNat : Int) = x.toInt % 18446744073709551616 := by
  have h := x.toBitVec.isLt
  show _ = x.toBitVec.toInt % _
  rw [BitVec.toInt_eq_toNat_cond]; split <;> omega
theorem u32 (x : Int32) : (x.toBitVec.toNat : Int) = x.toInt % 4294967296 := by
  have h := x.toBitVec.isLt
  show _ = x.toBitVec.toInt % _
  rw [BitVec.toInt_eq_toNat_cond]; split <;> omega
theorem i64 (x : Int64) : x.toInt = if x.toBitVec.toNat < 9223372036854775808 then (x.toBitVec.toNat : Int) else (x.toBitVec.toNat : Int) - 18446744073709551616 := by
  have h := x.toBitVec.isLt
  show x.toBitVec.toInt = _
  rw [BitVec.toInt_eq_toNat_cond]; split <;> split <;> omega
/-- a logical shift by a known count, as a number -/
theorem n_lushr (x : Int64) (y : Int32) (k : Nat) (hk : y.toBitVec.toNat % 64 = k) : (XT.ushrL x y).toBitVec.toNat = x.toBitVec.toNat / 2 ^ k := by
  rw [bv_lushr, hk, BitVec.toNat_ushiftRight, Nat.shiftRight_eq_div_pow]
theorem n_iushr (x y : Int32) (k : Nat) (hk : y.toBitVec.toNat % 32 = k) : (XT.ushr x y).toBitVec.toNat = x.toBitVec.toNat / 2 ^ k := by
  rw [bv_iushr, hk, BitVec.toNat_ushiftRight, Nat.shiftRight_eq_div_pow]
theorem nn32 (y : Int32) (h : 0 ≤ y.toInt) : y.toBitVec.toNat = y.toInt.toNat := by
  have h1 := u32 y
  have := y.toInt_lt
  omega
theorem nn64 (y : Int64) (h : 0 ≤ y.toInt) : y.toBitVec.toNat = y.toInt.toNat := by
  have h1 := u64 y
  have := y.toInt_lt
  omega
theorem own_mask (y : Int32) (hy : 0 ≤ y.toInt ∧ y.toInt < 64) (K : Nat) (hK : K < 64) : (((1 : Int64) <<< (y.toInt64 &&& 63)) - 1).toBitVec.getLsbD K = decide (K < y.toInt.toNat) := by
  have hW : y.toBitVec.toNat % 64 = y.toInt.toNat := by rw [nn32 y hy.1]; omega
  rw [Int64.toBitVec_sub, bv_lshl, hW]
  have h2 : y.toInt.toNat < 64 := by omega
  generalize y.toInt.toNat = W at *
  have e : (1 : Int64).toBitVec <<< W - (1 : Int64).toBitVec = BitVec.ofNat 64 (2 ^ W - 1) := by
    apply BitVec.eq_of_toNat_eq
    have p1 : 2 ^ W < 2 ^ 64 := Nat.pow_lt_pow_right (by decide) h2
    have p2 : 0 < 2 ^ W := Nat.two_pow_pos W
    rw [BitVec.toNat_sub, BitVec.toNat_shiftLeft, Nat.shiftLeft_eq, BitVec.toNat_ofNat, show (1 : Int64).toBitVec.toNat = 1 from by decide, Nat.one_mul]
    generalize 2 ^ W = P at *
    omega
  rw [e, BitVec.getLsbD_ofNat, Nat.testBit_two_pow_sub_one]
  simp [hK]
theorem own_bit (x : Int64) (y : Int32) : (XT.ushrL x y &&& (1 : Int64)) = if x.toBitVec.getLsbD (y.toBitVec.toNat % 64) then 1 else 0 := by
  apply Int64.toBitVec_inj.mp
  apply BitVec.eq_of_getLsbD_eq
  intro i hi
  rw [Int64.toBitVec_and, bv_lushr, BitVec.getLsbD_and, BitVec.getLsbD_ushiftRight]
  generalize y.toBitVec.toNat % 64 = k
  have h1 : (1 : Int64).toBitVec.getLsbD i = decide (i = 0) := by
    show (1#64).getLsbD i = _
    rw [BitVec.getLsbD_one]; simp
  rw [h1]
  by_cases q : i = 0
  · subst q
    cases h : x.toBitVec.getLsbD k <;> simp [h]
  · cases h : x.toBitVec.getLsbD k
    · simp [q]
    · simp [q, h1]

def rdI (xs : List Int32) (j : Int32) : Int32 := xs.getD j.toNatClampNeg 0
theorem rdI_some {xs : List Int32} {j : Int32} (h : j.toNatClampNeg < xs.length) : xs[j.toNatClampNeg]? = some (rdI xs j) := by
  simp [rdI, List.getD, h]
def putL : Nat → Int64 → Int32 → List Int32 → List Int32
  | 0, _, _, xs => xs
  | d + 1, z, i, xs => if (z &&& (-128 : Int64)) = (0 : Int64) then xs.set i.toNatClampNeg (nar .byte (z.toInt32).toInt8.toInt32) else putL d (XT.ushrL z (7 : Int32)) (i + (1 : Int32)) (xs.set i.toNatClampNeg (nar .byte ((((z &&& (127 : Int64)) ||| (128 : Int64)).toInt32).toInt8.toInt32)))
def putN : Nat → Int64 → Int32 → Int32
  | 0, _, i => i
  | d + 1, z, i => if (z &&& (-128 : Int64)) = (0 : Int64) then i + (1 : Int32) else putN d (XT.ushrL z (7 : Int32)) (i + (1 : Int32))
def getL (xs : List Int32) (fr : Int32) : Nat → Int32 → Int64 → Int64
  | 0, _, acc => acc
  | d + 1, i, acc => getL xs fr d (i + (1 : Int32)) (acc ||| ((((rdI xs (fr + i)) &&& (127 : Int32)).toInt64) <<< (((7 : Int32) * i).toInt64 &&& 63)))
def zig (t p : Int64) : Int64 := (((t - p) <<< ((1 : Int32).toInt64 &&& 63)) ^^^ ((t - p) >>> ((63 : Int32).toInt64 &&& 63)))
def unzig (p a : Int64) : Int64 := (p + ((XT.ushrL a (1 : Int32)) ^^^ (-(a &&& (1 : Int64)))))
theorem own_lt (i c : Int32) (h : i.toInt < c.toInt) : i < c := by rw [Int32.lt_iff_toInt_lt]; exact h
theorem own_nlt (i c : Int32) (h : ¬ i.toInt < c.toInt) : ¬ i < c := by rw [Int32.lt_iff_toInt_lt]; exact h
theorem own_i1 {i : Int32} (h0 : 0 ≤ i.toInt) (h1 : i.toInt < 100) : (i + (1 : Int32)).toInt = i.toInt + 1 := by
  have h := c_iadd i 1
  have r := rng32 (i + 1)
  have e1 : (1 : Int32).toInt = 1 := by decide
  omega
theorem own_ii {a i : Int32} (ha : 0 ≤ a.toInt ∧ a.toInt < 100) (hi : 0 ≤ i.toInt ∧ i.toInt < 100) : (a + i).toInt = a.toInt + i.toInt := by
  have h1 := c_iadd a i
  have r := rng32 (a + i)
  omega
theorem own_m128 (K : Nat) (hK : K < 64) : (-128 : Int64).toBitVec.getLsbD K = decide (7 ≤ K) := by
  have : ∀ K : Fin 64, (-128 : Int64).toBitVec.getLsbD K.val = decide (7 ≤ K.val) := by decide +kernel
  exact this ⟨K, hK⟩
theorem own_hi (z : Int64) : (z &&& (-128 : Int64)) = (0 : Int64) ↔ z.toBitVec.toNat < 128 := by
  constructor
  · intro h
    apply Nat.lt_pow_two_of_testBit (n := 7)
    intro i hi
    by_cases h64 : i < 64
    · have h1 := congrArg (fun x : Int64 => x.toBitVec.getLsbD i) h
      simp only [Int64.toBitVec_and, BitVec.getLsbD_and, own_m128 i h64] at h1
      rw [decide_eq_true hi, Bool.and_true] at h1
      exact h1.trans (by show (0#64).getLsbD i = false; simp)
    · exact BitVec.getLsbD_of_ge z.toBitVec i (by omega)
  · intro h
    apply Int64.toBitVec_inj.mp
    apply BitVec.eq_of_getLsbD_eq
    intro K hK
    rw [Int64.toBitVec_and, BitVec.getLsbD_and, own_m128 K hK]
    show _ = (0#64).getLsbD K
    by_cases h7 : 7 ≤ K
    · have : z.toBitVec.getLsbD K = false := Nat.testBit_lt_two_pow (Nat.lt_of_lt_of_le h (show 2 ^ 7 ≤ 2 ^ K from Nat.pow_le_pow_right (by decide) h7))
      rw [this]; simp
    · rw [decide_eq_false h7]; simp
theorem own_dv (z : Int64) (d : Nat) (h : z.toBitVec.toNat < 128 ^ (d + 1)) (h2 : ¬ (z &&& (-128 : Int64)) = (0 : Int64)) : (XT.ushrL z (7 : Int32)).toBitVec.toNat < 128 ^ d ∧ 0 < d := by
  rw [own_hi] at h2
  rw [n_lushr z 7 7 (by decide)]
  constructor
  · apply Nat.div_lt_of_lt_mul
    rw [Nat.pow_succ] at h
    show _ < 128 * 128 ^ d
    omega
  · rcases Nat.eq_zero_or_pos d with q | q
    · subst q; simp at h; omega
    · exact q
set_option maxRecDepth 65536 in
set_option maxHeartbeats 40000000 in
theorem rm_put (l : Launch) (Z : State) (a0 : Array Value) (hw : ∀ d ∈ tables_1, d.before a0 Z = true) (tm : Int64) (pv : Int64) (ar : Addr) (h0 : Heap) (n0 : Nat) (Z0 : n0 ≤ h0.size) (xs : List Int32) (A_ar : IA Z h0 ar .byte xs) (g_ar : n0 ≤ ar) (hx : xs.length = 10) :
    Meets l (⟨"com/example/caddis/caddis/TimeDelta", "put", "(JJ[B)I"⟩ : MethodName) prog_59_method_2_code 10 (some .int) ({ frames := 0, cells := 0, slots := 0, locals := 0 } : Room) Z #[(.long tm), (.long pv), (.ref ar)] h0 n0 (fun v h => v = some (Value.int (putN 10 (zig tm pv) 0)) ∧ Keep h0 h [ar] ∧ IA Z h ar .byte (putL 10 (zig tm pv) 0 xs)) := by
  refine meets_of (plainFor_of_name pn0) (Ls := #[.val (.long tm), .second, .val (.long pv), .second, .val (.ref ar), .unset, .unset, .unset, .unset, .unset]) (fun m => by first | (simp [entryFrame, mkF, argsToLocals, Value.category]; done) | rfl) ?_
  intro p e s m below meth c K
  replace K : Kx Z "com/example/caddis/caddis/TimeDelta" "put" prog_59_method_2_code 10 (some .int) p s m meth c := K
  obtain ⟨Q, hQ⟩ : ∃ Q : Option Value → Heap → Prop, Q = (fun v h => v = some (Value.int (putN 10 (zig tm pv) 0)) ∧ Keep h0 h [ar] ∧ IA Z h ar .byte (putL 10 (zig tm pv) 0 xs)) := ⟨_, rfl⟩
  rw [← hQ]
  have loop : ∀ (d : Nat) (z : Int64) (i : Int32) (h : Heap) (ys : List Int32), Keep h0 h [ar] → IA Z h ar .byte ys → ys.length = 10 → 0 ≤ i.toInt → i.toInt + d = 10 → z.toBitVec.toNat < 128 ^ d → 0 < d → putL d z i ys = (putL 10 (zig tm pv) 0 xs) → putN d z i = (putN 10 (zig tm pv) 0) → Go p l e ({ frames := 0, cells := 0, slots := 0, locals := 0 } : Room) s m #[(.long tm), (.long pv), (.ref ar)] below meth c n0 Q h 0 0 (mkF m 20 #[.val (.long tm), .second, .val (.long pv), .second, .val (.ref ar), .val (.long (tm - pv)), .second, .val (.long z), .second, .val (.int i)] []) := by
    intro d
    induction d with
    | zero => intro z i h ys KC A hy hi0 hid hz hd; exact absurd hd (by decide)
    | succ d ih =>
      intro z i h ys KC A hy hi0 hid hz hd hL hN
      refine g_lload K 20 d1_20 rfl ?_
      refine g_ldc2_w K 22 (v := (-128 : Int64)) d1_22 (tw hw 5 rfl) ?_
      refine g_land K 25 d1_25 ?_
      refine g_lconst K 26 (0 : Int64) d1_26 (by decide) ?_
      refine g_lcmp K 27 d1_27 ?_
      refine g_ll_eq K 28 61 d1_28 (by decide) (by decide) ?_ ?_
      · intro c1
        refine g_aload K 61 d1_61 rfl rfl ?_
        refine g_iload K 63 d1_63 rfl ?_
        refine g_lload K 65 d1_65 rfl ?_
        refine g_l2i K 67 d1_67 ?_
        refine g_i2b K 68 d1_68 ?_
        refine g_bastore K 69 d1_69 A (own_nlt _ _ (by show ¬ i.toInt < 0; omega)) (by rw [hy]; show i.toInt.toNat < 10; omega) g_ar ?_
        intro h2 Kp3 A4
        have KC5 := KC.trans Kp3 (allS (Or.inl (by simp)) all0)
        refine g_iload K 70 d1_70 rfl ?_
        refine g_iconst K 72 (1 : Int32) d1_72 (by decide) ?_
        refine g_iadd K 73 d1_73 ?_
        refine g_ireturn K 74 d1_74 rfl (by decide) (by decide) ?_
        rw [hQ]
        exact ⟨by rw [← hN]; unfold putN; rw [if_pos c1], KC5, by rw [← hL]; unfold putL; rw [if_pos c1]; exact A4⟩
      · intro c1
        refine g_aload K 31 d1_31 rfl rfl ?_
        refine g_iload K 33 d1_33 rfl ?_
        refine g_lload K 35 d1_35 rfl ?_
        refine g_ldc2_w K 37 (v := (127 : Int64)) d1_37 (tw hw 13 rfl) ?_
        refine g_land K 40 d1_40 ?_
        refine g_ldc2_w K 41 (v := (128 : Int64)) d1_41 (tw hw 14 rfl) ?_
        refine g_lor K 44 d1_44 ?_
        refine g_l2i K 45 d1_45 ?_
        refine g_i2b K 46 d1_46 ?_
        refine g_bastore K 47 d1_47 A (own_nlt _ _ (by show ¬ i.toInt < 0; omega)) (by rw [hy]; show i.toInt.toNat < 10; omega) g_ar ?_
        intro h6 Kp7 A8
        have KC9 := KC.trans Kp7 (allS (Or.inl (by simp)) all0)
        refine g_lload K 48 d1_48 rfl ?_
        refine g_bipush K 50 (7 : Int32) d1_50 (by decide) ?_
        refine g_lushr K 52 d1_52 ?_
        refine g_lstore K 53 #[.val (.long tm), .second, .val (.long pv), .second, .val (.ref ar), .val (.long (tm - pv)), .second, .val (.long (XT.ushrL z (7 : Int32))), .second, .val (.int i)] d1_53 rfl ?_
        refine g_iinc K 55 (1 : Int32) #[.val (.long tm), .second, .val (.long pv), .second, .val (.ref ar), .val (.long (tm - pv)), .second, .val (.long (XT.ushrL z (7 : Int32))), .second, .val (.int (i + (1 : Int32)))] d1_55 (by decide) rfl rfl ?_
        refine g_goto K 58 20 d1_58 (by decide) (by decide) ?_
        exact ih _ _ _ _ KC9 A8 (by simpa using hy) (by rw [own_i1 hi0 (by omega)]; omega) (by rw [own_i1 hi0 (by omega)]; omega) (own_dv _ _ hz c1).1 (own_dv _ _ hz c1).2 (by rw [← hL]; conv => rhs; unfold putL; rw [if_neg c1]) (by rw [← hN]; conv => rhs; unfold putN; rw [if_neg c1])
  refine g_lloadN K 0 d1_0 rfl ?_
  refine g_lloadN K 1 d1_1 rfl ?_
  refine g_lsub K 2 d1_2 ?_
  refine g_lstore K 3 #[.val (.long tm), .second, .val (.long pv), .second, .val (.ref ar), .val (.long (tm - pv)), .second, .unset, .unset, .unset] d1_3 rfl ?_
  refine g_lload K 5 d1_5 rfl ?_
  refine g_iconst K 7 (1 : Int32) d1_7 (by decide) ?_
  refine g_lshl K 8 d1_8 ?_
  refine g_lload K 9 d1_9 rfl ?_
  refine g_bipush K 11 (63 : Int32) d1_11 (by decide) ?_
  refine g_lshr K 13 d1_13 ?_
  refine g_lxor K 14 d1_14 ?_
  refine g_lstore K 15 #[.val (.long tm), .second, .val (.long pv), .second, .val (.ref ar), .val (.long (tm - pv)), .second, .val (.long (((tm - pv) <<< ((1 : Int32).toInt64 &&& 63)) ^^^ ((tm - pv) >>> ((63 : Int32).toInt64 &&& 63)))), .second, .unset] d1_15 rfl ?_
  refine g_iconst K 17 (0 : Int32) d1_17 (by decide) ?_
  refine g_istore K 18 #[.val (.long tm), .second, .val (.long pv), .second, .val (.ref ar), .val (.long (tm - pv)), .second, .val (.long (((tm - pv) <<< ((1 : Int32).toInt64 &&& 63)) ^^^ ((tm - pv) >>> ((63 : Int32).toInt64 &&& 63)))), .second, .val (.int (0 : Int32))] d1_18 rfl ?_
  exact loop 10 (zig tm pv) 0 h0 xs (Keep.refl _ _) A_ar hx (by decide) (by decide) (Nat.lt_of_lt_of_le (zig tm pv).toBitVec.isLt (by decide)) (by decide) rfl rfl
def f_place_a (xs : List Int32) (ys : List Int32) (fr : Int32) (nn : Int32) (kk : Int32) : List Int32 := if kk < nn then (xs.set (fr + kk).toNatClampNeg (nar .byte (rdI ys kk))) else xs
set_option maxRecDepth 65536 in
set_option maxHeartbeats 40000000 in
theorem rm_place (l : Launch) (Z : State) (a0 : Array Value) (hw : ∀ d ∈ tables_1, d.before a0 Z = true) (a : Addr) (fr : Int32) (b : Addr) (nn : Int32) (kk : Int32) (h0 : Heap) (n0 : Nat) (Z0 : n0 ≤ h0.size) (xs : List Int32) (ys : List Int32) (A_a : IA Z h0 a .byte xs) (g_a : n0 ≤ a) (A_b : IA Z h0 b .byte ys) (g_b : n0 ≤ b) (ne_a_b : a ≠ b) (ha : kk < nn → ¬ (fr + kk) < 0 ∧ (fr + kk).toNatClampNeg < xs.length) (hb : kk < nn → ¬ kk < 0 ∧ kk.toNatClampNeg < ys.length) :
    Meets l (⟨"com/example/caddis/caddis/TimeDeltaGetPinLaw", "place", "([BI[BII)V"⟩ : MethodName) method_2_code 5 none ({ frames := 0, cells := 0, slots := 0, locals := 0 } : Room) Z #[(.ref a), (.int fr), (.ref b), (.int nn), (.int kk)] h0 n0 (fun v h => v = none ∧ Keep h0 h [a, b] ∧ IA Z h a .byte (f_place_a xs ys fr nn kk) ∧ IA Z h b .byte ys) := by
  refine meets_of (plainFor_of_name pn1) (Ls := #[.val (.ref a), .val (.int fr), .val (.ref b), .val (.int nn), .val (.int kk)]) (fun m => by first | (simp [entryFrame, mkF, argsToLocals, Value.category]; done) | rfl) ?_
  intro p e s m below meth c K
  replace K : Kx Z "com/example/caddis/caddis/TimeDeltaGetPinLaw" "place" method_2_code 5 none p s m meth c := K
  obtain ⟨Q, hQ⟩ : ∃ Q : Option Value → Heap → Prop, Q = (fun v h => v = none ∧ Keep h0 h [a, b] ∧ IA Z h a .byte (f_place_a xs ys fr nn kk) ∧ IA Z h b .byte ys) := ⟨_, rfl⟩
  rw [← hQ]
  have KC0 := Keep.refl h0 [a, b]
  refine g_iload K 0 d2_0 rfl ?_
  refine g_iloadN K 2 d2_2 rfl ?_
  refine g_ii_ge K 3 16 d2_3 (by decide) (by decide) ?_ ?_
  · intro c1
    refine g_return K 16 d2_16 rfl (by decide) (by decide) ?_
    rw [hQ]
    exact ⟨rfl, KC0, (show IA Z h0 a .byte (f_place_a xs ys fr nn kk) from by unfold f_place_a; rw [if_neg c1]; exact A_a), A_b⟩
  · intro c1
    refine g_aloadN K 6 d2_6 rfl rfl ?_
    refine g_iloadN K 7 d2_7 rfl ?_
    refine g_iload K 8 d2_8 rfl ?_
    refine g_iadd K 10 d2_10 ?_
    refine g_aloadN K 11 d2_11 rfl rfl ?_
    refine g_iload K 12 d2_12 rfl ?_
    refine g_baload K 14 (rdI ys kk) d2_14 A_b ((hb c1).1) (rdI_some (hb c1).2) ?_
    refine g_bastore K 15 d2_15 A_a ((ha c1).1) ((ha c1).2) g_a ?_
    intro h2 Kp3 A4
    have F5 := A_b.keep Kp3 (ninS ne_a_b.symm nin0)
    have KC6 := KC0.trans Kp3 (allS (Or.inl (by simp)) all0)
    have Z7 := Nat.le_trans Z0 Kp3.1
    refine g_return K 16 d2_16 rfl (by decide) (by decide) ?_
    rw [hQ]
    exact ⟨rfl, KC6, (show IA Z h2 a .byte (f_place_a xs ys fr nn kk) from by unfold f_place_a; rw [if_pos c1]; exact A4), F5⟩
set_option maxRecDepth 65536 in
set_option maxHeartbeats 40000000 in
theorem rm_get (l : Launch) (Z : State) (a0 : Array Value) (hw : ∀ d ∈ tables_1, d.before a0 Z = true) (ar : Addr) (fr : Int32) (ln : Int32) (pv : Int64) (h0 : Heap) (n0 : Nat) (Z0 : n0 ≤ h0.size) (xs : List Int32) (A_ar : IA Z h0 ar .byte xs) (hfr : 0 ≤ fr.toInt ∧ fr.toInt < 100) (hln : 0 ≤ ln.toInt ∧ ln.toInt < 100) (hsum : fr.toInt + ln.toInt ≤ xs.length) :
    Meets l (⟨"com/example/caddis/caddis/TimeDelta", "get", "([BIIJ)J"⟩ : MethodName) prog_59_method_4_code 9 (some .long) ({ frames := 0, cells := 0, slots := 0, locals := 0 } : Room) Z #[(.ref ar), (.int fr), (.int ln), (.long pv)] h0 n0 (fun v h => v = some (Value.long (unzig pv (getL xs fr ln.toInt.toNat 0 0))) ∧ h = h0) := by
  refine meets_of (plainFor_of_name pn0) (Ls := #[.val (.ref ar), .val (.int fr), .val (.int ln), .val (.long pv), .second, .unset, .unset, .unset, .unset]) (fun m => by first | (simp [entryFrame, mkF, argsToLocals, Value.category]; done) | rfl) ?_
  intro p e s m below meth c K
  replace K : Kx Z "com/example/caddis/caddis/TimeDelta" "get" prog_59_method_4_code 9 (some .long) p s m meth c := K
  obtain ⟨Q, hQ⟩ : ∃ Q : Option Value → Heap → Prop, Q = (fun v h => v = some (Value.long (unzig pv (getL xs fr ln.toInt.toNat 0 0))) ∧ h = h0) := ⟨_, rfl⟩
  rw [← hQ]
  have loop : ∀ (d : Nat) (i : Int32) (acc : Int64), 0 ≤ i.toInt → i.toInt + d = ln.toInt → getL xs fr d i acc = (getL xs fr ln.toInt.toNat 0 0) → Go p l e ({ frames := 0, cells := 0, slots := 0, locals := 0 } : Room) s m #[(.ref ar), (.int fr), (.int ln), (.long pv)] below meth c n0 Q h0 0 0 (mkF m 6 #[.val (.ref ar), .val (.int fr), .val (.int ln), .val (.long pv), .second, .val (.long acc), .second, .val (.int i), .unset] []) := by
    intro d
    induction d with
    | zero =>
      intro i acc hi0 hid hfin
      refine g_iload K 6 d3_6 rfl ?_
      refine g_iloadN K 8 d3_8 rfl ?_
      refine g_ii_ge K 9 39 d3_9 (by decide) (by decide) ?_ ?_
      · intro c1
        refine g_lload K 39 d3_39 rfl ?_
        refine g_iconst K 41 (1 : Int32) d3_41 (by decide) ?_
        refine g_lushr K 42 d3_42 ?_
        refine g_lload K 43 d3_43 rfl ?_
        refine g_lconst K 45 (1 : Int64) d3_45 (by decide) ?_
        refine g_land K 46 d3_46 ?_
        refine g_lneg K 47 d3_47 ?_
        refine g_lxor K 48 d3_48 ?_
        refine g_lstore K 49 #[.val (.ref ar), .val (.int fr), .val (.int ln), .val (.long pv), .second, .val (.long acc), .second, .val (.long ((XT.ushrL acc (1 : Int32)) ^^^ (-(acc &&& (1 : Int64))))), .second] d3_49 rfl ?_
        refine g_lloadN K 51 d3_51 rfl ?_
        refine g_lload K 52 d3_52 rfl ?_
        refine g_ladd K 54 d3_54 ?_
        refine g_lreturn K 55 d3_55 rfl (by decide) (by decide) ?_
        rw [hQ]
        refine ⟨?_, rfl⟩
        show _ = some (Value.long (unzig pv (getL xs fr ln.toInt.toNat 0 0)))
        rw [← hfin]
        rfl
      · intro c1
        exfalso
        exact absurd c1 (own_nlt _ _ (by omega))
    | succ d ih =>
      intro i acc hi0 hid hfin
      refine g_iload K 6 d3_6 rfl ?_
      refine g_iloadN K 8 d3_8 rfl ?_
      refine g_ii_ge K 9 39 d3_9 (by decide) (by decide) ?_ ?_
      · intro c2
        exfalso
        exact c2 (own_lt _ _ (by omega))
      · intro c2
        refine g_lload K 12 d3_12 rfl ?_
        refine g_aloadN K 14 d3_14 rfl rfl ?_
        refine g_iloadN K 15 d3_15 rfl ?_
        refine g_iload K 16 d3_16 rfl ?_
        refine g_iadd K 18 d3_18 ?_
        refine g_baload K 19 (rdI xs (fr + i)) d3_19 A_ar (own_nlt _ _ (by rw [own_ii hfr (by omega)]; show ¬ _ < (0 : Int); omega)) (rdI_some (by show (fr + i).toInt.toNat < _; rw [own_ii hfr (by omega)]; omega)) ?_
        refine g_bipush K 20 (127 : Int32) d3_20 (by decide) ?_
        refine g_iand K 22 d3_22 ?_
        refine g_i2l K 23 d3_23 ?_
        refine g_bipush K 24 (7 : Int32) d3_24 (by decide) ?_
        refine g_iload K 26 d3_26 rfl ?_
        refine g_imul K 28 d3_28 ?_
        refine g_lshl K 29 d3_29 ?_
        refine g_lor K 30 d3_30 ?_
        refine g_lstore K 31 #[.val (.ref ar), .val (.int fr), .val (.int ln), .val (.long pv), .second, .val (.long (acc ||| ((((rdI xs (fr + i)) &&& (127 : Int32)).toInt64) <<< (((7 : Int32) * i).toInt64 &&& 63)))), .second, .val (.int i), .unset] d3_31 rfl ?_
        refine g_iinc K 33 (1 : Int32) #[.val (.ref ar), .val (.int fr), .val (.int ln), .val (.long pv), .second, .val (.long (acc ||| ((((rdI xs (fr + i)) &&& (127 : Int32)).toInt64) <<< (((7 : Int32) * i).toInt64 &&& 63)))), .second, .val (.int (i + (1 : Int32))), .unset] d3_33 (by decide) rfl rfl ?_
        refine g_goto K 36 6 d3_36 (by decide) (by decide) ?_
        exact ih _ _ (by rw [own_i1 hi0 (by omega)]; omega) (by rw [own_i1 hi0 (by omega)]; omega) hfin
  refine g_lconst K 0 (0 : Int64) d3_0 (by decide) ?_
  refine g_lstore K 1 #[.val (.ref ar), .val (.int fr), .val (.int ln), .val (.long pv), .second, .val (.long (0 : Int64)), .second, .unset, .unset] d3_1 rfl ?_
  refine g_iconst K 3 (0 : Int32) d3_3 (by decide) ?_
  refine g_istore K 4 #[.val (.ref ar), .val (.int fr), .val (.int ln), .val (.long pv), .second, .val (.long (0 : Int64)), .second, .val (.int (0 : Int32)), .unset] d3_4 rfl ?_
  exact loop ln.toInt.toNat 0 0 (by decide) (by show (0 : Int) + _ = _; omega) rfl
theorem own_cl (i : Int32) : i.toNatClampNeg = i.toInt.toNat := rfl
theorem own_byteA (w : Int64) : (nar .byte ((((w &&& (127 : Int64)) ||| (128 : Int64)).toInt32).toInt8.toInt32)).toInt = (w.toBitVec.toNat % 128 : Nat) - 128 := by
  have e : nar .byte ((((w &&& (127 : Int64)) ||| (128 : Int64)).toInt32).toInt8.toInt32) = (((w &&& (127 : Int64)) ||| (128 : Int64)).toInt32).toInt8.toInt32 := by simp [nar]
  rw [e]
  have h1 := c_maskL w 127 7 (by decide) (by decide)
  have hu := u64 w
  have h2 := c_orL' (w &&& 127) 128 7 (by decide) 128 (by decide) (by decide) (by omega) (by omega)
  rw [show (128 : Int64).toInt = 128 from by decide] at h2
  have r2 := rng64 ((w &&& 127) ||| 128)
  generalize (w &&& 127) ||| 128 = A at *
  have h3 := c_l2i A
  have r3 := rng32 A.toInt32
  generalize A.toInt32 = B at *
  obtain ⟨h4, h5, h6⟩ := c_i2b B
  omega
theorem own_byteB (w : Int64) (hw : w.toBitVec.toNat < 128) : (nar .byte (w.toInt32).toInt8.toInt32).toInt = w.toBitVec.toNat := by
  have e : nar .byte (w.toInt32).toInt8.toInt32 = (w.toInt32).toInt8.toInt32 := by simp [nar]
  rw [e]
  have hu := i64 w
  rw [if_pos (by omega)] at hu
  have h3 := c_l2i w
  have r3 := rng32 w.toInt32
  generalize w.toInt32 = B at *
  obtain ⟨h4, h5, h6⟩ := c_i2b B
  omega
/-- an int's low bits, by its number -/
theorem own_low (b : Int32) (n : Nat) (h : (b.toInt - n) % 128 = 0) (j : Nat) (hj : j < 7) : b.toBitVec.getLsbD j = n.testBit j := by
  have hu := u32 b
  have e : b.toBitVec.toNat % 128 = n % 128 := by omega
  have e1 : b.toBitVec.toNat.testBit j = (b.toBitVec.toNat % 2 ^ 7).testBit j := by rw [Nat.testBit_mod_two_pow]; simp [hj]
  have e2 : n.testBit j = (n % 2 ^ 7).testBit j := by rw [Nat.testBit_mod_two_pow]; simp [hj]
  show b.toBitVec.toNat.testBit j = _
  rw [e1, e2]
  congr 1
theorem own_getset (xs : List Int32) (i k : Nat) (v : Int32) (hi : i < xs.length) : (xs.set i v).getD k 0 = if k = i then v else xs.getD k 0 := by
  simp only [List.getD_eq_getElem?_getD, List.getElem?_set]
  by_cases h : i = k
  · subst h; simp [hi]
  · have : ¬ k = i := fun q => h q.symm
    simp [h, this]
theorem own_put (d : Nat) : ∀ (z : Int64) (i : Int32) (xs : List Int32), z.toBitVec.toNat < 128 ^ d → 0 < d → 0 ≤ i.toInt → i.toInt + d = 10 → xs.length = 10 →
    ∃ N : Nat, (putN d z i).toInt = N ∧ i.toInt < N ∧ N ≤ 10 ∧ (putL d z i xs).length = 10 ∧
      (∀ K, 7 * (N - i.toInt.toNat) ≤ K → z.toBitVec.getLsbD K = false) ∧
      (∀ k, k < 10 → (k < i.toInt.toNat ∨ N ≤ k) → (putL d z i xs).getD k 0 = xs.getD k 0) ∧
      (∀ k, i.toInt.toNat ≤ k → k < N → ∀ j, j < 7 → ((putL d z i xs).getD k 0).toBitVec.getLsbD j = z.toBitVec.getLsbD (7 * (k - i.toInt.toNat) + j)) ∧
      (∀ k, i.toInt.toNat ≤ k → k + 1 < N → ((putL d z i xs).getD k 0).toInt < 0) ∧
      ((putL d z i xs).getD (N - 1) 0).toInt = (z.toBitVec.toNat / 128 ^ (N - 1 - i.toInt.toNat) : Nat) ∧ ((putL d z i xs).getD (N - 1) 0).toInt < 128 ∧
      (i.toInt + 1 < N → ¬ ((putL d z i xs).getD (N - 1) 0).toInt = 0) := by
  induction d with
  | zero => intro z i xs hz hd; exact absurd hd (by decide)
  | succ d ih =>
    intro z i xs hz hd hi0 hid hx
    have hi1 := own_i1 hi0 (by omega)
    have hil : i.toNatClampNeg < xs.length := by rw [own_cl]; omega
    by_cases q : (z &&& (-128 : Int64)) = (0 : Int64)
    · have hz7 := (own_hi z).mp q
      have eL : putL (d + 1) z i xs = xs.set i.toNatClampNeg (nar .byte (z.toInt32).toInt8.toInt32) := by unfold putL; rw [if_pos q]
      have eN : putN (d + 1) z i = i + 1 := by unfold putN; rw [if_pos q]
      rw [eL, eN]
      have hb := own_byteB z hz7
      have hg := fun k => own_getset xs i.toNatClampNeg k (nar .byte (z.toInt32).toInt8.toInt32) hil
      rw [own_cl] at hg
      have hsub : i.toInt.toNat + 1 - 1 = i.toInt.toNat := by omega
      refine ⟨i.toInt.toNat + 1, by rw [hi1]; omega, by omega, by omega, by simp [hx], ?_, ?_, ?_, ?_, ?_, ?_, ?_⟩
      · intro K hK
        exact Nat.testBit_lt_two_pow (Nat.lt_of_lt_of_le hz7 (show 2 ^ 7 ≤ 2 ^ K from Nat.pow_le_pow_right (by decide) (by omega)))
      · intro k hk hor
        rw [own_cl, hg, if_neg (by omega)]
      · intro k hk1 hk2 j hj
        have : k = i.toInt.toNat := by omega
        rw [own_cl, hg, if_pos this, own_low _ z.toBitVec.toNat (by rw [hb]; simp) j hj, this]
        show _ = z.toBitVec.toNat.testBit _
        congr 1; omega
      · intro k hk1 hk2; omega
      · rw [hsub, own_cl, hg, if_pos rfl, hb]; simp
      · rw [hsub, own_cl, hg, if_pos rfl, hb]; omega
      · intro h; omega
    · have hz7 : ¬ z.toBitVec.toNat < 128 := fun w => q ((own_hi z).mpr w)
      have eL : putL (d + 1) z i xs = putL d (XT.ushrL z (7 : Int32)) (i + (1 : Int32)) (xs.set i.toNatClampNeg (nar .byte ((((z &&& (127 : Int64)) ||| (128 : Int64)).toInt32).toInt8.toInt32))) := by conv => lhs; unfold putL; rw [if_neg q]
      have eN : putN (d + 1) z i = putN d (XT.ushrL z (7 : Int32)) (i + (1 : Int32)) := by conv => lhs; unfold putN; rw [if_neg q]
      have hdv := own_dv z d hz q
      have hzn := n_lushr z 7 7 (by decide)
      obtain ⟨N, a1, a2, a3, a4, a5, a6, a7, a8, a9, a10, a11⟩ := ih (XT.ushrL z 7) (i + 1) (xs.set i.toNatClampNeg (nar .byte ((((z &&& (127 : Int64)) ||| (128 : Int64)).toInt32).toInt8.toInt32))) hdv.1 hdv.2 (by omega) (by omega) (by simpa using hx)
      have hb := own_byteA z
      have hg := fun k => own_getset xs i.toNatClampNeg k (nar .byte ((((z &&& (127 : Int64)) ||| (128 : Int64)).toInt32).toInt8.toInt32)) hil
      have hzb : ∀ K, (XT.ushrL z 7).toBitVec.getLsbD K = z.toBitVec.getLsbD (7 + K) := fun K => by
        rw [bv_lushr, BitVec.getLsbD_ushiftRight]; congr 1
      have hin : (i + 1).toInt.toNat = i.toInt.toNat + 1 := by omega
      rw [eL, eN]
      rw [hin] at a5 a6 a7 a8 a9
      refine ⟨N, a1, by omega, a3, a4, ?_, ?_, ?_, ?_, ?_, a10, ?_⟩
      · intro K hK
        have := a5 (K - 7) (by omega)
        rw [hzb] at this
        rw [← this]; congr 1; omega
      · intro k hk hor
        rw [a6 k hk (by omega), hg, own_cl, if_neg (by omega)]
      · intro k hk1 hk2 j hj
        by_cases e : k = i.toInt.toNat
        · rw [a6 k (by omega) (by omega), hg, own_cl, if_pos e, own_low _ (z.toBitVec.toNat) (by rw [hb]; omega) j hj, e]
          show _ = z.toBitVec.toNat.testBit _
          congr 1; omega
        · rw [a7 k (by omega) hk2 j hj, hzb]
          congr 1; omega
      · intro k hk1 hk2
        by_cases e : k = i.toInt.toNat
        · rw [a6 k (by omega) (by omega), hg, own_cl, if_pos e, hb]; omega
        · exact a8 k (by omega) hk2
      · rw [a9, hzn, Nat.div_div_eq_div_mul]
        congr 2
        have : N - 1 - i.toInt.toNat = (N - 1 - (i.toInt.toNat + 1)) + 1 := by omega
        rw [this, show (2 : Nat) ^ 7 = 128 from by decide, Nat.pow_succ, Nat.mul_comm]
      · intro h
        by_cases e : N = i.toInt.toNat + 2
        · rw [a9, hzn]
          have : N - 1 - (i.toInt.toNat + 1) = 0 := by omega
          rw [this, Nat.pow_zero, Nat.div_one]
          omega
        · exact a11 (by omega)
theorem own_get (xs : List Int32) (fr : Int32) (z : Int64) (N : Nat) (hfr : 0 ≤ fr.toInt ∧ fr.toInt < 100) (hN : N ≤ 10)
    (hb : ∀ k, k < N → ∀ j, j < 7 → (xs.getD (fr.toInt.toNat + k) 0).toBitVec.getLsbD j = z.toBitVec.getLsbD (7 * k + j)) (d : Nat) :
    ∀ (i : Int32) (acc : Int64), 0 ≤ i.toInt → i.toInt + d = N → (∀ K, K < 64 → acc.toBitVec.getLsbD K = (decide (K < 7 * i.toInt.toNat) && z.toBitVec.getLsbD K)) →
      ∀ K, K < 64 → (getL xs fr d i acc).toBitVec.getLsbD K = (decide (K < 7 * N) && z.toBitVec.getLsbD K) := by
  induction d with
  | zero =>
    intro i acc hi0 hid hacc K hK
    unfold getL
    rw [hacc K hK]
    have : i.toInt.toNat = N := by omega
    rw [this]
  | succ d ih =>
    intro i acc hi0 hid hacc
    unfold getL
    have hi1 := own_i1 hi0 (by omega)
    apply ih (i + 1) _ (by omega) (by omega)
    intro K hK
    have hadd := own_ii hfr ⟨hi0, by omega⟩
    have hrd : rdI xs (fr + i) = xs.getD (fr.toInt.toNat + i.toInt.toNat) 0 := by
      unfold rdI; rw [own_cl, hadd]; congr 1; omega
    have hbi := hb i.toInt.toNat (by omega)
    rw [← hrd] at hbi
    generalize rdI xs (fr + i) = b at *
    have h7 := XT.mul32 (x := 7) (y := i) (by rw [show (7 : Int32).toInt = 7 from by decide]; constructor <;> omega)
    rw [show (7 : Int32).toInt = 7 from by decide] at h7
    have hsh : ((7 : Int32) * i).toBitVec.toNat % 64 = 7 * i.toInt.toNat := by rw [nn32 _ (by omega)]; omega
    have hmk : ∀ t, ((b &&& (127 : Int32)).toInt64).toBitVec.getLsbD t = (decide (t < 7) && b.toBitVec.getLsbD t) := by
      intro t
      have hm := c_mask b 127 7 (by decide) (by decide)
      have hl := c_i2l (b &&& 127)
      have hu := u64 (b &&& 127).toInt64
      have hub := u32 b
      have e : (b &&& 127).toInt64.toBitVec.toNat = b.toBitVec.toNat % 2 ^ 7 := by omega
      show (b &&& 127).toInt64.toBitVec.toNat.testBit t = _
      rw [e, Nat.testBit_mod_two_pow]
      rfl
    rw [Int64.toBitVec_or, BitVec.getLsbD_or, hacc K hK, bv_lshl, hsh, BitVec.getLsbD_shiftLeft, hmk, decide_eq_true hK, Bool.true_and, hi1]
    by_cases c1 : K < 7 * i.toInt.toNat
    · rw [decide_eq_true c1, decide_eq_true (show K < 7 * (i.toInt + 1).toNat by omega)]; simp
    · rw [decide_eq_false c1]
      by_cases c2 : K - 7 * i.toInt.toNat < 7
      · rw [decide_eq_true c2, decide_eq_true (show K < 7 * (i.toInt + 1).toNat by omega), hbi _ c2]
        simp only [Bool.false_and, Bool.not_false, Bool.true_and, Bool.false_or]
        congr 1; omega
      · rw [decide_eq_false c2, decide_eq_false (show ¬ K < 7 * (i.toInt + 1).toNat by omega)]; simp
theorem own_getz (xs : List Int32) (fr : Int32) (z : Int64) (N : Nat) (hfr : 0 ≤ fr.toInt ∧ fr.toInt < 100) (hN : N ≤ 10)
    (hb : ∀ k, k < N → ∀ j, j < 7 → (xs.getD (fr.toInt.toNat + k) 0).toBitVec.getLsbD j = z.toBitVec.getLsbD (7 * k + j))
    (hz : ∀ K, 7 * N ≤ K → z.toBitVec.getLsbD K = false) : getL xs fr N 0 0 = z := by
  apply Int64.toBitVec_inj.mp
  apply BitVec.eq_of_getLsbD_eq
  intro K hK
  rw [own_get xs fr z N hfr hN hb N 0 0 (by decide) (by show (0 : Int) + _ = _; omega) (fun K hK => by show (0#64).getLsbD K = _; rw [show (0 : Int32).toInt.toNat = 0 from by decide]; simp) K hK]
  by_cases c : K < 7 * N
  · rw [decide_eq_true c, Bool.true_and]
  · rw [decide_eq_false c, hz K (by omega), Bool.false_and]
theorem own_unzig (t p q : Int64) : unzig q (zig t p) = q + (t - p) := by
  unfold unzig zig
  congr 1
  generalize t - p = d
  apply Int64.toBitVec_inj.mp
  apply BitVec.eq_of_getLsbD_eq
  intro K hK
  have hz : ∀ j, j < 64 → ((d <<< ((1 : Int32).toInt64 &&& 63)) ^^^ (d >>> ((63 : Int32).toInt64 &&& 63))).toBitVec.getLsbD j = ((!decide (j < 1) && d.toBitVec.getLsbD (j - 1)) ^^ d.toBitVec.getLsbD 63) := by
    intro j hj
    rw [Int64.toBitVec_xor, BitVec.getLsbD_xor, bv_lshl, bv_lshr, BitVec.getLsbD_shiftLeft, BitVec.getLsbD_sshiftRight, show (1 : Int32).toBitVec.toNat % 64 = 1 from by decide, show (63 : Int32).toBitVec.toNat % 64 = 63 from by decide, decide_eq_true hj, Bool.true_and]
    congr 1
    have hm : d.toBitVec.msb = d.toBitVec.getLsbD 63 := by rw [BitVec.msb_eq_getLsbD_last]
    rw [show decide (64 ≤ j) = false from decide_eq_false (by omega)]
    by_cases j0 : j = 0
    · subst j0; simp
    · rw [if_neg (by omega), hm]; simp
  generalize (d <<< ((1 : Int32).toInt64 &&& 63)) ^^^ (d >>> ((63 : Int32).toInt64 &&& 63)) = a at *
  have hneg : (-(a &&& (1 : Int64))).toBitVec.getLsbD K = d.toBitVec.getLsbD 63 := by
    have hb := own_bit a 0
    have h0 : XT.ushrL a 0 = a := by
      apply Int64.toBitVec_inj.mp; rw [bv_lushr]; simp
    rw [h0, show (0 : Int32).toBitVec.toNat % 64 = 0 from by decide] at hb
    have hz0 := hz 0 (by decide)
    simp only [Nat.lt_one_iff, decide_true, Bool.not_true, Bool.false_and, Bool.false_xor] at hz0
    rw [hb, hz0]
    cases h63 : d.toBitVec.getLsbD 63
    · show (-(0 : Int64)).toBitVec.getLsbD K = false
      show (0#64).getLsbD K = false
      simp
    · show (-(1 : Int64)).toBitVec.getLsbD K = true
      show (BitVec.allOnes 64).getLsbD K = true
      rw [BitVec.getLsbD_allOnes]; simp [hK]
  rw [Int64.toBitVec_xor, BitVec.getLsbD_xor, hneg, bv_lushr, BitVec.getLsbD_ushiftRight, show (1 : Int32).toBitVec.toNat % 64 = 1 from by decide]
  by_cases c : K = 63
  · subst c
    rw [BitVec.getLsbD_of_ge a.toBitVec (1 + 63) (by decide)]; simp
  · rw [hz (1 + K) (by omega), decide_eq_false (by omega), show 1 + K - 1 = K from by omega]
    simp
def own_J (j : Int32) : List Int32 := [nar .byte j, nar .byte j, nar .byte j, nar .byte j, nar .byte j, nar .byte j, nar .byte j, nar .byte j, nar .byte j, nar .byte j, nar .byte j, nar .byte j, nar .byte j]
def own_X : List Int32 := [0, 0, 0, 0, 0, 0, 0, 0, 0, 0]
theorem own_placelen (fr nn kk : Int32) (xs ys : List Int32) : (f_place_a xs ys fr nn kk).length = xs.length := by
  unfold f_place_a; split <;> simp
theorem own_fr4 (p : Int32) : 0 ≤ (p &&& (3 : Int32)).toInt ∧ (p &&& (3 : Int32)).toInt < 4 := by
  rw [c_mask p 3 2 (by decide) (by decide)]; omega
theorem own_fr (p : Int32) : 0 ≤ (p &&& (3 : Int32)).toInt ∧ (p &&& (3 : Int32)).toInt < 100 := by
  have := own_fr4 p; omega
theorem own_pa {nn : Int32} (p : Int32) (kk : Int32) (hk : 0 ≤ kk.toInt ∧ kk.toInt < 10) {xs : List Int32} (hx : xs.length = 13) : kk < nn → ¬ (p &&& (3 : Int32)) + kk < 0 ∧ ((p &&& (3 : Int32)) + kk).toNatClampNeg < xs.length := by
  intro _
  have h4 := own_fr4 p
  have h := own_ii (own_fr p) (show 0 ≤ kk.toInt ∧ kk.toInt < 100 by omega)
  generalize (p &&& (3 : Int32)) + kk = s at *
  refine ⟨by rw [Int32.lt_iff_toInt_lt, show (0 : Int32).toInt = 0 from by decide]; omega, ?_⟩
  rw [hx, own_cl]; omega
theorem own_z10 (z : Int64) : z.toBitVec.toNat < 128 ^ 10 := Nat.lt_of_lt_of_le z.toBitVec.isLt (by decide)
theorem own_len10 (z : Int64) : (putL 10 z 0 own_X).length = 10 := by
  obtain ⟨N, -, -, -, h, -⟩ := own_put 10 z 0 own_X (own_z10 _) (by decide) (by decide) (by decide) rfl
  exact h
theorem own_n1 (t p : Int64) : 0 ≤ (putN 10 (zig t p) 0).toInt ∧ (putN 10 (zig t p) 0).toInt < 100 := by
  obtain ⟨N, h1, h2, h3, -⟩ := own_put 10 (zig t p) 0 own_X (own_z10 _) (by decide) (by decide) (by decide) rfl
  rw [show (0 : Int32).toInt = 0 from by decide] at h2
  omega
theorem own_n2 (f : Int32) (t p : Int64) : (f &&& (3 : Int32)).toInt + (putN 10 (zig t p) 0).toInt ≤ ((13 : Nat) : Int) := by
  obtain ⟨N, h1, h2, h3, -⟩ := own_put 10 (zig t p) 0 own_X (own_z10 _) (by decide) (by decide) (by decide) rfl
  have := own_fr4 f
  omega
theorem own_n3 (z : Int64) : ¬ putN 10 z 0 < 1 ∧ ¬ (10 : Int32) < putN 10 z 0 := by
  obtain ⟨N, h1, h2, h3, -⟩ := own_put 10 z 0 own_X (own_z10 _) (by decide) (by decide) (by decide) rfl
  rw [show (0 : Int32).toInt = 0 from by decide] at h2
  rw [Int32.lt_iff_toInt_lt, Int32.lt_iff_toInt_lt, h1, show (1 : Int32).toInt = 1 from by decide, show (10 : Int32).toInt = 10 from by decide]
  omega
theorem own_narlow (b : Int32) (j : Nat) (hj : j < 7) : (nar .byte b).toBitVec.getLsbD j = b.toBitVec.getLsbD j := by
  have hu := u32 b
  obtain ⟨h1, h2, h3⟩ := c_i2b b
  have e : nar .byte b = b.toInt8.toInt32 := rfl
  rw [e, own_low b.toInt8.toInt32 b.toBitVec.toNat (by omega) j hj]
  rfl
def own_P (fr : Nat) (N m : Nat) (ys xs : List Int32) : Prop := xs.length = 13 ∧ ∀ k, k < m → k < N → ∀ j, j < 7 → (xs.getD (fr + k) 0).toBitVec.getLsbD j = (ys.getD k 0).toBitVec.getLsbD j
theorem own_step (f nn : Int32) (N m : Nat) (ys xs : List Int32) (kk : Int32) (hf : 0 ≤ f.toInt ∧ f.toInt < 4) (hN : nn.toInt = N) (hm : m < 10) (hkk : kk.toInt = m) (h : own_P f.toInt.toNat N m ys xs) : own_P f.toInt.toNat N (m + 1) ys (f_place_a xs ys f nn kk) := by
  obtain ⟨h0, h1⟩ := h
  refine ⟨by rw [own_placelen]; exact h0, ?_⟩
  intro k hk hkN j hj
  unfold f_place_a
  have hs := own_ii (show 0 ≤ f.toInt ∧ f.toInt < 100 by omega) (show 0 ≤ kk.toInt ∧ kk.toInt < 100 by omega)
  by_cases c : kk < nn
  · rw [if_pos c, own_getset _ _ _ _ (by rw [own_cl, h0]; omega), own_cl, hs]
    by_cases e : k = m
    · rw [if_pos (by omega), own_narlow _ _ hj]
      unfold rdI
      rw [own_cl, hkk, e]; rfl
    · rw [if_neg (by omega)]
      exact h1 k (by omega) hkN j hj
  · rw [if_neg c]
    rw [Int32.lt_iff_toInt_lt] at c
    exact h1 k (by omega) hkN j hj
theorem own_back (t p q : Int64) (f j : Int32) : unzig q (getL (f_place_a (f_place_a (f_place_a (f_place_a (f_place_a (f_place_a (f_place_a (f_place_a (f_place_a (f_place_a (own_J j) (putL 10 (zig t p) 0 own_X) (f &&& (3 : Int32)) (putN 10 (zig t p) 0) (0 : Int32)) (putL 10 (zig t p) 0 own_X) (f &&& (3 : Int32)) (putN 10 (zig t p) 0) (1 : Int32)) (putL 10 (zig t p) 0 own_X) (f &&& (3 : Int32)) (putN 10 (zig t p) 0) (2 : Int32)) (putL 10 (zig t p) 0 own_X) (f &&& (3 : Int32)) (putN 10 (zig t p) 0) (3 : Int32)) (putL 10 (zig t p) 0 own_X) (f &&& (3 : Int32)) (putN 10 (zig t p) 0) (4 : Int32)) (putL 10 (zig t p) 0 own_X) (f &&& (3 : Int32)) (putN 10 (zig t p) 0) (5 : Int32)) (putL 10 (zig t p) 0 own_X) (f &&& (3 : Int32)) (putN 10 (zig t p) 0) (6 : Int32)) (putL 10 (zig t p) 0 own_X) (f &&& (3 : Int32)) (putN 10 (zig t p) 0) (7 : Int32)) (putL 10 (zig t p) 0 own_X) (f &&& (3 : Int32)) (putN 10 (zig t p) 0) (8 : Int32)) (putL 10 (zig t p) 0 own_X) (f &&& (3 : Int32)) (putN 10 (zig t p) 0) (9 : Int32)) (f &&& (3 : Int32)) (putN 10 (zig t p) 0).toInt.toNat 0 0) = q + (t - p) := by
  obtain ⟨N, h1, h2, h3, h4, h5, h6, h7, h8, h9, h10, h11⟩ := own_put 10 (zig t p) 0 own_X (own_z10 _) (by decide) (by decide) (by decide) rfl
  rw [show (0 : Int32).toInt = 0 from by decide] at h2 h5 h7
  simp only [Int.toNat_zero, Nat.sub_zero, Nat.zero_le, true_implies] at h5 h7
  have hf := own_fr4 f
  generalize f &&& (3 : Int32) = F at *
  generalize putL 10 (zig t p) 0 own_X = ys at *
  generalize putN 10 (zig t p) 0 = nn at *
  have e : nn.toInt.toNat = N := by omega
  have p0 : own_P F.toInt.toNat N 0 ys (own_J j) := ⟨rfl, fun k hk => absurd hk (Nat.not_lt_zero _)⟩
  have p1 := own_step F nn N 0 ys _ 0 hf h1 (by decide) (by decide) p0
  have p2 := own_step F nn N 1 ys _ 1 hf h1 (by decide) (by decide) p1
  have p3 := own_step F nn N 2 ys _ 2 hf h1 (by decide) (by decide) p2
  have p4 := own_step F nn N 3 ys _ 3 hf h1 (by decide) (by decide) p3
  have p5 := own_step F nn N 4 ys _ 4 hf h1 (by decide) (by decide) p4
  have p6 := own_step F nn N 5 ys _ 5 hf h1 (by decide) (by decide) p5
  have p7 := own_step F nn N 6 ys _ 6 hf h1 (by decide) (by decide) p6
  have p8 := own_step F nn N 7 ys _ 7 hf h1 (by decide) (by decide) p7
  have p9 := own_step F nn N 8 ys _ 8 hf h1 (by decide) (by decide) p8
  have p10 := own_step F nn N 9 ys _ 9 hf h1 (by decide) (by decide) p9
  rw [e, own_getz _ F (zig t p) N (by omega) h3 (fun k hk j hj => by rw [p10.2 k (by omega) hk j hj]; exact h7 k hk j hj) h5, own_unzig]
theorem own_tp (t p : Int64) : p + (t - p) = t := by
  apply Int64.toInt_inj.mp
  have a1 := c_lsub t p
  have r1 := rng64 (t - p)
  generalize t - p = d at *
  have a2 := c_ladd p d
  have r2 := rng64 (p + d)
  have r3 := rng64 t
  omega
set_option maxRecDepth 65536 in
set_option maxHeartbeats 40000000 in
theorem rm_law (l : Launch) (Z : State) (a0 : Array Value) (hw : ∀ d ∈ tables_1, d.before a0 Z = true) (q0 : Int64) (q1 : Int64) (q2 : Int64) (p3 : Int32) (p4 : Int32) (h0 : Heap) (n0 : Nat) (Z0 : n0 ≤ h0.size)  :
    Meets l x code maxLocals ret room_1 Z #[(.long q0), (.long q1), (.long q2), (.int p3), (.int p4)] h0 n0 (fun v h => v = some (Value.int 1)) := by
  refine meets_of (plainFor_of_name pn1) (Ls := #[.val (.long q0), .second, .val (.long q1), .second, .val (.long q2), .second, .val (.int p3), .val (.int p4), .unset, .unset, .unset, .unset, .unset, .unset, .unset, .unset, .unset]) (fun m => by first | (simp [entryFrame, mkF, argsToLocals, Value.category, maxLocals]; done) | rfl) ?_
  intro p e s m below meth c K
  replace K : Kx Z "com/example/caddis/caddis/TimeDeltaGetPinLaw" "law" code maxLocals ret p s m meth c := K
  obtain ⟨Q, hQ⟩ : ∃ Q : Option Value → Heap → Prop, Q = (fun v h => v = some (Value.int 1)) := ⟨_, rfl⟩
  rw [← hQ]
  refine g_iload K 0 at_0 rfl ?_
  refine g_iconst K 2 (3 : Int32) at_2 (by decide) ?_
  refine g_iand K 3 at_3 ?_
  refine g_istore K 4 #[.val (.long q0), .second, .val (.long q1), .second, .val (.long q2), .second, .val (.int p3), .val (.int p4), .val (.int (p3 &&& (3 : Int32))), .unset, .unset, .unset, .unset, .unset, .unset, .unset, .unset] at_4 rfl ?_
  refine g_iload K 6 at_6 rfl ?_
  refine g_i2b K 8 at_8 ?_
  refine g_istore K 9 #[.val (.long q0), .second, .val (.long q1), .second, .val (.long q2), .second, .val (.int p3), .val (.int p4), .val (.int (p3 &&& (3 : Int32))), .val (.int p4.toInt8.toInt32), .unset, .unset, .unset, .unset, .unset, .unset, .unset] at_9 rfl ?_
  refine g_bipush K 11 (10 : Int32) at_11 (by decide) ?_
  refine g_newI K 13 .byte at_13 rfl rfl (tw hw 0 rfl) (by decide) 10 (by decide) (by decide) (by decide) (by decide) ?_
  intro h2 a1 eq5 Kp3 A4
  have g6 : n0 ≤ a1 := eq5 ▸ Z0
  have Z7 := Nat.le_trans Z0 Kp3.1
  have A8 : IA Z h2 a1 .byte [0, 0, 0, 0, 0, 0, 0, 0, 0, 0] := (by have q := A4; rw [show (10 : Int32).toNatClampNeg = 10 from by decide] at q; exact q)
  refine g_astore K 15 #[.val (.long q0), .second, .val (.long q1), .second, .val (.long q2), .second, .val (.int p3), .val (.int p4), .val (.int (p3 &&& (3 : Int32))), .val (.int p4.toInt8.toInt32), .val (.ref a1), .unset, .unset, .unset, .unset, .unset, .unset] at_15 rfl rfl ?_
  refine g_bipush K 17 (13 : Int32) at_17 (by decide) ?_
  refine g_newI K 19 .byte at_19 rfl rfl (tw hw 0 rfl) (by decide) 13 (by decide) (by decide) (by decide) (by decide) ?_
  intro h10 a9 eq13 Kp11 A12
  have g14 : n0 ≤ a9 := eq13 ▸ Z7
  have ne15 : a1 ≠ a9 := own_ne_of_lt A8.lt eq13
  have Z16 := Nat.le_trans Z7 Kp11.1
  have F17 := A8.keep Kp11 nin0
  have A18 : IA Z h10 a9 .byte [0, 0, 0, 0, 0, 0, 0, 0, 0, 0, 0, 0, 0] := (by have q := A12; rw [show (13 : Int32).toNatClampNeg = 13 from by decide] at q; exact q)
  refine g_astore K 21 #[.val (.long q0), .second, .val (.long q1), .second, .val (.long q2), .second, .val (.int p3), .val (.int p4), .val (.int (p3 &&& (3 : Int32))), .val (.int p4.toInt8.toInt32), .val (.ref a1), .val (.ref a9), .unset, .unset, .unset, .unset, .unset] at_21 rfl rfl ?_
  refine g_aload K 23 at_23 rfl rfl ?_
  refine g_iconst K 25 (0 : Int32) at_25 (by decide) ?_
  refine g_iload K 26 at_26 rfl ?_
  refine g_bastore K 28 at_28 A18 (by decide) (show (0 : Int32).toNatClampNeg < 13 from by decide) g14 ?_
  intro h19 Kp20 A21
  have Z22 := Nat.le_trans Z16 Kp20.1
  have F23 := F17.keep Kp20 (ninS ne15 nin0)
  have A24 : IA Z h19 a9 .byte [nar .byte p4.toInt8.toInt32, 0, 0, 0, 0, 0, 0, 0, 0, 0, 0, 0, 0] := (by have q := A21; rw [show (0 : Int32).toNatClampNeg = 0 from by decide] at q; exact q)
  refine g_aload K 29 at_29 rfl rfl ?_
  refine g_iconst K 31 (1 : Int32) at_31 (by decide) ?_
  refine g_iload K 32 at_32 rfl ?_
  refine g_bastore K 34 at_34 A24 (by decide) (show (1 : Int32).toNatClampNeg < 13 from by decide) g14 ?_
  intro h25 Kp26 A27
  have Z28 := Nat.le_trans Z22 Kp26.1
  have F29 := F23.keep Kp26 (ninS ne15 nin0)
  have A30 : IA Z h25 a9 .byte [nar .byte p4.toInt8.toInt32, nar .byte p4.toInt8.toInt32, 0, 0, 0, 0, 0, 0, 0, 0, 0, 0, 0] := (by have q := A27; rw [show (1 : Int32).toNatClampNeg = 1 from by decide] at q; exact q)
  refine g_aload K 35 at_35 rfl rfl ?_
  refine g_iconst K 37 (2 : Int32) at_37 (by decide) ?_
  refine g_iload K 38 at_38 rfl ?_
  refine g_bastore K 40 at_40 A30 (by decide) (show (2 : Int32).toNatClampNeg < 13 from by decide) g14 ?_
  intro h31 Kp32 A33
  have Z34 := Nat.le_trans Z28 Kp32.1
  have F35 := F29.keep Kp32 (ninS ne15 nin0)
  have A36 : IA Z h31 a9 .byte [nar .byte p4.toInt8.toInt32, nar .byte p4.toInt8.toInt32, nar .byte p4.toInt8.toInt32, 0, 0, 0, 0, 0, 0, 0, 0, 0, 0] := (by have q := A33; rw [show (2 : Int32).toNatClampNeg = 2 from by decide] at q; exact q)
  refine g_aload K 41 at_41 rfl rfl ?_
  refine g_iconst K 43 (3 : Int32) at_43 (by decide) ?_
  refine g_iload K 44 at_44 rfl ?_
  refine g_bastore K 46 at_46 A36 (by decide) (show (3 : Int32).toNatClampNeg < 13 from by decide) g14 ?_
  intro h37 Kp38 A39
  have Z40 := Nat.le_trans Z34 Kp38.1
  have F41 := F35.keep Kp38 (ninS ne15 nin0)
  have A42 : IA Z h37 a9 .byte [nar .byte p4.toInt8.toInt32, nar .byte p4.toInt8.toInt32, nar .byte p4.toInt8.toInt32, nar .byte p4.toInt8.toInt32, 0, 0, 0, 0, 0, 0, 0, 0, 0] := (by have q := A39; rw [show (3 : Int32).toNatClampNeg = 3 from by decide] at q; exact q)
  refine g_aload K 47 at_47 rfl rfl ?_
  refine g_iconst K 49 (4 : Int32) at_49 (by decide) ?_
  refine g_iload K 50 at_50 rfl ?_
  refine g_bastore K 52 at_52 A42 (by decide) (show (4 : Int32).toNatClampNeg < 13 from by decide) g14 ?_
  intro h43 Kp44 A45
  have Z46 := Nat.le_trans Z40 Kp44.1
  have F47 := F41.keep Kp44 (ninS ne15 nin0)
  have A48 : IA Z h43 a9 .byte [nar .byte p4.toInt8.toInt32, nar .byte p4.toInt8.toInt32, nar .byte p4.toInt8.toInt32, nar .byte p4.toInt8.toInt32, nar .byte p4.toInt8.toInt32, 0, 0, 0, 0, 0, 0, 0, 0] := (by have q := A45; rw [show (4 : Int32).toNatClampNeg = 4 from by decide] at q; exact q)
  refine g_aload K 53 at_53 rfl rfl ?_
  refine g_iconst K 55 (5 : Int32) at_55 (by decide) ?_
  refine g_iload K 56 at_56 rfl ?_
  refine g_bastore K 58 at_58 A48 (by decide) (show (5 : Int32).toNatClampNeg < 13 from by decide) g14 ?_
  intro h49 Kp50 A51
  have Z52 := Nat.le_trans Z46 Kp50.1
  have F53 := F47.keep Kp50 (ninS ne15 nin0)
  have A54 : IA Z h49 a9 .byte [nar .byte p4.toInt8.toInt32, nar .byte p4.toInt8.toInt32, nar .byte p4.toInt8.toInt32, nar .byte p4.toInt8.toInt32, nar .byte p4.toInt8.toInt32, nar .byte p4.toInt8.toInt32, 0, 0, 0, 0, 0, 0, 0] := (by have q := A51; rw [show (5 : Int32).toNatClampNeg = 5 from by decide] at q; exact q)
  refine g_aload K 59 at_59 rfl rfl ?_
  refine g_bipush K 61 (6 : Int32) at_61 (by decide) ?_
  refine g_iload K 63 at_63 rfl ?_
  refine g_bastore K 65 at_65 A54 (by decide) (show (6 : Int32).toNatClampNeg < 13 from by decide) g14 ?_
  intro h55 Kp56 A57
  have Z58 := Nat.le_trans Z52 Kp56.1
  have F59 := F53.keep Kp56 (ninS ne15 nin0)
  have A60 : IA Z h55 a9 .byte [nar .byte p4.toInt8.toInt32, nar .byte p4.toInt8.toInt32, nar .byte p4.toInt8.toInt32, nar .byte p4.toInt8.toInt32, nar .byte p4.toInt8.toInt32, nar .byte p4.toInt8.toInt32, nar .byte p4.toInt8.toInt32, 0, 0, 0, 0, 0, 0] := (by have q := A57; rw [show (6 : Int32).toNatClampNeg = 6 from by decide] at q; exact q)
  refine g_aload K 66 at_66 rfl rfl ?_
  refine g_bipush K 68 (7 : Int32) at_68 (by decide) ?_
  refine g_iload K 70 at_70 rfl ?_
  refine g_bastore K 72 at_72 A60 (by decide) (show (7 : Int32).toNatClampNeg < 13 from by decide) g14 ?_
  intro h61 Kp62 A63
  have Z64 := Nat.le_trans Z58 Kp62.1
  have F65 := F59.keep Kp62 (ninS ne15 nin0)
  have A66 : IA Z h61 a9 .byte [nar .byte p4.toInt8.toInt32, nar .byte p4.toInt8.toInt32, nar .byte p4.toInt8.toInt32, nar .byte p4.toInt8.toInt32, nar .byte p4.toInt8.toInt32, nar .byte p4.toInt8.toInt32, nar .byte p4.toInt8.toInt32, nar .byte p4.toInt8.toInt32, 0, 0, 0, 0, 0] := (by have q := A63; rw [show (7 : Int32).toNatClampNeg = 7 from by decide] at q; exact q)
  refine g_aload K 73 at_73 rfl rfl ?_
  refine g_bipush K 75 (8 : Int32) at_75 (by decide) ?_
  refine g_iload K 77 at_77 rfl ?_
  refine g_bastore K 79 at_79 A66 (by decide) (show (8 : Int32).toNatClampNeg < 13 from by decide) g14 ?_
  intro h67 Kp68 A69
  have Z70 := Nat.le_trans Z64 Kp68.1
  have F71 := F65.keep Kp68 (ninS ne15 nin0)
  have A72 : IA Z h67 a9 .byte [nar .byte p4.toInt8.toInt32, nar .byte p4.toInt8.toInt32, nar .byte p4.toInt8.toInt32, nar .byte p4.toInt8.toInt32, nar .byte p4.toInt8.toInt32, nar .byte p4.toInt8.toInt32, nar .byte p4.toInt8.toInt32, nar .byte p4.toInt8.toInt32, nar .byte p4.toInt8.toInt32, 0, 0, 0, 0] := (by have q := A69; rw [show (8 : Int32).toNatClampNeg = 8 from by decide] at q; exact q)
  refine g_aload K 80 at_80 rfl rfl ?_
  refine g_bipush K 82 (9 : Int32) at_82 (by decide) ?_
  refine g_iload K 84 at_84 rfl ?_
  refine g_bastore K 86 at_86 A72 (by decide) (show (9 : Int32).toNatClampNeg < 13 from by decide) g14 ?_
  intro h73 Kp74 A75
  have Z76 := Nat.le_trans Z70 Kp74.1
  have F77 := F71.keep Kp74 (ninS ne15 nin0)
  have A78 : IA Z h73 a9 .byte [nar .byte p4.toInt8.toInt32, nar .byte p4.toInt8.toInt32, nar .byte p4.toInt8.toInt32, nar .byte p4.toInt8.toInt32, nar .byte p4.toInt8.toInt32, nar .byte p4.toInt8.toInt32, nar .byte p4.toInt8.toInt32, nar .byte p4.toInt8.toInt32, nar .byte p4.toInt8.toInt32, nar .byte p4.toInt8.toInt32, 0, 0, 0] := (by have q := A75; rw [show (9 : Int32).toNatClampNeg = 9 from by decide] at q; exact q)
  refine g_aload K 87 at_87 rfl rfl ?_
  refine g_bipush K 89 (10 : Int32) at_89 (by decide) ?_
  refine g_iload K 91 at_91 rfl ?_
  refine g_bastore K 93 at_93 A78 (by decide) (show (10 : Int32).toNatClampNeg < 13 from by decide) g14 ?_
  intro h79 Kp80 A81
  have Z82 := Nat.le_trans Z76 Kp80.1
  have F83 := F77.keep Kp80 (ninS ne15 nin0)
  have A84 : IA Z h79 a9 .byte [nar .byte p4.toInt8.toInt32, nar .byte p4.toInt8.toInt32, nar .byte p4.toInt8.toInt32, nar .byte p4.toInt8.toInt32, nar .byte p4.toInt8.toInt32, nar .byte p4.toInt8.toInt32, nar .byte p4.toInt8.toInt32, nar .byte p4.toInt8.toInt32, nar .byte p4.toInt8.toInt32, nar .byte p4.toInt8.toInt32, nar .byte p4.toInt8.toInt32, 0, 0] := (by have q := A81; rw [show (10 : Int32).toNatClampNeg = 10 from by decide] at q; exact q)
  refine g_aload K 94 at_94 rfl rfl ?_
  refine g_bipush K 96 (11 : Int32) at_96 (by decide) ?_
  refine g_iload K 98 at_98 rfl ?_
  refine g_bastore K 100 at_100 A84 (by decide) (show (11 : Int32).toNatClampNeg < 13 from by decide) g14 ?_
  intro h85 Kp86 A87
  have Z88 := Nat.le_trans Z82 Kp86.1
  have F89 := F83.keep Kp86 (ninS ne15 nin0)
  have A90 : IA Z h85 a9 .byte [nar .byte p4.toInt8.toInt32, nar .byte p4.toInt8.toInt32, nar .byte p4.toInt8.toInt32, nar .byte p4.toInt8.toInt32, nar .byte p4.toInt8.toInt32, nar .byte p4.toInt8.toInt32, nar .byte p4.toInt8.toInt32, nar .byte p4.toInt8.toInt32, nar .byte p4.toInt8.toInt32, nar .byte p4.toInt8.toInt32, nar .byte p4.toInt8.toInt32, nar .byte p4.toInt8.toInt32, 0] := (by have q := A87; rw [show (11 : Int32).toNatClampNeg = 11 from by decide] at q; exact q)
  refine g_aload K 101 at_101 rfl rfl ?_
  refine g_bipush K 103 (12 : Int32) at_103 (by decide) ?_
  refine g_iload K 105 at_105 rfl ?_
  refine g_bastore K 107 at_107 A90 (by decide) (show (12 : Int32).toNatClampNeg < 13 from by decide) g14 ?_
  intro h91 Kp92 A93
  have Z94 := Nat.le_trans Z88 Kp92.1
  have F95 := F89.keep Kp92 (ninS ne15 nin0)
  have A96 : IA Z h91 a9 .byte [nar .byte p4.toInt8.toInt32, nar .byte p4.toInt8.toInt32, nar .byte p4.toInt8.toInt32, nar .byte p4.toInt8.toInt32, nar .byte p4.toInt8.toInt32, nar .byte p4.toInt8.toInt32, nar .byte p4.toInt8.toInt32, nar .byte p4.toInt8.toInt32, nar .byte p4.toInt8.toInt32, nar .byte p4.toInt8.toInt32, nar .byte p4.toInt8.toInt32, nar .byte p4.toInt8.toInt32, nar .byte p4.toInt8.toInt32] := (by have q := A93; rw [show (12 : Int32).toNatClampNeg = 12 from by decide] at q; exact q)
  have A97 : IA Z h91 a1 .byte own_X := F95
  have A98 : IA Z h91 a9 .byte (own_J p4.toInt8.toInt32) := A96
  refine g_lloadN K 108 at_108 rfl ?_
  refine g_lloadN K 109 at_109 rfl ?_
  refine g_aload K 110 at_110 rfl rfl ?_
  refine g_callS K 112 [(.long q0), (.long q1), (.ref a1)] 0 at_112 (rm_put l Z a0 hw q0 q1 a1 h91 n0 Z94 own_X A97 g6 rfl) (tw hw 1 rfl) (tw hw 2 rfl) (tw hw 3 rfl) (tw hw 4 rfl) (by decide) pd0 rfl (st := []) rfl (Nat.le_of_eq rfl) rfl (by decide) (by decide) (by decide) (by decide) ?_
  rintro _ h99 ⟨hv, Kp100, A101⟩
  rw [hv]
  clear hv
  have Z102 := Nat.le_trans Z94 Kp100.1
  have F103 := A98.keep Kp100 (ninS ne15.symm nin0)
  refine go_cast (k' := ((0 + 1) + 1)) (n' := ((0 + 10) + 13)) (st' := [(.int (putN 10 (zig q0 q1) 0))]) rfl rfl rfl ?_
  refine g_istore K 115 #[.val (.long q0), .second, .val (.long q1), .second, .val (.long q2), .second, .val (.int p3), .val (.int p4), .val (.int (p3 &&& (3 : Int32))), .val (.int p4.toInt8.toInt32), .val (.ref a1), .val (.ref a9), .val (.int (putN 10 (zig q0 q1) 0)), .unset, .unset, .unset, .unset] at_115 rfl ?_
  refine g_iload K 117 at_117 rfl ?_
  refine g_iconst K 119 (1 : Int32) at_119 (by decide) ?_
  refine g_ii_lt K 120 130 at_120 (by decide) (by decide) ?_ ?_
  · intro c104
    exfalso
    exact (own_n3 _).1 c104
  · intro c104
    refine g_iload K 123 at_123 rfl ?_
    refine g_bipush K 125 (10 : Int32) at_125 (by decide) ?_
    refine g_ii_le K 127 132 at_127 (by decide) (by decide) ?_ ?_
    · intro c105
      refine g_aload K 132 at_132 rfl rfl ?_
      refine g_iload K 134 at_134 rfl ?_
      refine g_aload K 136 at_136 rfl rfl ?_
      refine g_iload K 138 at_138 rfl ?_
      refine g_iconst K 140 (0 : Int32) at_140 (by decide) ?_
      refine g_callS K 141 [(.ref a9), (.int (p3 &&& (3 : Int32))), (.ref a1), (.int (putN 10 (zig q0 q1) 0)), (.int (0 : Int32))] 0 at_141 (rm_place l Z a0 hw a9 (p3 &&& (3 : Int32)) a1 (putN 10 (zig q0 q1) 0) (0 : Int32) h99 n0 Z102 (own_J p4.toInt8.toInt32) (putL 10 (zig q0 q1) 0 own_X) F103 g14 A101 g6 ne15.symm (own_pa _ _ (by decide) (by first | rfl | (simp only [own_placelen]; rfl))) (fun _ => ⟨by decide, by rw [own_len10]; exact (show (0 : Int32).toNatClampNeg < 10 from by decide)⟩)) (tw hw 6 rfl) (tw hw 7 rfl) (tw hw 8 rfl) (tw hw 9 rfl) (by decide) pd1 rfl (st := []) rfl (Nat.le_of_eq rfl) rfl (by decide) (by decide) (by decide) (by decide) ?_
      rintro _ h106 ⟨hv, Kp107, A108, A109⟩
      rw [hv]
      clear hv
      have Z110 := Nat.le_trans Z102 Kp107.1
      refine go_cast (k' := ((0 + 1) + 1)) (n' := ((0 + 10) + 13)) (st' := []) rfl rfl rfl ?_
      refine g_aload K 144 at_144 rfl rfl ?_
      refine g_iload K 146 at_146 rfl ?_
      refine g_aload K 148 at_148 rfl rfl ?_
      refine g_iload K 150 at_150 rfl ?_
      refine g_iconst K 152 (1 : Int32) at_152 (by decide) ?_
      refine g_callS K 153 [(.ref a9), (.int (p3 &&& (3 : Int32))), (.ref a1), (.int (putN 10 (zig q0 q1) 0)), (.int (1 : Int32))] 0 at_153 (rm_place l Z a0 hw a9 (p3 &&& (3 : Int32)) a1 (putN 10 (zig q0 q1) 0) (1 : Int32) h106 n0 Z110 (f_place_a (own_J p4.toInt8.toInt32) (putL 10 (zig q0 q1) 0 own_X) (p3 &&& (3 : Int32)) (putN 10 (zig q0 q1) 0) (0 : Int32)) (putL 10 (zig q0 q1) 0 own_X) A108 g14 A109 g6 ne15.symm (own_pa _ _ (by decide) (by first | rfl | (simp only [own_placelen]; rfl))) (fun _ => ⟨by decide, by rw [own_len10]; exact (show (1 : Int32).toNatClampNeg < 10 from by decide)⟩)) (tw hw 6 rfl) (tw hw 7 rfl) (tw hw 8 rfl) (tw hw 9 rfl) (by decide) pd1 rfl (st := []) rfl (Nat.le_of_eq rfl) rfl (by decide) (by decide) (by decide) (by decide) ?_
      rintro _ h111 ⟨hv, Kp112, A113, A114⟩
      rw [hv]
      clear hv
      have Z115 := Nat.le_trans Z110 Kp112.1
      refine go_cast (k' := ((0 + 1) + 1)) (n' := ((0 + 10) + 13)) (st' := []) rfl rfl rfl ?_
      refine g_aload K 156 at_156 rfl rfl ?_
      refine g_iload K 158 at_158 rfl ?_
      refine g_aload K 160 at_160 rfl rfl ?_
      refine g_iload K 162 at_162 rfl ?_
      refine g_iconst K 164 (2 : Int32) at_164 (by decide) ?_
      refine g_callS K 165 [(.ref a9), (.int (p3 &&& (3 : Int32))), (.ref a1), (.int (putN 10 (zig q0 q1) 0)), (.int (2 : Int32))] 0 at_165 (rm_place l Z a0 hw a9 (p3 &&& (3 : Int32)) a1 (putN 10 (zig q0 q1) 0) (2 : Int32) h111 n0 Z115 (f_place_a (f_place_a (own_J p4.toInt8.toInt32) (putL 10 (zig q0 q1) 0 own_X) (p3 &&& (3 : Int32)) (putN 10 (zig q0 q1) 0) (0 : Int32)) (putL 10 (zig q0 q1) 0 own_X) (p3 &&& (3 : Int32)) (putN 10 (zig q0 q1) 0) (1 : Int32)) (putL 10 (zig q0 q1) 0 own_X) A113 g14 A114 g6 ne15.symm (own_pa _ _ (by decide) (by first | rfl | (simp only [own_placelen]; rfl))) (fun _ => ⟨by decide, by rw [own_len10]; exact (show (2 : Int32).toNatClampNeg < 10 from by decide)⟩)) (tw hw 6 rfl) (tw hw 7 rfl) (tw hw 8 rfl) (tw hw 9 rfl) (by decide) pd1 rfl (st := []) rfl (Nat.le_of_eq rfl) rfl (by decide) (by decide) (by decide) (by decide) ?_
      rintro _ h116 ⟨hv, Kp117, A118, A119⟩
      rw [hv]
      clear hv
      have Z120 := Nat.le_trans Z115 Kp117.1
      refine go_cast (k' := ((0 + 1) + 1)) (n' := ((0 + 10) + 13)) (st' := []) rfl rfl rfl ?_
      refine g_aload K 168 at_168 rfl rfl ?_
      refine g_iload K 170 at_170 rfl ?_
      refine g_aload K 172 at_172 rfl rfl ?_
      refine g_iload K 174 at_174 rfl ?_
      refine g_iconst K 176 (3 : Int32) at_176 (by decide) ?_
      refine g_callS K 177 [(.ref a9), (.int (p3 &&& (3 : Int32))), (.ref a1), (.int (putN 10 (zig q0 q1) 0)), (.int (3 : Int32))] 0 at_177 (rm_place l Z a0 hw a9 (p3 &&& (3 : Int32)) a1 (putN 10 (zig q0 q1) 0) (3 : Int32) h116 n0 Z120 (f_place_a (f_place_a (f_place_a (own_J p4.toInt8.toInt32) (putL 10 (zig q0 q1) 0 own_X) (p3 &&& (3 : Int32)) (putN 10 (zig q0 q1) 0) (0 : Int32)) (putL 10 (zig q0 q1) 0 own_X) (p3 &&& (3 : Int32)) (putN 10 (zig q0 q1) 0) (1 : Int32)) (putL 10 (zig q0 q1) 0 own_X) (p3 &&& (3 : Int32)) (putN 10 (zig q0 q1) 0) (2 : Int32)) (putL 10 (zig q0 q1) 0 own_X) A118 g14 A119 g6 ne15.symm (own_pa _ _ (by decide) (by first | rfl | (simp only [own_placelen]; rfl))) (fun _ => ⟨by decide, by rw [own_len10]; exact (show (3 : Int32).toNatClampNeg < 10 from by decide)⟩)) (tw hw 6 rfl) (tw hw 7 rfl) (tw hw 8 rfl) (tw hw 9 rfl) (by decide) pd1 rfl (st := []) rfl (Nat.le_of_eq rfl) rfl (by decide) (by decide) (by decide) (by decide) ?_
      rintro _ h121 ⟨hv, Kp122, A123, A124⟩
      rw [hv]
      clear hv
      have Z125 := Nat.le_trans Z120 Kp122.1
      refine go_cast (k' := ((0 + 1) + 1)) (n' := ((0 + 10) + 13)) (st' := []) rfl rfl rfl ?_
      refine g_aload K 180 at_180 rfl rfl ?_
      refine g_iload K 182 at_182 rfl ?_
      refine g_aload K 184 at_184 rfl rfl ?_
      refine g_iload K 186 at_186 rfl ?_
      refine g_iconst K 188 (4 : Int32) at_188 (by decide) ?_
      refine g_callS K 189 [(.ref a9), (.int (p3 &&& (3 : Int32))), (.ref a1), (.int (putN 10 (zig q0 q1) 0)), (.int (4 : Int32))] 0 at_189 (rm_place l Z a0 hw a9 (p3 &&& (3 : Int32)) a1 (putN 10 (zig q0 q1) 0) (4 : Int32) h121 n0 Z125 (f_place_a (f_place_a (f_place_a (f_place_a (own_J p4.toInt8.toInt32) (putL 10 (zig q0 q1) 0 own_X) (p3 &&& (3 : Int32)) (putN 10 (zig q0 q1) 0) (0 : Int32)) (putL 10 (zig q0 q1) 0 own_X) (p3 &&& (3 : Int32)) (putN 10 (zig q0 q1) 0) (1 : Int32)) (putL 10 (zig q0 q1) 0 own_X) (p3 &&& (3 : Int32)) (putN 10 (zig q0 q1) 0) (2 : Int32)) (putL 10 (zig q0 q1) 0 own_X) (p3 &&& (3 : Int32)) (putN 10 (zig q0 q1) 0) (3 : Int32)) (putL 10 (zig q0 q1) 0 own_X) A123 g14 A124 g6 ne15.symm (own_pa _ _ (by decide) (by first | rfl | (simp only [own_placelen]; rfl))) (fun _ => ⟨by decide, by rw [own_len10]; exact (show (4 : Int32).toNatClampNeg < 10 from by decide)⟩)) (tw hw 6 rfl) (tw hw 7 rfl) (tw hw 8 rfl) (tw hw 9 rfl) (by decide) pd1 rfl (st := []) rfl (Nat.le_of_eq rfl) rfl (by decide) (by decide) (by decide) (by decide) ?_
      rintro _ h126 ⟨hv, Kp127, A128, A129⟩
      rw [hv]
      clear hv
      have Z130 := Nat.le_trans Z125 Kp127.1
      refine go_cast (k' := ((0 + 1) + 1)) (n' := ((0 + 10) + 13)) (st' := []) rfl rfl rfl ?_
      refine g_aload K 192 at_192 rfl rfl ?_
      refine g_iload K 194 at_194 rfl ?_
      refine g_aload K 196 at_196 rfl rfl ?_
      refine g_iload K 198 at_198 rfl ?_
      refine g_iconst K 200 (5 : Int32) at_200 (by decide) ?_
      refine g_callS K 201 [(.ref a9), (.int (p3 &&& (3 : Int32))), (.ref a1), (.int (putN 10 (zig q0 q1) 0)), (.int (5 : Int32))] 0 at_201 (rm_place l Z a0 hw a9 (p3 &&& (3 : Int32)) a1 (putN 10 (zig q0 q1) 0) (5 : Int32) h126 n0 Z130 (f_place_a (f_place_a (f_place_a (f_place_a (f_place_a (own_J p4.toInt8.toInt32) (putL 10 (zig q0 q1) 0 own_X) (p3 &&& (3 : Int32)) (putN 10 (zig q0 q1) 0) (0 : Int32)) (putL 10 (zig q0 q1) 0 own_X) (p3 &&& (3 : Int32)) (putN 10 (zig q0 q1) 0) (1 : Int32)) (putL 10 (zig q0 q1) 0 own_X) (p3 &&& (3 : Int32)) (putN 10 (zig q0 q1) 0) (2 : Int32)) (putL 10 (zig q0 q1) 0 own_X) (p3 &&& (3 : Int32)) (putN 10 (zig q0 q1) 0) (3 : Int32)) (putL 10 (zig q0 q1) 0 own_X) (p3 &&& (3 : Int32)) (putN 10 (zig q0 q1) 0) (4 : Int32)) (putL 10 (zig q0 q1) 0 own_X) A128 g14 A129 g6 ne15.symm (own_pa _ _ (by decide) (by first | rfl | (simp only [own_placelen]; rfl))) (fun _ => ⟨by decide, by rw [own_len10]; exact (show (5 : Int32).toNatClampNeg < 10 from by decide)⟩)) (tw hw 6 rfl) (tw hw 7 rfl) (tw hw 8 rfl) (tw hw 9 rfl) (by decide) pd1 rfl (st := []) rfl (Nat.le_of_eq rfl) rfl (by decide) (by decide) (by decide) (by decide) ?_
      rintro _ h131 ⟨hv, Kp132, A133, A134⟩
      rw [hv]
      clear hv
      have Z135 := Nat.le_trans Z130 Kp132.1
      refine go_cast (k' := ((0 + 1) + 1)) (n' := ((0 + 10) + 13)) (st' := []) rfl rfl rfl ?_
      refine g_aload K 204 at_204 rfl rfl ?_
      refine g_iload K 206 at_206 rfl ?_
      refine g_aload K 208 at_208 rfl rfl ?_
      refine g_iload K 210 at_210 rfl ?_
      refine g_bipush K 212 (6 : Int32) at_212 (by decide) ?_
      refine g_callS K 214 [(.ref a9), (.int (p3 &&& (3 : Int32))), (.ref a1), (.int (putN 10 (zig q0 q1) 0)), (.int (6 : Int32))] 0 at_214 (rm_place l Z a0 hw a9 (p3 &&& (3 : Int32)) a1 (putN 10 (zig q0 q1) 0) (6 : Int32) h131 n0 Z135 (f_place_a (f_place_a (f_place_a (f_place_a (f_place_a (f_place_a (own_J p4.toInt8.toInt32) (putL 10 (zig q0 q1) 0 own_X) (p3 &&& (3 : Int32)) (putN 10 (zig q0 q1) 0) (0 : Int32)) (putL 10 (zig q0 q1) 0 own_X) (p3 &&& (3 : Int32)) (putN 10 (zig q0 q1) 0) (1 : Int32)) (putL 10 (zig q0 q1) 0 own_X) (p3 &&& (3 : Int32)) (putN 10 (zig q0 q1) 0) (2 : Int32)) (putL 10 (zig q0 q1) 0 own_X) (p3 &&& (3 : Int32)) (putN 10 (zig q0 q1) 0) (3 : Int32)) (putL 10 (zig q0 q1) 0 own_X) (p3 &&& (3 : Int32)) (putN 10 (zig q0 q1) 0) (4 : Int32)) (putL 10 (zig q0 q1) 0 own_X) (p3 &&& (3 : Int32)) (putN 10 (zig q0 q1) 0) (5 : Int32)) (putL 10 (zig q0 q1) 0 own_X) A133 g14 A134 g6 ne15.symm (own_pa _ _ (by decide) (by first | rfl | (simp only [own_placelen]; rfl))) (fun _ => ⟨by decide, by rw [own_len10]; exact (show (6 : Int32).toNatClampNeg < 10 from by decide)⟩)) (tw hw 6 rfl) (tw hw 7 rfl) (tw hw 8 rfl) (tw hw 9 rfl) (by decide) pd1 rfl (st := []) rfl (Nat.le_of_eq rfl) rfl (by decide) (by decide) (by decide) (by decide) ?_
      rintro _ h136 ⟨hv, Kp137, A138, A139⟩
      rw [hv]
      clear hv
      have Z140 := Nat.le_trans Z135 Kp137.1
      refine go_cast (k' := ((0 + 1) + 1)) (n' := ((0 + 10) + 13)) (st' := []) rfl rfl rfl ?_
      refine g_aload K 217 at_217 rfl rfl ?_
      refine g_iload K 219 at_219 rfl ?_
      refine g_aload K 221 at_221 rfl rfl ?_
      refine g_iload K 223 at_223 rfl ?_
      refine g_bipush K 225 (7 : Int32) at_225 (by decide) ?_
      refine g_callS K 227 [(.ref a9), (.int (p3 &&& (3 : Int32))), (.ref a1), (.int (putN 10 (zig q0 q1) 0)), (.int (7 : Int32))] 0 at_227 (rm_place l Z a0 hw a9 (p3 &&& (3 : Int32)) a1 (putN 10 (zig q0 q1) 0) (7 : Int32) h136 n0 Z140 (f_place_a (f_place_a (f_place_a (f_place_a (f_place_a (f_place_a (f_place_a (own_J p4.toInt8.toInt32) (putL 10 (zig q0 q1) 0 own_X) (p3 &&& (3 : Int32)) (putN 10 (zig q0 q1) 0) (0 : Int32)) (putL 10 (zig q0 q1) 0 own_X) (p3 &&& (3 : Int32)) (putN 10 (zig q0 q1) 0) (1 : Int32)) (putL 10 (zig q0 q1) 0 own_X) (p3 &&& (3 : Int32)) (putN 10 (zig q0 q1) 0) (2 : Int32)) (putL 10 (zig q0 q1) 0 own_X) (p3 &&& (3 : Int32)) (putN 10 (zig q0 q1) 0) (3 : Int32)) (putL 10 (zig q0 q1) 0 own_X) (p3 &&& (3 : Int32)) (putN 10 (zig q0 q1) 0) (4 : Int32)) (putL 10 (zig q0 q1) 0 own_X) (p3 &&& (3 : Int32)) (putN 10 (zig q0 q1) 0) (5 : Int32)) (putL 10 (zig q0 q1) 0 own_X) (p3 &&& (3 : Int32)) (putN 10 (zig q0 q1) 0) (6 : Int32)) (putL 10 (zig q0 q1) 0 own_X) A138 g14 A139 g6 ne15.symm (own_pa _ _ (by decide) (by first | rfl | (simp only [own_placelen]; rfl))) (fun _ => ⟨by decide, by rw [own_len10]; exact (show (7 : Int32).toNatClampNeg < 10 from by decide)⟩)) (tw hw 6 rfl) (tw hw 7 rfl) (tw hw 8 rfl) (tw hw 9 rfl) (by decide) pd1 rfl (st := []) rfl (Nat.le_of_eq rfl) rfl (by decide) (by decide) (by decide) (by decide) ?_
      rintro _ h141 ⟨hv, Kp142, A143, A144⟩
      rw [hv]
      clear hv
      have Z145 := Nat.le_trans Z140 Kp142.1
      refine go_cast (k' := ((0 + 1) + 1)) (n' := ((0 + 10) + 13)) (st' := []) rfl rfl rfl ?_
      refine g_aload K 230 at_230 rfl rfl ?_
      refine g_iload K 232 at_232 rfl ?_
      refine g_aload K 234 at_234 rfl rfl ?_
      refine g_iload K 236 at_236 rfl ?_
      refine g_bipush K 238 (8 : Int32) at_238 (by decide) ?_
      refine g_callS K 240 [(.ref a9), (.int (p3 &&& (3 : Int32))), (.ref a1), (.int (putN 10 (zig q0 q1) 0)), (.int (8 : Int32))] 0 at_240 (rm_place l Z a0 hw a9 (p3 &&& (3 : Int32)) a1 (putN 10 (zig q0 q1) 0) (8 : Int32) h141 n0 Z145 (f_place_a (f_place_a (f_place_a (f_place_a (f_place_a (f_place_a (f_place_a (f_place_a (own_J p4.toInt8.toInt32) (putL 10 (zig q0 q1) 0 own_X) (p3 &&& (3 : Int32)) (putN 10 (zig q0 q1) 0) (0 : Int32)) (putL 10 (zig q0 q1) 0 own_X) (p3 &&& (3 : Int32)) (putN 10 (zig q0 q1) 0) (1 : Int32)) (putL 10 (zig q0 q1) 0 own_X) (p3 &&& (3 : Int32)) (putN 10 (zig q0 q1) 0) (2 : Int32)) (putL 10 (zig q0 q1) 0 own_X) (p3 &&& (3 : Int32)) (putN 10 (zig q0 q1) 0) (3 : Int32)) (putL 10 (zig q0 q1) 0 own_X) (p3 &&& (3 : Int32)) (putN 10 (zig q0 q1) 0) (4 : Int32)) (putL 10 (zig q0 q1) 0 own_X) (p3 &&& (3 : Int32)) (putN 10 (zig q0 q1) 0) (5 : Int32)) (putL 10 (zig q0 q1) 0 own_X) (p3 &&& (3 : Int32)) (putN 10 (zig q0 q1) 0) (6 : Int32)) (putL 10 (zig q0 q1) 0 own_X) (p3 &&& (3 : Int32)) (putN 10 (zig q0 q1) 0) (7 : Int32)) (putL 10 (zig q0 q1) 0 own_X) A143 g14 A144 g6 ne15.symm (own_pa _ _ (by decide) (by first | rfl | (simp only [own_placelen]; rfl))) (fun _ => ⟨by decide, by rw [own_len10]; exact (show (8 : Int32).toNatClampNeg < 10 from by decide)⟩)) (tw hw 6 rfl) (tw hw 7 rfl) (tw hw 8 rfl) (tw hw 9 rfl) (by decide) pd1 rfl (st := []) rfl (Nat.le_of_eq rfl) rfl (by decide) (by decide) (by decide) (by decide) ?_
      rintro _ h146 ⟨hv, Kp147, A148, A149⟩
      rw [hv]
      clear hv
      have Z150 := Nat.le_trans Z145 Kp147.1
      refine go_cast (k' := ((0 + 1) + 1)) (n' := ((0 + 10) + 13)) (st' := []) rfl rfl rfl ?_
      refine g_aload K 243 at_243 rfl rfl ?_
      refine g_iload K 245 at_245 rfl ?_
      refine g_aload K 247 at_247 rfl rfl ?_
      refine g_iload K 249 at_249 rfl ?_
      refine g_bipush K 251 (9 : Int32) at_251 (by decide) ?_
      refine g_callS K 253 [(.ref a9), (.int (p3 &&& (3 : Int32))), (.ref a1), (.int (putN 10 (zig q0 q1) 0)), (.int (9 : Int32))] 0 at_253 (rm_place l Z a0 hw a9 (p3 &&& (3 : Int32)) a1 (putN 10 (zig q0 q1) 0) (9 : Int32) h146 n0 Z150 (f_place_a (f_place_a (f_place_a (f_place_a (f_place_a (f_place_a (f_place_a (f_place_a (f_place_a (own_J p4.toInt8.toInt32) (putL 10 (zig q0 q1) 0 own_X) (p3 &&& (3 : Int32)) (putN 10 (zig q0 q1) 0) (0 : Int32)) (putL 10 (zig q0 q1) 0 own_X) (p3 &&& (3 : Int32)) (putN 10 (zig q0 q1) 0) (1 : Int32)) (putL 10 (zig q0 q1) 0 own_X) (p3 &&& (3 : Int32)) (putN 10 (zig q0 q1) 0) (2 : Int32)) (putL 10 (zig q0 q1) 0 own_X) (p3 &&& (3 : Int32)) (putN 10 (zig q0 q1) 0) (3 : Int32)) (putL 10 (zig q0 q1) 0 own_X) (p3 &&& (3 : Int32)) (putN 10 (zig q0 q1) 0) (4 : Int32)) (putL 10 (zig q0 q1) 0 own_X) (p3 &&& (3 : Int32)) (putN 10 (zig q0 q1) 0) (5 : Int32)) (putL 10 (zig q0 q1) 0 own_X) (p3 &&& (3 : Int32)) (putN 10 (zig q0 q1) 0) (6 : Int32)) (putL 10 (zig q0 q1) 0 own_X) (p3 &&& (3 : Int32)) (putN 10 (zig q0 q1) 0) (7 : Int32)) (putL 10 (zig q0 q1) 0 own_X) (p3 &&& (3 : Int32)) (putN 10 (zig q0 q1) 0) (8 : Int32)) (putL 10 (zig q0 q1) 0 own_X) A148 g14 A149 g6 ne15.symm (own_pa _ _ (by decide) (by first | rfl | (simp only [own_placelen]; rfl))) (fun _ => ⟨by decide, by rw [own_len10]; exact (show (9 : Int32).toNatClampNeg < 10 from by decide)⟩)) (tw hw 6 rfl) (tw hw 7 rfl) (tw hw 8 rfl) (tw hw 9 rfl) (by decide) pd1 rfl (st := []) rfl (Nat.le_of_eq rfl) rfl (by decide) (by decide) (by decide) (by decide) ?_
      rintro _ h151 ⟨hv, Kp152, A153, A154⟩
      rw [hv]
      clear hv
      have Z155 := Nat.le_trans Z150 Kp152.1
      refine go_cast (k' := ((0 + 1) + 1)) (n' := ((0 + 10) + 13)) (st' := []) rfl rfl rfl ?_
      refine g_aload K 256 at_256 rfl rfl ?_
      refine g_iload K 258 at_258 rfl ?_
      refine g_iload K 260 at_260 rfl ?_
      refine g_lloadN K 262 at_262 rfl ?_
      refine g_callS K 263 [(.ref a9), (.int (p3 &&& (3 : Int32))), (.int (putN 10 (zig q0 q1) 0)), (.long q1)] 0 at_263 (rm_get l Z a0 hw a9 (p3 &&& (3 : Int32)) (putN 10 (zig q0 q1) 0) q1 h151 n0 Z155 (f_place_a (f_place_a (f_place_a (f_place_a (f_place_a (f_place_a (f_place_a (f_place_a (f_place_a (f_place_a (own_J p4.toInt8.toInt32) (putL 10 (zig q0 q1) 0 own_X) (p3 &&& (3 : Int32)) (putN 10 (zig q0 q1) 0) (0 : Int32)) (putL 10 (zig q0 q1) 0 own_X) (p3 &&& (3 : Int32)) (putN 10 (zig q0 q1) 0) (1 : Int32)) (putL 10 (zig q0 q1) 0 own_X) (p3 &&& (3 : Int32)) (putN 10 (zig q0 q1) 0) (2 : Int32)) (putL 10 (zig q0 q1) 0 own_X) (p3 &&& (3 : Int32)) (putN 10 (zig q0 q1) 0) (3 : Int32)) (putL 10 (zig q0 q1) 0 own_X) (p3 &&& (3 : Int32)) (putN 10 (zig q0 q1) 0) (4 : Int32)) (putL 10 (zig q0 q1) 0 own_X) (p3 &&& (3 : Int32)) (putN 10 (zig q0 q1) 0) (5 : Int32)) (putL 10 (zig q0 q1) 0 own_X) (p3 &&& (3 : Int32)) (putN 10 (zig q0 q1) 0) (6 : Int32)) (putL 10 (zig q0 q1) 0 own_X) (p3 &&& (3 : Int32)) (putN 10 (zig q0 q1) 0) (7 : Int32)) (putL 10 (zig q0 q1) 0 own_X) (p3 &&& (3 : Int32)) (putN 10 (zig q0 q1) 0) (8 : Int32)) (putL 10 (zig q0 q1) 0 own_X) (p3 &&& (3 : Int32)) (putN 10 (zig q0 q1) 0) (9 : Int32)) A153 (own_fr _) (own_n1 _ _) (by simp only [own_placelen]; exact own_n2 _ _ _)) (tw hw 10 rfl) (tw hw 11 rfl) (tw hw 3 rfl) (tw hw 12 rfl) (by decide) pd2 rfl (st := []) rfl (Nat.le_of_eq rfl) rfl (by decide) (by decide) (by decide) (by decide) ?_
      rintro _ _ ⟨hv, hh⟩
      rw [hv, hh]
      clear hv hh
      refine go_cast (k' := ((0 + 1) + 1)) (n' := ((0 + 10) + 13)) (st' := [(.long (unzig q1 (getL (f_place_a (f_place_a (f_place_a (f_place_a (f_place_a (f_place_a (f_place_a (f_place_a (f_place_a (f_place_a (own_J p4.toInt8.toInt32) (putL 10 (zig q0 q1) 0 own_X) (p3 &&& (3 : Int32)) (putN 10 (zig q0 q1) 0) (0 : Int32)) (putL 10 (zig q0 q1) 0 own_X) (p3 &&& (3 : Int32)) (putN 10 (zig q0 q1) 0) (1 : Int32)) (putL 10 (zig q0 q1) 0 own_X) (p3 &&& (3 : Int32)) (putN 10 (zig q0 q1) 0) (2 : Int32)) (putL 10 (zig q0 q1) 0 own_X) (p3 &&& (3 : Int32)) (putN 10 (zig q0 q1) 0) (3 : Int32)) (putL 10 (zig q0 q1) 0 own_X) (p3 &&& (3 : Int32)) (putN 10 (zig q0 q1) 0) (4 : Int32)) (putL 10 (zig q0 q1) 0 own_X) (p3 &&& (3 : Int32)) (putN 10 (zig q0 q1) 0) (5 : Int32)) (putL 10 (zig q0 q1) 0 own_X) (p3 &&& (3 : Int32)) (putN 10 (zig q0 q1) 0) (6 : Int32)) (putL 10 (zig q0 q1) 0 own_X) (p3 &&& (3 : Int32)) (putN 10 (zig q0 q1) 0) (7 : Int32)) (putL 10 (zig q0 q1) 0 own_X) (p3 &&& (3 : Int32)) (putN 10 (zig q0 q1) 0) (8 : Int32)) (putL 10 (zig q0 q1) 0 own_X) (p3 &&& (3 : Int32)) (putN 10 (zig q0 q1) 0) (9 : Int32)) (p3 &&& (3 : Int32)) ((putN 10 (zig q0 q1) 0)).toInt.toNat 0 0)))]) rfl rfl rfl ?_
      refine g_lstore K 266 #[.val (.long q0), .second, .val (.long q1), .second, .val (.long q2), .second, .val (.int p3), .val (.int p4), .val (.int (p3 &&& (3 : Int32))), .val (.int p4.toInt8.toInt32), .val (.ref a1), .val (.ref a9), .val (.int (putN 10 (zig q0 q1) 0)), .val (.long (unzig q1 (getL (f_place_a (f_place_a (f_place_a (f_place_a (f_place_a (f_place_a (f_place_a (f_place_a (f_place_a (f_place_a (own_J p4.toInt8.toInt32) (putL 10 (zig q0 q1) 0 own_X) (p3 &&& (3 : Int32)) (putN 10 (zig q0 q1) 0) (0 : Int32)) (putL 10 (zig q0 q1) 0 own_X) (p3 &&& (3 : Int32)) (putN 10 (zig q0 q1) 0) (1 : Int32)) (putL 10 (zig q0 q1) 0 own_X) (p3 &&& (3 : Int32)) (putN 10 (zig q0 q1) 0) (2 : Int32)) (putL 10 (zig q0 q1) 0 own_X) (p3 &&& (3 : Int32)) (putN 10 (zig q0 q1) 0) (3 : Int32)) (putL 10 (zig q0 q1) 0 own_X) (p3 &&& (3 : Int32)) (putN 10 (zig q0 q1) 0) (4 : Int32)) (putL 10 (zig q0 q1) 0 own_X) (p3 &&& (3 : Int32)) (putN 10 (zig q0 q1) 0) (5 : Int32)) (putL 10 (zig q0 q1) 0 own_X) (p3 &&& (3 : Int32)) (putN 10 (zig q0 q1) 0) (6 : Int32)) (putL 10 (zig q0 q1) 0 own_X) (p3 &&& (3 : Int32)) (putN 10 (zig q0 q1) 0) (7 : Int32)) (putL 10 (zig q0 q1) 0 own_X) (p3 &&& (3 : Int32)) (putN 10 (zig q0 q1) 0) (8 : Int32)) (putL 10 (zig q0 q1) 0 own_X) (p3 &&& (3 : Int32)) (putN 10 (zig q0 q1) 0) (9 : Int32)) (p3 &&& (3 : Int32)) ((putN 10 (zig q0 q1) 0)).toInt.toNat 0 0))), .second, .unset, .unset] at_266 rfl ?_
      refine g_aload K 268 at_268 rfl rfl ?_
      refine g_iload K 270 at_270 rfl ?_
      refine g_iload K 272 at_272 rfl ?_
      refine g_lload K 274 at_274 rfl ?_
      refine g_callS K 276 [(.ref a9), (.int (p3 &&& (3 : Int32))), (.int (putN 10 (zig q0 q1) 0)), (.long q2)] 0 at_276 (rm_get l Z a0 hw a9 (p3 &&& (3 : Int32)) (putN 10 (zig q0 q1) 0) q2 h151 n0 Z155 (f_place_a (f_place_a (f_place_a (f_place_a (f_place_a (f_place_a (f_place_a (f_place_a (f_place_a (f_place_a (own_J p4.toInt8.toInt32) (putL 10 (zig q0 q1) 0 own_X) (p3 &&& (3 : Int32)) (putN 10 (zig q0 q1) 0) (0 : Int32)) (putL 10 (zig q0 q1) 0 own_X) (p3 &&& (3 : Int32)) (putN 10 (zig q0 q1) 0) (1 : Int32)) (putL 10 (zig q0 q1) 0 own_X) (p3 &&& (3 : Int32)) (putN 10 (zig q0 q1) 0) (2 : Int32)) (putL 10 (zig q0 q1) 0 own_X) (p3 &&& (3 : Int32)) (putN 10 (zig q0 q1) 0) (3 : Int32)) (putL 10 (zig q0 q1) 0 own_X) (p3 &&& (3 : Int32)) (putN 10 (zig q0 q1) 0) (4 : Int32)) (putL 10 (zig q0 q1) 0 own_X) (p3 &&& (3 : Int32)) (putN 10 (zig q0 q1) 0) (5 : Int32)) (putL 10 (zig q0 q1) 0 own_X) (p3 &&& (3 : Int32)) (putN 10 (zig q0 q1) 0) (6 : Int32)) (putL 10 (zig q0 q1) 0 own_X) (p3 &&& (3 : Int32)) (putN 10 (zig q0 q1) 0) (7 : Int32)) (putL 10 (zig q0 q1) 0 own_X) (p3 &&& (3 : Int32)) (putN 10 (zig q0 q1) 0) (8 : Int32)) (putL 10 (zig q0 q1) 0 own_X) (p3 &&& (3 : Int32)) (putN 10 (zig q0 q1) 0) (9 : Int32)) A153 (own_fr _) (own_n1 _ _) (by simp only [own_placelen]; exact own_n2 _ _ _)) (tw hw 10 rfl) (tw hw 11 rfl) (tw hw 3 rfl) (tw hw 12 rfl) (by decide) pd2 rfl (st := []) rfl (Nat.le_of_eq rfl) rfl (by decide) (by decide) (by decide) (by decide) ?_
      rintro _ _ ⟨hv, hh⟩
      rw [hv, hh]
      clear hv hh
      refine go_cast (k' := ((0 + 1) + 1)) (n' := ((0 + 10) + 13)) (st' := [(.long (unzig q2 (getL (f_place_a (f_place_a (f_place_a (f_place_a (f_place_a (f_place_a (f_place_a (f_place_a (f_place_a (f_place_a (own_J p4.toInt8.toInt32) (putL 10 (zig q0 q1) 0 own_X) (p3 &&& (3 : Int32)) (putN 10 (zig q0 q1) 0) (0 : Int32)) (putL 10 (zig q0 q1) 0 own_X) (p3 &&& (3 : Int32)) (putN 10 (zig q0 q1) 0) (1 : Int32)) (putL 10 (zig q0 q1) 0 own_X) (p3 &&& (3 : Int32)) (putN 10 (zig q0 q1) 0) (2 : Int32)) (putL 10 (zig q0 q1) 0 own_X) (p3 &&& (3 : Int32)) (putN 10 (zig q0 q1) 0) (3 : Int32)) (putL 10 (zig q0 q1) 0 own_X) (p3 &&& (3 : Int32)) (putN 10 (zig q0 q1) 0) (4 : Int32)) (putL 10 (zig q0 q1) 0 own_X) (p3 &&& (3 : Int32)) (putN 10 (zig q0 q1) 0) (5 : Int32)) (putL 10 (zig q0 q1) 0 own_X) (p3 &&& (3 : Int32)) (putN 10 (zig q0 q1) 0) (6 : Int32)) (putL 10 (zig q0 q1) 0 own_X) (p3 &&& (3 : Int32)) (putN 10 (zig q0 q1) 0) (7 : Int32)) (putL 10 (zig q0 q1) 0 own_X) (p3 &&& (3 : Int32)) (putN 10 (zig q0 q1) 0) (8 : Int32)) (putL 10 (zig q0 q1) 0 own_X) (p3 &&& (3 : Int32)) (putN 10 (zig q0 q1) 0) (9 : Int32)) (p3 &&& (3 : Int32)) ((putN 10 (zig q0 q1) 0)).toInt.toNat 0 0)))]) rfl rfl rfl ?_
      refine g_lstore K 279 #[.val (.long q0), .second, .val (.long q1), .second, .val (.long q2), .second, .val (.int p3), .val (.int p4), .val (.int (p3 &&& (3 : Int32))), .val (.int p4.toInt8.toInt32), .val (.ref a1), .val (.ref a9), .val (.int (putN 10 (zig q0 q1) 0)), .val (.long (unzig q1 (getL (f_place_a (f_place_a (f_place_a (f_place_a (f_place_a (f_place_a (f_place_a (f_place_a (f_place_a (f_place_a (own_J p4.toInt8.toInt32) (putL 10 (zig q0 q1) 0 own_X) (p3 &&& (3 : Int32)) (putN 10 (zig q0 q1) 0) (0 : Int32)) (putL 10 (zig q0 q1) 0 own_X) (p3 &&& (3 : Int32)) (putN 10 (zig q0 q1) 0) (1 : Int32)) (putL 10 (zig q0 q1) 0 own_X) (p3 &&& (3 : Int32)) (putN 10 (zig q0 q1) 0) (2 : Int32)) (putL 10 (zig q0 q1) 0 own_X) (p3 &&& (3 : Int32)) (putN 10 (zig q0 q1) 0) (3 : Int32)) (putL 10 (zig q0 q1) 0 own_X) (p3 &&& (3 : Int32)) (putN 10 (zig q0 q1) 0) (4 : Int32)) (putL 10 (zig q0 q1) 0 own_X) (p3 &&& (3 : Int32)) (putN 10 (zig q0 q1) 0) (5 : Int32)) (putL 10 (zig q0 q1) 0 own_X) (p3 &&& (3 : Int32)) (putN 10 (zig q0 q1) 0) (6 : Int32)) (putL 10 (zig q0 q1) 0 own_X) (p3 &&& (3 : Int32)) (putN 10 (zig q0 q1) 0) (7 : Int32)) (putL 10 (zig q0 q1) 0 own_X) (p3 &&& (3 : Int32)) (putN 10 (zig q0 q1) 0) (8 : Int32)) (putL 10 (zig q0 q1) 0 own_X) (p3 &&& (3 : Int32)) (putN 10 (zig q0 q1) 0) (9 : Int32)) (p3 &&& (3 : Int32)) ((putN 10 (zig q0 q1) 0)).toInt.toNat 0 0))), .second, .val (.long (unzig q2 (getL (f_place_a (f_place_a (f_place_a (f_place_a (f_place_a (f_place_a (f_place_a (f_place_a (f_place_a (f_place_a (own_J p4.toInt8.toInt32) (putL 10 (zig q0 q1) 0 own_X) (p3 &&& (3 : Int32)) (putN 10 (zig q0 q1) 0) (0 : Int32)) (putL 10 (zig q0 q1) 0 own_X) (p3 &&& (3 : Int32)) (putN 10 (zig q0 q1) 0) (1 : Int32)) (putL 10 (zig q0 q1) 0 own_X) (p3 &&& (3 : Int32)) (putN 10 (zig q0 q1) 0) (2 : Int32)) (putL 10 (zig q0 q1) 0 own_X) (p3 &&& (3 : Int32)) (putN 10 (zig q0 q1) 0) (3 : Int32)) (putL 10 (zig q0 q1) 0 own_X) (p3 &&& (3 : Int32)) (putN 10 (zig q0 q1) 0) (4 : Int32)) (putL 10 (zig q0 q1) 0 own_X) (p3 &&& (3 : Int32)) (putN 10 (zig q0 q1) 0) (5 : Int32)) (putL 10 (zig q0 q1) 0 own_X) (p3 &&& (3 : Int32)) (putN 10 (zig q0 q1) 0) (6 : Int32)) (putL 10 (zig q0 q1) 0 own_X) (p3 &&& (3 : Int32)) (putN 10 (zig q0 q1) 0) (7 : Int32)) (putL 10 (zig q0 q1) 0 own_X) (p3 &&& (3 : Int32)) (putN 10 (zig q0 q1) 0) (8 : Int32)) (putL 10 (zig q0 q1) 0 own_X) (p3 &&& (3 : Int32)) (putN 10 (zig q0 q1) 0) (9 : Int32)) (p3 &&& (3 : Int32)) ((putN 10 (zig q0 q1) 0)).toInt.toNat 0 0))), .second] at_279 rfl ?_
      refine g_lload K 281 at_281 rfl ?_
      refine g_lloadN K 283 at_283 rfl ?_
      refine g_lcmp K 284 at_284 ?_
      refine g_ll_ne K 285 304 at_285 (by decide) (by decide) ?_ ?_
      · intro c156
        exfalso
        exact c156 ((own_back q0 q1 q1 _ _).trans (own_tp q0 q1))
      · intro c156
        refine g_lload K 288 at_288 rfl ?_
        refine g_lload K 290 at_290 rfl ?_
        refine g_lloadN K 292 at_292 rfl ?_
        refine g_lloadN K 293 at_293 rfl ?_
        refine g_lsub K 294 at_294 ?_
        refine g_ladd K 295 at_295 ?_
        refine g_lcmp K 296 at_296 ?_
        refine g_ll_ne K 297 304 at_297 (by decide) (by decide) ?_ ?_
        · intro c157
          exfalso
          exact c157 (own_back q0 q1 q2 _ _)
        · intro c157
          refine g_iconst K 300 (1 : Int32) at_300 (by decide) ?_
          refine g_goto K 301 305 at_301 (by decide) (by decide) ?_
          refine g_retN K 305 .boolean at_305 rfl (by simp) (by decide) (by decide) ?_
          rw [hQ]
          rfl
    · intro c105
      exfalso
      exact (own_n3 _).2 c105
set_option maxRecDepth 65536 in
theorem comes_1 {Post : Tables → Env → Array Value → State → Outcome → State → Prop} (hpost : ∀ tb e args s v u, (limb_1_1.after args s (.returned v) u = true ∧ limb_1_2.after args s (.returned v) u = true ∧ True) → FrameEnd s (.returned v) u (Jvm.fieldLocs frame_1_writes args s ++ Jvm.arrayLocs frame_1_arrays args s ++ Jvm.staticLocs frame_1_statics s) 16 128 → Post tb e args s (.returned v) u) :
    ArmFor flags0 classFile x code maxLocals ret World_1 tables_1 room_1 Calls_1 rest_1 Pre_1 Post := by
  intro l hfl _ _ p e ha hc hk s m args below hf hA hF happ hP
  obtain ⟨hcalls, hrest, hpre⟩ := hP
  obtain ⟨-, -, -, hnamed, -, -, -, hat⟩ := (Spec.applies_iff hf).mp happ
  obtain ⟨hg, hn⟩ := and_e (Cond.before_iff.mp (show (Jvm.Cond.and given_1 narrow_1).before args s = true from hpre))
  obtain ⟨hcnt, hg0⟩ := and_e hg
  obtain ⟨w0, w1, w2, w3, w4, rfl⟩ : ∃ w0 w1 w2 w3 w4 : Value, args = #[w0, w1, w2, w3, w4] := by
    have hs : args.size = 5 := by simpa [Cond.value, given_1] using hcnt
    obtain ⟨L⟩ := args
    match L, hs with
    | [w0, w1, w2, w3, w4], _ => exact ⟨w0, w1, w2, w3, w4, rfl⟩
  have hw := fun d (hd : d ∈ tables_1) => atoms_spec (ws := Jvm.Cond.code x code maxLocals ret :: tables_1) hat d (List.mem_cons_of_mem _ hd)
  obtain ⟨hq0, hg1⟩ := and_e hg0
  obtain ⟨i0, e0⟩ := isL_v hq0
  obtain rfl : w0 = (.long i0) := Option.some.inj e0
  obtain ⟨hq1, hg2⟩ := and_e hg1
  obtain ⟨i1, e1⟩ := isL_v hq1
  obtain rfl : w1 = (.long i1) := Option.some.inj e1
  obtain ⟨hq2, hg3⟩ := and_e hg2
  obtain ⟨i2, e2⟩ := isL_v hq2
  obtain rfl : w2 = (.long i2) := Option.some.inj e2
  obtain ⟨hq3, hg4⟩ := and_e hg3
  obtain ⟨i3, e3⟩ := is_v hq3
  obtain rfl : w3 = (.int i3) := Option.some.inj e3
  obtain ⟨i4, e4⟩ := is_v hg4
  obtain rfl : w4 = (.int i4) := Option.some.inj e4
  obtain ⟨n, o, h1, h2, h3, _, L, rfl, ⟨rfl, N⟩, hq⟩ := rm_law l s _ hw i0 i1 i2 i3 i4 s.heap s.heap.size (Nat.le_refl _) tables_1 p e ha hc hk s m _ below hf ((Spec.applies_iff_loose hf).mp happ).1 ⟨rfl, State.Warmed39.refl s, rfl⟩ trivial
  refine ⟨n, _, h1, h2, h3, hpost _ _ _ _ _ _ ⟨Cond.after_iff.mpr rfl, Cond.after_iff.mpr (eq_i res_at (Term.int_eval (1)) rfl), trivial⟩ ⟨hq.1, hq.2.1, (hq.2.2.sift fun y hy => Or.inr (N y hy)).mono (by decide) (by decide)⟩⟩
theorem main_1_1 : Claimed_1_1 := comes_1 fun _ _ _ _ _ _ h hF => ⟨h.1, hF⟩
theorem main_1_2 : Claimed_1_2 := comes_1 fun _ _ _ _ _ _ h hF => ⟨h.2.1, hF⟩
end Jvm.Pilot.@@N@@
namespace Jvm.Pilot.@@N@@
open Jvm Jvm.ClassFile Sem Op Lib Jvm.Free Jvm.Stand Jvm.Pilot.@@N@@.Jvm.D
/-! MADE BY PROGRAM (witnessworld.py) out of the Statement's table words and the real class files: 9 classes; the members and pool entries that the words name. The judged class is class 1, her method 2. -/
namespace start1
open Jvm.ClassFile
def u (s : String) : CpInfo := .utf8 (stringToUtf16 s)
/-- a pool by its gaps: so many unusable entries, then the entry; so many at the end -/
def gap : Nat → List CpInfo → List CpInfo
  | 0, r => r
  | n + 1, r => .unusable :: gap n r
def poolList (es : List (Nat × CpInfo)) (last : Nat) : List CpInfo := es.foldr (fun e r => gap e.1 (e.2 :: r)) (gap last [])
def pool (es : List (Nat × CpInfo)) (last : Nat) : Array CpInfo := ⟨poolList es last⟩
def fileOf (pool : Array CpInfo) (this : Nat) (attrs : Array Attribute := #[]) (ms : Array MethodInfo := #[]) (fl : Nat := 33) (sup : Nat := 0) (ifs : Array Nat := #[]) (fds : Array FieldInfo := #[]) : ClassFile where
  minorVersion := 0
  majorVersion := 65
  constantPool := pool
  accessFlags := fl
  thisClass := this
  superClass := sup
  interfaces := ifs
  fields := fds
  methods := ms
  attributes := attrs
def plain (name : String) (sup : Option ClassId) : Class where
  name := name
  kind := .ordinary
  loader := none
  accessFlags := 33
  super := sup
  interfaces := #[]
  cf := none
  fields := #[]
  methods := #[]
  instanceTypes := #[]
  staticTypes := #[]
  resolved := #[]
  callSites := []
  init := .initialized
  statics := none
  mirror := none

def pool0 : Array CpInfo := pool [(5, u "<init>"), (0, u "()V"), (1, .class_ 10), (1, u "java/lang/Object")] 113

def k0m0 : Method := { name := "<init>", desc := "()V", sig := { parameters := [], returnType := none }, accessFlags := 1, code := none }
/-- java/lang/Object -/
def k0 : Class := { plain "java/lang/Object" none with
  accessFlags := 33
  interfaces := #[]
  cf := some (fileOf pool0 8 #[] #[{ accessFlags := 1, nameIndex := 5, descriptorIndex := 6, attributes := #[] }] 33 0 #[] #[])
  fields := #[]
  methods := #[k0m0]
  instanceTypes := #[]
  staticTypes := #[]
  resolved := Array.replicate 124 none
  statics := none }

def pool1 : Array CpInfo := pool [(2, .class_ 4), (1, u "java/lang/Object"), (0, u "<init>"), (0, u "()V"), (0, .class_ 8), (0, u "com/example/caddis/caddis/TimeDelta"), (0, .methodref 7 10), (0, .nameAndType 11 12), (0, u "put"), (0, u "(JJ[B)I"), (0, .methodref 14 15), (0, .class_ 16), (0, .nameAndType 17 18), (0, u "com/example/caddis/caddis/TimeDeltaGetPinLaw"), (0, u "place"), (0, u "([BI[BII)V"), (0, .methodref 7 20), (0, .nameAndType 21 22), (0, u "get"), (0, u "([BIIJ)J"), (3, u "law"), (0, u "(JJJII)Z")] 4

def k1m0 : Method := { name := "<init>", desc := "()V", sig := { parameters := [], returnType := none }, accessFlags := 1, code := none }
def k1c1 : Code := { maxStack := 4, maxLocals := 5, code := method_2_code, exceptionTable := #[], attributes := #[] }
def k1m1 : Method := { name := "place", desc := "([BI[BII)V", sig := { parameters := [(.array .byte), .int, (.array .byte), .int, .int], returnType := none }, accessFlags := 10, code := some k1c1 }
def k1c2 : Code := { maxStack := 8, maxLocals := 17, code := code, exceptionTable := #[], attributes := #[] }
def k1m2 : Method := { name := "law", desc := "(JJJII)Z", sig := { parameters := [.long, .long, .long, .int, .int], returnType := some .boolean }, accessFlags := 9, code := some k1c2 }
/-- com/example/caddis/caddis/TimeDeltaGetPinLaw -/
def k1 : Class := { plain "com/example/caddis/caddis/TimeDeltaGetPinLaw" (some 0) with
  accessFlags := 49
  interfaces := #[]
  cf := some (fileOf pool1 14 #[] #[{ accessFlags := 1, nameIndex := 5, descriptorIndex := 6, attributes := #[] }, { accessFlags := 10, nameIndex := 17, descriptorIndex := 18, attributes := #[] }, { accessFlags := 9, nameIndex := 26, descriptorIndex := 27, attributes := #[] }] 49 2 #[] #[])
  fields := #[]
  methods := #[k1m0, k1m1, k1m2]
  instanceTypes := #[]
  staticTypes := #[]
  resolved := Array.replicate 32 none
  statics := none }

def pool2 : Array CpInfo := pool [(2, .class_ 4), (1, u "java/lang/Object"), (0, u "<init>"), (0, u "()V"), (0, .long 18446744073709551488), (1, .long 127), (1, .long 128), (1, .class_ 14), (0, u "com/example/caddis/caddis/TimeDelta"), (0, u "MAX_BYTES"), (0, u "I"), (4, u "put"), (0, u "(JJ[B)I"), (3, u "get"), (0, u "([BIIJ)J")] 2

def k2m0 : Method := { name := "<init>", desc := "()V", sig := { parameters := [], returnType := none }, accessFlags := 2, code := none }
def k2c1 : Code := { maxStack := 6, maxLocals := 10, code := prog_59_method_2_code, exceptionTable := #[], attributes := #[] }
def k2m1 : Method := { name := "put", desc := "(JJ[B)I", sig := { parameters := [.long, .long, (.array .byte)], returnType := some .int }, accessFlags := 8, code := some k2c1 }
def k2c2 : Code := { maxStack := 6, maxLocals := 9, code := prog_59_method_4_code, exceptionTable := #[], attributes := #[] }
def k2m2 : Method := { name := "get", desc := "([BIIJ)J", sig := { parameters := [(.array .byte), .int, .int, .long], returnType := some .long }, accessFlags := 8, code := some k2c2 }
/-- com/example/caddis/caddis/TimeDelta -/
def k2 : Class := { plain "com/example/caddis/caddis/TimeDelta" (some 0) with
  accessFlags := 48
  interfaces := #[]
  cf := some (fileOf pool2 13 #[] #[{ accessFlags := 2, nameIndex := 5, descriptorIndex := 6, attributes := #[] }, { accessFlags := 8, nameIndex := 21, descriptorIndex := 22, attributes := #[] }, { accessFlags := 8, nameIndex := 26, descriptorIndex := 27, attributes := #[] }] 48 2 #[] #[{ accessFlags := 24, nameIndex := 15, descriptorIndex := 16, attributes := #[] }])
  fields := #[{ name := "MAX_BYTES", type := .int, accessFlags := 24, slot := 0, constantValue := 0 }]
  methods := #[k2m0, k2m1, k2m2]
  instanceTypes := #[]
  staticTypes := #[.int]
  resolved := Array.replicate 30 none
  statics := none }

def pool3 : Array CpInfo := pool [(1, u "java/lang/Cloneable"), (0, .class_ 1), (0, u "java/lang/Object"), (0, .class_ 3)] 3

/-- java/lang/Cloneable -/
def k3 : Class := { plain "java/lang/Cloneable" (some 0) with
  accessFlags := 1537
  interfaces := #[]
  cf := some (fileOf pool3 2 #[] #[] 1537 4 #[] #[])
  fields := #[]
  methods := #[]
  instanceTypes := #[]
  staticTypes := #[]
  resolved := Array.replicate 8 none
  statics := none }

def pool4 : Array CpInfo := pool [(1, u "java/io/Serializable"), (0, .class_ 1), (0, u "java/lang/Object"), (0, .class_ 3)] 3

/-- java/io/Serializable -/
def k4 : Class := { plain "java/io/Serializable" (some 0) with
  accessFlags := 1537
  interfaces := #[]
  cf := some (fileOf pool4 2 #[] #[] 1537 4 #[] #[])
  fields := #[]
  methods := #[]
  instanceTypes := #[]
  staticTypes := #[]
  resolved := Array.replicate 8 none
  statics := none }

/-- the primitive byte -/
def k5 : Class := { plain "byte" none with kind := .primitive 'B', accessFlags := 0x411 }
/-- [B -/
def k6 : Class := { plain "[B" (some 0) with kind := .array 5 .byte, interfaces := #[3, 4], accessFlags := 1041 }

/-- the primitive int -/
def k7 : Class := { plain "int" none with kind := .primitive 'I', accessFlags := 0x411 }
/-- [I -/
def k8 : Class := { plain "[I" (some 0) with kind := .array 7 .int, interfaces := #[3, 4], accessFlags := 1041 }

def heap : Heap := #[]
def classes : Array Class := #[k0, k1, k2, k3, k4, k5, k6, k7, k8]
def interned : List (Array UInt16 × Addr) := []
def slotsUsed : Nat := 0
def theMethod : MethodId := ⟨1, 2⟩
def args0 : Array Value := #[.long 300, .long 7, .long 8, .int 6, .int 7]
def aboutOver (below : List Frame) : State where
  vm := { classes := classes, interned := interned.toArray }
  heap := heap
  slotsUsed := slotsUsed
  threads := #[{ frames := .invoking theMethod args0 :: below }]
def below0 : List Frame := [.native { method := ⟨0, 0⟩, args := #[] }]
def about1 : State := aboutOver below0
def p0 : Program := .bare "" "" ""
def e0 : Env := launch0.env 0 0 0
theorem w_frames : about1.frames = Frame.invoking theMethod args0 :: below0 := rfl
set_option maxRecDepth 65536 in
theorem w_args : argsFit about1.vm theMethod args0 = true := by decide +kernel
set_option maxRecDepth 65536 in
theorem w_heap : heapFits about1 = true := by decide +kernel
set_option maxRecDepth 65536 in
theorem w_runnable : about1.curStatus? = some .runnable := by decide +kernel
set_option maxRecDepth 65536 in
theorem w_alone : about1.alone = true := by decide +kernel
set_option maxRecDepth 65536 in
theorem w_named : about1.methodNamed? x = some theMethod := by decide +kernel
set_option maxRecDepth 65536 in
theorem w_hears : about1.hears theMethod below0 = true := by decide +kernel
set_option maxRecDepth 65536 in
theorem w_ripe : about1.ripe theMethod args0 below0 = true := by decide +kernel
theorem w_running : about1.status = .running := rfl
set_option maxRecDepth 65536 in
theorem w_room : about1.hasRoom e0.platform room_1 = true :=
  launch0.hasRoom_least _ room_1 (by decide +kernel) (by decide +kernel) (by decide +kernel) (by decide +kernel) (by decide +kernel) (by decide +kernel)
theorem allAtoms_all (ts : List Jvm.Cond) (a : Array Jvm.Value) (st : Jvm.State) : (allAtoms ts).before a st = ts.all (fun c => c.before a st) := by
  induction ts with
  | nil => rfl
  | cons c t ih =>
    show (Jvm.Cond.and c (allAtoms t)).before a st = _
    rw [Jvm.Cond.before_and, ih, List.all_cons]
def words1 : List Jvm.Cond := Jvm.Cond.code x code maxLocals ret :: tables_1
/-- a 'code' word, met by the world's own term for the bytes: nothing is compared byte by byte -/
theorem code_word {y : MethodName} {bytes : ByteArray} {mx : Nat} {rt : Option FieldType} {a : Array Value} {s : State} {m : MethodId} {meth : Method} {c : Code} (h1 : s.methodNamed? y = some m) (h2 : s.vm.method? m = some meth) (h3 : meth.code = some c) (h4 : c.code = bytes)
    (h5 : (c.maxLocals == mx && c.exceptionTable.isEmpty && decide (c.maxStack ≤ mostOperands) && decide (meth.sig.returnType = rt) && !meth.locks && decide (parseMethodDescriptor y.desc = some meth.sig)) = true) : (Jvm.Cond.code y bytes mx rt).before a s = true := by
  simp only [Bool.and_eq_true, beq_iff_eq, Bool.not_eq_true', decide_eq_true_eq] at h5
  obtain ⟨⟨⟨⟨⟨g1, g2⟩, g3⟩, g4⟩, g5⟩, g6⟩ := h5
  simp [Cond.before, Cond.holds, Cond.value, h1, h2, h3, h4, g1, g2, g3, g4, g5, g6]
def isCode : Jvm.Cond → Bool
  | .code _ _ _ _ => true
  | _ => false
theorem all_split {L : List Jvm.Cond} {P : Jvm.Cond → Bool} (h1 : L.all (fun c => isCode c || P c) = true) (h2 : ∀ c ∈ L.filter isCode, P c = true) : L.all P = true := by
  refine List.all_eq_true.mpr fun c hc => ?_
  have h := List.all_eq_true.mp h1 c hc
  rcases Bool.eq_false_or_eq_true (isCode c) with hi | hi
  · exact h2 c (List.mem_filter.mpr ⟨hc, hi⟩)
  · simpa [hi] using h
set_option maxRecDepth 65536 in
theorem w_c0 : (Jvm.Cond.code x code maxLocals ret).before args0 about1 = true := code_word (m := ⟨1, 2⟩) (meth := k1m2) (c := k1c2) (by decide +kernel) rfl rfl rfl (by decide +kernel)
set_option maxRecDepth 65536 in
theorem w_c1 : (Jvm.Cond.code ({ cls := "com/example/caddis/caddis/TimeDelta", name := "put", desc := "(JJ[B)I" } : Jvm.MethodName) prog_59_method_2_code (10 : Nat) (Option.some Jvm.ClassFile.FieldType.int)).before args0 about1 = true := code_word (m := ⟨2, 1⟩) (meth := k2m1) (c := k2c1) (by decide +kernel) rfl rfl rfl (by decide +kernel)
set_option maxRecDepth 65536 in
theorem w_c2 : (Jvm.Cond.code ({ cls := "com/example/caddis/caddis/TimeDeltaGetPinLaw", name := "place", desc := "([BI[BII)V" } : Jvm.MethodName) method_2_code (5 : Nat) (Option.none : Option Jvm.ClassFile.FieldType)).before args0 about1 = true := code_word (m := ⟨1, 1⟩) (meth := k1m1) (c := k1c1) (by decide +kernel) rfl rfl rfl (by decide +kernel)
set_option maxRecDepth 65536 in
theorem w_c3 : (Jvm.Cond.code ({ cls := "com/example/caddis/caddis/TimeDelta", name := "get", desc := "([BIIJ)J" } : Jvm.MethodName) prog_59_method_4_code (9 : Nat) (Option.some Jvm.ClassFile.FieldType.long)).before args0 about1 = true := code_word (m := ⟨2, 2⟩) (meth := k2m2) (c := k2c2) (by decide +kernel) rfl rfl rfl (by decide +kernel)
def codes1 : List Jvm.Cond := [Jvm.Cond.code x code maxLocals ret, Jvm.Cond.code ({ cls := "com/example/caddis/caddis/TimeDelta", name := "put", desc := "(JJ[B)I" } : Jvm.MethodName) prog_59_method_2_code (10 : Nat) (Option.some Jvm.ClassFile.FieldType.int), Jvm.Cond.code ({ cls := "com/example/caddis/caddis/TimeDeltaGetPinLaw", name := "place", desc := "([BI[BII)V" } : Jvm.MethodName) method_2_code (5 : Nat) (Option.none : Option Jvm.ClassFile.FieldType), Jvm.Cond.code ({ cls := "com/example/caddis/caddis/TimeDelta", name := "get", desc := "([BIIJ)J" } : Jvm.MethodName) prog_59_method_4_code (9 : Nat) (Option.some Jvm.ClassFile.FieldType.long)]
set_option maxRecDepth 65536 in
theorem codes_eq : words1.filter isCode = codes1 := rfl
theorem w_codes : ∀ c ∈ words1.filter isCode, c.before args0 about1 = true := by
  rw [codes_eq]
  intro c hc
  simp only [codes1, List.mem_cons, List.not_mem_nil, or_false] at hc
  rcases hc with rfl | rfl | rfl | rfl
  · exact w_c0
  · exact w_c1
  · exact w_c2
  · exact w_c3
set_option maxRecDepth 65536 in
theorem w_t1 : words1.all (fun c => isCode c || c.before args0 about1) = true := by decide +kernel
theorem w_tables : (allAtoms (Jvm.Cond.code x code maxLocals ret :: tables_1)).before args0 about1 = true := by
  rw [allAtoms_all]
  show words1.all (fun c => c.before args0 about1) = true
  refine all_split ?_ w_codes
  rw [w_t1]
set_option maxRecDepth 65536 in
theorem w_case : (Jvm.Cond.and given_1 narrow_1).before args0 about1 = true := by decide +kernel
theorem w_applies : (headSpec (Jvm.Cond.code x code maxLocals ret :: tables_1) room_1).applies x e0.platform about1 = true :=
  (Spec.applies_iff w_frames).mpr ⟨w_running, w_runnable, w_alone, w_named, w_hears, w_ripe, w_room, w_tables⟩
theorem atStart : AtStart classFile x code maxLocals ret World_1 tables_1 room_1 Calls_1 rest_1 Pre_1 launch0 p0 e0 about1 theMethod args0 below0 :=
  ⟨lists_1, trivial, launch0.admits_env _ _ _, launch0.least_env, fairChoices_fair.cas, fairChoices_fair.clock, w_frames, w_args, w_heap, w_applies, trivial, trivial, w_case⟩
end start1
theorem witness_1 : WitnessClaimed_1 := ⟨start1.p0, start1.e0, start1.about1, start1.theMethod, start1.args0, start1.below0, start1.atStart⟩
end Jvm.Pilot.@@N@@
