import JvmDerived
import JvmDerived.Pilot.@@N@@Statement
import JvmDerived.Pilot.@@N@@Code
set_option linter.unusedVariables false
set_option linter.unusedSimpArgs false
namespace Jvm.Pilot.@@N@@
open Jvm Jvm.ClassFile Sem Op Lib Jvm.Free Jvm.Stand Jvm.LawKit Jvm.RoadKit Bundle Jvm.Pilot.@@N@@.Jvm.D
/-- from any state that stands here with this heap the walk comes to a return with Q -/
def Go (p : Program) (l : Launch) (e : Env) (R : Room) (s : State) (m : MethodId) (args : Array Value) (below : List Frame) (meth : Method) (c : Code) (n0 : Nat) (Q : Option Value → Heap → Prop) (h : Heap) (k n : Nat) (f : JFrame) : Prop :=
  ∀ T L, Stand p l e R s m args below meth c T L k n → T.heap = h → Fr n0 L →
    ∃ s₂ o, Steps p.tables e below (T.setTop f) s₂ ∧ s₂.status = .running ∧ Ended s₂ below o ∧
      ∃ v L', o = .returned v ∧ (Q v s₂.heap ∧ Fr n0 L') ∧ FrameEnd s o s₂ L' R.cells R.slots
/-- what is known of the body that is walked -/
def Kx (Z : State) (own nm : String) (bytes : ByteArray) (ml : Nat) (rt : Option FieldType) (p : Program) (s : State) (m : MethodId) (meth : Method) (c : Code) : Prop :=
  p.tables.exec = Jvm.exec ∧ Z.Warmed39 s.vm ∧ s.vm.findClass own = some m.cls ∧ c.code = bytes ∧ c.maxLocals = ml ∧ meth.sig.returnType = rt ∧ meth.locks = false ∧ meth.name = nm
/-- a method's contract, at given arguments and heap -/
def Meets (l : Launch) (y : MethodName) (bytes : ByteArray) (ml : Nat) (rt : Option FieldType) (rm : Room) (Z : State) (as : Array Value) (h0 : Heap) (n0 : Nat) (Q : Option Value → Heap → Prop) : Prop :=
  ∀ ws : List Jvm.Cond, MetFree l y (head1 (Jvm.Cond.code y bytes ml rt :: ws) rm) (fun a U => a = as ∧ Z.Warmed39 U.vm ∧ U.heap = h0) (fun _ _ _ _ _ => True)
    (fun _ U o U' => ∃ v L, o = .returned v ∧ (Q v U'.heap ∧ Fr n0 L) ∧ FrameEnd U o U' L rm.cells rm.slots)
/-- an array of ints, bytes, booleans ..: its values as a list -/
def IA (Z : State) (h : Heap) (a : Addr) (ty : FieldType) (xs : List Int32) : Prop := ∃ cl : Cell, Arr Z h a cl ty ∧ cl.slots = (xs.map Value.int).toArray
/-- an array of longs -/
def LA (Z : State) (h : Heap) (a : Addr) (xs : List Int64) : Prop := ∃ cl : Cell, Arr Z h a cl .long ∧ cl.slots = (xs.map Value.long).toArray
section ArrFacts
variable {Z : State} {h h' : Heap} {a : Addr} {ty : FieldType} {xs : List Int32} {ys : List Int64} {ws : List Addr}
theorem IA.keep (F : IA Z h a ty xs) (K : Keep h h' ws) (q : a ∉ ws) : IA Z h' a ty xs := by obtain ⟨c, A, r⟩ := F; exact ⟨c, ⟨K.2.1 a c A.1 q, A.2⟩, r⟩
theorem LA.keep (F : LA Z h a ys) (K : Keep h h' ws) (q : a ∉ ws) : LA Z h' a ys := by obtain ⟨c, A, r⟩ := F; exact ⟨c, ⟨K.2.1 a c A.1 q, A.2⟩, r⟩
theorem IA.lt (F : IA Z h a ty xs) : a < h.size := by obtain ⟨c, A, -⟩ := F; exact A.lt
theorem LA.lt (F : LA Z h a ys) : a < h.size := by obtain ⟨c, A, -⟩ := F; exact A.lt
theorem IA.set {j : Nat} {x : Int32} (F : IA Z h a ty xs) (W : Wr h h' a j (.int x)) : IA Z h' a ty (xs.set j x) := by
  obtain ⟨c, A, r⟩ := F
  refine ⟨_, A.same W, ?_⟩
  simp [Cell.setSlot, r, List.map_set]
theorem LA.set {j : Nat} {x : Int64} (F : LA Z h a ys) (W : Wr h h' a j (.long x)) : LA Z h' a (ys.set j x) := by
  obtain ⟨c, A, r⟩ := F
  refine ⟨_, A.same W, ?_⟩
  simp [Cell.setSlot, r, List.map_set]
theorem keep_ext (E : Ext h h') : Keep h h' [] := (Keep.refl h []).ext E
theorem own_clamp {j : Int32} {n : Nat} (h0 : ¬ j < 0) (hn : j.toNatClampNeg < n) {cl : Cell} (hs : cl.slots.size = n) : ¬ (j < 0 ∨ cl.slots.size ≤ j.toNatClampNeg) := by
  rw [hs]; rintro (q | q)
  · exact h0 q
  · omega
theorem own_ne_of_lt {a b : Nat} {h : Heap} (q : a < h.size) (r : b = h.size) : a ≠ b := by omega
end ArrFacts
section GoSteps
variable {p : Program} {l : Launch} {e : Env} {R : Room} {s : State} {m : MethodId} {args : Array Value} {below : List Frame} {meth : Method} {c : Code} {n0 : Nat} {Q : Option Value → Heap → Prop} {h : Heap} {k n : Nat} {Z : State} {own nm : String} {bytes : ByteArray} {ml : Nat} {rt : Option FieldType} {Ls : Array Slot} {st : List Value} {a0 : Array Value}
theorem go_step {f f' : JFrame} (st : ∀ T L, Stand p l e R s m args below meth c T L k n → ∀ t, Steps p.tables e below (T.setTop f') t → Steps p.tables e below (T.setTop f) t) (hr : Go p l e R s m args below meth c n0 Q h k n f') : Go p l e R s m args below meth c n0 Q h k n f := by
  intro T L X eT N
  obtain ⟨s₂, o, S, r⟩ := hr T L X eT N
  exact ⟨s₂, o, st T L X _ S, r⟩
theorem go_mono {f : JFrame} {k' n' : Nat} (hk : k ≤ k') (hn : n ≤ n') (hr : Go p l e R s m args below meth c n0 Q h k' n' f) : Go p l e R s m args below meth c n0 Q h k n f := by
  intro T L X eT N
  exact hr T L (X.more hk hn) eT N
theorem go_post {f : JFrame} {Q' : Option Value → Heap → Prop} (hq : ∀ v h, Q' v h → Q v h) (hr : Go p l e R s m args below meth c n0 Q' h k n f) : Go p l e R s m args below meth c n0 Q h k n f := by
  intro T L X eT N
  obtain ⟨s₂, o, S, r1, r2, v, L', q1, q2, q3⟩ := hr T L X eT N
  exact ⟨s₂, o, S, r1, r2, v, L', q1, ⟨hq _ _ q2.1, q2.2⟩, q3⟩
theorem go_cast {pc : Nat} {k' n' : Nat} {st' : List Value} (q1 : k = k') (q2 : n = n') (q3 : st = st') (hr : Go p l e R s m args below meth c n0 Q h k' n' (mkF m pc Ls st')) : Go p l e R s m args below meth c n0 Q h k n (mkF m pc Ls st) := by subst q1 q2 q3; exact hr
theorem g_iload (K : Kx Z own nm bytes ml rt p s m meth c) (pc : Nat) {i : Nat} {v : Int32} (hd : decode bytes pc = .ok (.iload i, 2)) (hl : Ls[i]? = some (.val (.int v))) (hr : Go p l e R s m args below meth c n0 Q h k n (mkF m (pc + 2) Ls (.int v :: st))) : Go p l e R s m args below meth c n0 Q h k n (mkF m pc Ls st) :=
  go_step (fun T L X t S => XS.iload X.here K.1 rfl (hb K.2.2.2.1 hd) hl S) hr
theorem g_iloadN (K : Kx Z own nm bytes ml rt p s m meth c) (pc : Nat) {i : Fin 4} {v : Int32} (hd : decode bytes pc = .ok (.iload_n i, 1)) (hl : Ls[i.val]? = some (.val (.int v))) (hr : Go p l e R s m args below meth c n0 Q h k n (mkF m (pc + 1) Ls (.int v :: st))) : Go p l e R s m args below meth c n0 Q h k n (mkF m pc Ls st) :=
  go_step (fun T L X t S => XS.iloadN X.here K.1 rfl (hb K.2.2.2.1 hd) hl S) hr
theorem g_lload (K : Kx Z own nm bytes ml rt p s m meth c) (pc : Nat) {i : Nat} {v : Int64} (hd : decode bytes pc = .ok (.lload i, 2)) (hl : Ls[i]? = some (.val (.long v))) (hr : Go p l e R s m args below meth c n0 Q h k n (mkF m (pc + 2) Ls (.long v :: st))) : Go p l e R s m args below meth c n0 Q h k n (mkF m pc Ls st) :=
  go_step (fun T L X t S => XT.lload X.here K.1 rfl (hb K.2.2.2.1 hd) hl S) hr
theorem g_lloadN (K : Kx Z own nm bytes ml rt p s m meth c) (pc : Nat) {i : Fin 4} {v : Int64} (hd : decode bytes pc = .ok (.lload_n i, 1)) (hl : Ls[i.val]? = some (.val (.long v))) (hr : Go p l e R s m args below meth c n0 Q h k n (mkF m (pc + 1) Ls (.long v :: st))) : Go p l e R s m args below meth c n0 Q h k n (mkF m pc Ls st) :=
  go_step (fun T L X t S => XT.lloadN X.here K.1 rfl (hb K.2.2.2.1 hd) hl S) hr
theorem g_aload (K : Kx Z own nm bytes ml rt p s m meth c) (pc : Nat) {i : Nat} {v : Value} (hd : decode bytes pc = .ok (.aload i, 2)) (hl : Ls[i]? = some (.val v)) (hv : v.isRef = true) (hr : Go p l e R s m args below meth c n0 Q h k n (mkF m (pc + 2) Ls (v :: st))) : Go p l e R s m args below meth c n0 Q h k n (mkF m pc Ls st) :=
  go_step (fun T L X t S => XS.aload X.here K.1 rfl (hb K.2.2.2.1 hd) hl hv S) hr
theorem g_aloadN (K : Kx Z own nm bytes ml rt p s m meth c) (pc : Nat) {i : Fin 4} {v : Value} (hd : decode bytes pc = .ok (.aload_n i, 1)) (hl : Ls[i.val]? = some (.val v)) (hv : v.isRef = true) (hr : Go p l e R s m args below meth c n0 Q h k n (mkF m (pc + 1) Ls (v :: st))) : Go p l e R s m args below meth c n0 Q h k n (mkF m pc Ls st) :=
  go_step (fun T L X t S => XS.aloadN X.here K.1 rfl (hb K.2.2.2.1 hd) hl hv S) hr
theorem g_istore (K : Kx Z own nm bytes ml rt p s m meth c) (pc : Nat) {i : Nat} {v : Int32} (l' : Array Slot) (hd : decode bytes pc = .ok (.istore i, 2)) (hl : storeLocals Ls i (.int v) = some l') (hr : Go p l e R s m args below meth c n0 Q h k n (mkF m (pc + 2) l' st)) : Go p l e R s m args below meth c n0 Q h k n (mkF m pc Ls (.int v :: st)) :=
  go_step (fun T L X t S => XS.istore X.here K.1 rfl (hb K.2.2.2.1 hd) rfl hl S) hr
theorem g_istoreN (K : Kx Z own nm bytes ml rt p s m meth c) (pc : Nat) {i : Fin 4} {v : Int32} (l' : Array Slot) (hd : decode bytes pc = .ok (.istore_n i, 1)) (hl : storeLocals Ls i.val (.int v) = some l') (hr : Go p l e R s m args below meth c n0 Q h k n (mkF m (pc + 1) l' st)) : Go p l e R s m args below meth c n0 Q h k n (mkF m pc Ls (.int v :: st)) :=
  go_step (fun T L X t S => XS.istoreN X.here K.1 rfl (hb K.2.2.2.1 hd) rfl hl S) hr
theorem g_lstore (K : Kx Z own nm bytes ml rt p s m meth c) (pc : Nat) {i : Nat} {v : Int64} (l' : Array Slot) (hd : decode bytes pc = .ok (.lstore i, 2)) (hl : storeLocals Ls i (.long v) = some l') (hr : Go p l e R s m args below meth c n0 Q h k n (mkF m (pc + 2) l' st)) : Go p l e R s m args below meth c n0 Q h k n (mkF m pc Ls (.long v :: st)) :=
  go_step (fun T L X t S => XT.lstore X.here K.1 rfl (hb K.2.2.2.1 hd) rfl hl S) hr
theorem g_lstoreN (K : Kx Z own nm bytes ml rt p s m meth c) (pc : Nat) {i : Fin 4} {v : Int64} (l' : Array Slot) (hd : decode bytes pc = .ok (.lstore_n i, 1)) (hl : storeLocals Ls i.val (.long v) = some l') (hr : Go p l e R s m args below meth c n0 Q h k n (mkF m (pc + 1) l' st)) : Go p l e R s m args below meth c n0 Q h k n (mkF m pc Ls (.long v :: st)) :=
  go_step (fun T L X t S => XT.lstoreN X.here K.1 rfl (hb K.2.2.2.1 hd) rfl hl S) hr
theorem g_astore (K : Kx Z own nm bytes ml rt p s m meth c) (pc : Nat) {i : Nat} {v : Value} (l' : Array Slot) (hd : decode bytes pc = .ok (.astore i, 2)) (hv : v.isRef = true) (hl : storeLocals Ls i v = some l') (hr : Go p l e R s m args below meth c n0 Q h k n (mkF m (pc + 2) l' st)) : Go p l e R s m args below meth c n0 Q h k n (mkF m pc Ls (v :: st)) :=
  go_step (fun T L X t S => XS.astore X.here K.1 rfl (hb K.2.2.2.1 hd) rfl hv hl S) hr
theorem g_astoreN (K : Kx Z own nm bytes ml rt p s m meth c) (pc : Nat) {i : Fin 4} {v : Value} (l' : Array Slot) (hd : decode bytes pc = .ok (.astore_n i, 1)) (hv : v.isRef = true) (hl : storeLocals Ls i.val v = some l') (hr : Go p l e R s m args below meth c n0 Q h k n (mkF m (pc + 1) l' st)) : Go p l e R s m args below meth c n0 Q h k n (mkF m pc Ls (v :: st)) :=
  go_step (fun T L X t S => XS.astoreN X.here K.1 rfl (hb K.2.2.2.1 hd) rfl hv hl S) hr
theorem g_iconst (K : Kx Z own nm bytes ml rt p s m meth c) (pc : Nat) {i : Int} (v : Int32) (hd : decode bytes pc = .ok (.iconst i, 1)) (hv : Int32.ofInt i = v) (hr : Go p l e R s m args below meth c n0 Q h k n (mkF m (pc + 1) Ls (.int v :: st))) : Go p l e R s m args below meth c n0 Q h k n (mkF m pc Ls st) :=
  go_step (fun T L X t S => XT.iconstV X.here K.1 rfl v (hb K.2.2.2.1 hd) hv S) hr
theorem g_bipush (K : Kx Z own nm bytes ml rt p s m meth c) (pc : Nat) {i : Int} (v : Int32) (hd : decode bytes pc = .ok (.bipush i, 2)) (hv : (Int8.ofInt i).toInt32 = v) (hr : Go p l e R s m args below meth c n0 Q h k n (mkF m (pc + 2) Ls (.int v :: st))) : Go p l e R s m args below meth c n0 Q h k n (mkF m pc Ls st) :=
  go_step (fun T L X t S => XT.bipushV X.here K.1 rfl v (hb K.2.2.2.1 hd) hv S) hr
theorem g_sipush (K : Kx Z own nm bytes ml rt p s m meth c) (pc : Nat) {i : Int} (v : Int32) (hd : decode bytes pc = .ok (.sipush i, 3)) (hv : (Int16.ofInt i).toInt32 = v) (hr : Go p l e R s m args below meth c n0 Q h k n (mkF m (pc + 3) Ls (.int v :: st))) : Go p l e R s m args below meth c n0 Q h k n (mkF m pc Ls st) :=
  go_step (fun T L X t S => XT.sipushV X.here K.1 rfl v (hb K.2.2.2.1 hd) hv S) hr
theorem g_lconst (K : Kx Z own nm bytes ml rt p s m meth c) (pc : Nat) {i : Fin 2} (v : Int64) (hd : decode bytes pc = .ok (.lconst i, 1)) (hv : Int64.ofNat i = v) (hr : Go p l e R s m args below meth c n0 Q h k n (mkF m (pc + 1) Ls (.long v :: st))) : Go p l e R s m args below meth c n0 Q h k n (mkF m pc Ls st) :=
  go_step (fun T L X t S => XT.lconstV X.here K.1 rfl v (hb K.2.2.2.1 hd) hv S) hr
theorem g_aconst_null (K : Kx Z own nm bytes ml rt p s m meth c) (pc : Nat)  (hd : decode bytes pc = .ok (.aconst_null, 1))  (hr : Go p l e R s m args below meth c n0 Q h k n (mkF m (pc + 1) Ls (.null :: st))) : Go p l e R s m args below meth c n0 Q h k n (mkF m pc Ls st) :=
  go_step (fun T L X t S => XS.aconstNull X.here K.1 rfl (hb K.2.2.2.1 hd)  S) hr
theorem g_iinc (K : Kx Z own nm bytes ml rt p s m meth c) (pc : Nat) {i : Nat} {cst : Int} {x : Int32} (v : Int32) (l' : Array Slot) (hd : decode bytes pc = .ok (.iinc i cst, 3)) (hv : Int32.ofInt cst = v) (hl : Ls[i]? = some (.val (.int x))) (hl' : storeLocals Ls i (.int (x + v)) = some l') (hr : Go p l e R s m args below meth c n0 Q h k n (mkF m (pc + 3) l' st)) : Go p l e R s m args below meth c n0 Q h k n (mkF m pc Ls st) :=
  go_step (fun T L X t S => XT.iincV X.here K.1 rfl v (hb K.2.2.2.1 hd) hv hl hl' S) hr
theorem g_iadd (K : Kx Z own nm bytes ml rt p s m meth c) (pc : Nat) {x y : Int32} (hd : decode bytes pc = .ok (.iadd, 1))  (hr : Go p l e R s m args below meth c n0 Q h k n (mkF m (pc + 1) Ls (.int (x + y) :: st))) : Go p l e R s m args below meth c n0 Q h k n (mkF m pc Ls (.int y :: .int x :: st)) :=
  go_step (fun T L X t S => XS.iadd X.here K.1 rfl (hb K.2.2.2.1 hd) rfl S) hr
theorem g_isub (K : Kx Z own nm bytes ml rt p s m meth c) (pc : Nat) {x y : Int32} (hd : decode bytes pc = .ok (.isub, 1))  (hr : Go p l e R s m args below meth c n0 Q h k n (mkF m (pc + 1) Ls (.int (x - y) :: st))) : Go p l e R s m args below meth c n0 Q h k n (mkF m pc Ls (.int y :: .int x :: st)) :=
  go_step (fun T L X t S => XS.isub X.here K.1 rfl (hb K.2.2.2.1 hd) rfl S) hr
theorem g_imul (K : Kx Z own nm bytes ml rt p s m meth c) (pc : Nat) {x y : Int32} (hd : decode bytes pc = .ok (.imul, 1))  (hr : Go p l e R s m args below meth c n0 Q h k n (mkF m (pc + 1) Ls (.int (x * y) :: st))) : Go p l e R s m args below meth c n0 Q h k n (mkF m pc Ls (.int y :: .int x :: st)) :=
  go_step (fun T L X t S => XS.imul X.here K.1 rfl (hb K.2.2.2.1 hd) rfl S) hr
theorem g_iand (K : Kx Z own nm bytes ml rt p s m meth c) (pc : Nat) {x y : Int32} (hd : decode bytes pc = .ok (.iand, 1))  (hr : Go p l e R s m args below meth c n0 Q h k n (mkF m (pc + 1) Ls (.int (x &&& y) :: st))) : Go p l e R s m args below meth c n0 Q h k n (mkF m pc Ls (.int y :: .int x :: st)) :=
  go_step (fun T L X t S => XS.iand X.here K.1 rfl (hb K.2.2.2.1 hd) rfl S) hr
theorem g_ior (K : Kx Z own nm bytes ml rt p s m meth c) (pc : Nat) {x y : Int32} (hd : decode bytes pc = .ok (.ior, 1))  (hr : Go p l e R s m args below meth c n0 Q h k n (mkF m (pc + 1) Ls (.int (x ||| y) :: st))) : Go p l e R s m args below meth c n0 Q h k n (mkF m pc Ls (.int y :: .int x :: st)) :=
  go_step (fun T L X t S => XT.ior X.here K.1 rfl (hb K.2.2.2.1 hd) rfl S) hr
theorem g_ixor (K : Kx Z own nm bytes ml rt p s m meth c) (pc : Nat) {x y : Int32} (hd : decode bytes pc = .ok (.ixor, 1))  (hr : Go p l e R s m args below meth c n0 Q h k n (mkF m (pc + 1) Ls (.int (x ^^^ y) :: st))) : Go p l e R s m args below meth c n0 Q h k n (mkF m pc Ls (.int y :: .int x :: st)) :=
  go_step (fun T L X t S => XT.ixor X.here K.1 rfl (hb K.2.2.2.1 hd) rfl S) hr
theorem g_ishl (K : Kx Z own nm bytes ml rt p s m meth c) (pc : Nat) {x y : Int32} (hd : decode bytes pc = .ok (.ishl, 1))  (hr : Go p l e R s m args below meth c n0 Q h k n (mkF m (pc + 1) Ls (.int (x <<< (y &&& 31)) :: st))) : Go p l e R s m args below meth c n0 Q h k n (mkF m pc Ls (.int y :: .int x :: st)) :=
  go_step (fun T L X t S => XT.ishl X.here K.1 rfl (hb K.2.2.2.1 hd) rfl S) hr
theorem g_ishr (K : Kx Z own nm bytes ml rt p s m meth c) (pc : Nat) {x y : Int32} (hd : decode bytes pc = .ok (.ishr, 1))  (hr : Go p l e R s m args below meth c n0 Q h k n (mkF m (pc + 1) Ls (.int (x >>> (y &&& 31)) :: st))) : Go p l e R s m args below meth c n0 Q h k n (mkF m pc Ls (.int y :: .int x :: st)) :=
  go_step (fun T L X t S => XT.ishr X.here K.1 rfl (hb K.2.2.2.1 hd) rfl S) hr
theorem g_iushr (K : Kx Z own nm bytes ml rt p s m meth c) (pc : Nat) {x y : Int32} (hd : decode bytes pc = .ok (.iushr, 1))  (hr : Go p l e R s m args below meth c n0 Q h k n (mkF m (pc + 1) Ls (.int (XT.ushr x y) :: st))) : Go p l e R s m args below meth c n0 Q h k n (mkF m pc Ls (.int y :: .int x :: st)) :=
  go_step (fun T L X t S => XT.iushr X.here K.1 rfl (hb K.2.2.2.1 hd) rfl S) hr
theorem g_idiv (K : Kx Z own nm bytes ml rt p s m meth c) (pc : Nat) {x y : Int32} (hd : decode bytes pc = .ok (.idiv, 1)) (hy : y ≠ 0) (hr : Go p l e R s m args below meth c n0 Q h k n (mkF m (pc + 1) Ls (.int (x / y) :: st))) : Go p l e R s m args below meth c n0 Q h k n (mkF m pc Ls (.int y :: .int x :: st)) :=
  go_step (fun T L X t S => XS.idiv X.here K.1 rfl (hb K.2.2.2.1 hd) rfl hy S) hr
theorem g_irem (K : Kx Z own nm bytes ml rt p s m meth c) (pc : Nat) {x y : Int32} (hd : decode bytes pc = .ok (.irem, 1)) (hy : y ≠ 0) (hr : Go p l e R s m args below meth c n0 Q h k n (mkF m (pc + 1) Ls (.int (x % y) :: st))) : Go p l e R s m args below meth c n0 Q h k n (mkF m pc Ls (.int y :: .int x :: st)) :=
  go_step (fun T L X t S => iremM X K.1 rfl (hb K.2.2.2.1 hd) rfl hy S) hr
theorem g_ineg (K : Kx Z own nm bytes ml rt p s m meth c) (pc : Nat) {x : Int32} (hd : decode bytes pc = .ok (.ineg, 1))  (hr : Go p l e R s m args below meth c n0 Q h k n (mkF m (pc + 1) Ls (.int (-x) :: st))) : Go p l e R s m args below meth c n0 Q h k n (mkF m pc Ls (.int x :: st)) :=
  go_step (fun T L X t S => XS.ineg X.here K.1 rfl (hb K.2.2.2.1 hd) rfl S) hr
theorem g_ladd (K : Kx Z own nm bytes ml rt p s m meth c) (pc : Nat) {x y : Int64} (hd : decode bytes pc = .ok (.ladd, 1))  (hr : Go p l e R s m args below meth c n0 Q h k n (mkF m (pc + 1) Ls (.long (x + y) :: st))) : Go p l e R s m args below meth c n0 Q h k n (mkF m pc Ls (.long y :: .long x :: st)) :=
  go_step (fun T L X t S => XT.ladd X.here K.1 rfl (hb K.2.2.2.1 hd) rfl S) hr
theorem g_lsub (K : Kx Z own nm bytes ml rt p s m meth c) (pc : Nat) {x y : Int64} (hd : decode bytes pc = .ok (.lsub, 1))  (hr : Go p l e R s m args below meth c n0 Q h k n (mkF m (pc + 1) Ls (.long (x - y) :: st))) : Go p l e R s m args below meth c n0 Q h k n (mkF m pc Ls (.long y :: .long x :: st)) :=
  go_step (fun T L X t S => XT.lsub X.here K.1 rfl (hb K.2.2.2.1 hd) rfl S) hr
theorem g_lmul (K : Kx Z own nm bytes ml rt p s m meth c) (pc : Nat) {x y : Int64} (hd : decode bytes pc = .ok (.lmul, 1))  (hr : Go p l e R s m args below meth c n0 Q h k n (mkF m (pc + 1) Ls (.long (x * y) :: st))) : Go p l e R s m args below meth c n0 Q h k n (mkF m pc Ls (.long y :: .long x :: st)) :=
  go_step (fun T L X t S => XT.lmul X.here K.1 rfl (hb K.2.2.2.1 hd) rfl S) hr
theorem g_land (K : Kx Z own nm bytes ml rt p s m meth c) (pc : Nat) {x y : Int64} (hd : decode bytes pc = .ok (.land, 1))  (hr : Go p l e R s m args below meth c n0 Q h k n (mkF m (pc + 1) Ls (.long (x &&& y) :: st))) : Go p l e R s m args below meth c n0 Q h k n (mkF m pc Ls (.long y :: .long x :: st)) :=
  go_step (fun T L X t S => XT.land X.here K.1 rfl (hb K.2.2.2.1 hd) rfl S) hr
theorem g_lor (K : Kx Z own nm bytes ml rt p s m meth c) (pc : Nat) {x y : Int64} (hd : decode bytes pc = .ok (.lor, 1))  (hr : Go p l e R s m args below meth c n0 Q h k n (mkF m (pc + 1) Ls (.long (x ||| y) :: st))) : Go p l e R s m args below meth c n0 Q h k n (mkF m pc Ls (.long y :: .long x :: st)) :=
  go_step (fun T L X t S => XT.lor X.here K.1 rfl (hb K.2.2.2.1 hd) rfl S) hr
theorem g_lxor (K : Kx Z own nm bytes ml rt p s m meth c) (pc : Nat) {x y : Int64} (hd : decode bytes pc = .ok (.lxor, 1))  (hr : Go p l e R s m args below meth c n0 Q h k n (mkF m (pc + 1) Ls (.long (x ^^^ y) :: st))) : Go p l e R s m args below meth c n0 Q h k n (mkF m pc Ls (.long y :: .long x :: st)) :=
  go_step (fun T L X t S => XT.lxor X.here K.1 rfl (hb K.2.2.2.1 hd) rfl S) hr
theorem g_ldiv (K : Kx Z own nm bytes ml rt p s m meth c) (pc : Nat) {x y : Int64} (hd : decode bytes pc = .ok (.ldiv, 1)) (hy : y ≠ 0) (hr : Go p l e R s m args below meth c n0 Q h k n (mkF m (pc + 1) Ls (.long (x / y) :: st))) : Go p l e R s m args below meth c n0 Q h k n (mkF m pc Ls (.long y :: .long x :: st)) :=
  go_step (fun T L X t S => XT.ldiv X.here K.1 rfl (hb K.2.2.2.1 hd) rfl hy S) hr
theorem g_lshl (K : Kx Z own nm bytes ml rt p s m meth c) (pc : Nat) {x : Int64} {y : Int32} (hd : decode bytes pc = .ok (.lshl, 1))  (hr : Go p l e R s m args below meth c n0 Q h k n (mkF m (pc + 1) Ls (.long (x <<< (y.toInt64 &&& 63)) :: st))) : Go p l e R s m args below meth c n0 Q h k n (mkF m pc Ls (.int y :: .long x :: st)) :=
  go_step (fun T L X t S => XT.lshl X.here K.1 rfl (hb K.2.2.2.1 hd) rfl S) hr
theorem g_lshr (K : Kx Z own nm bytes ml rt p s m meth c) (pc : Nat) {x : Int64} {y : Int32} (hd : decode bytes pc = .ok (.lshr, 1))  (hr : Go p l e R s m args below meth c n0 Q h k n (mkF m (pc + 1) Ls (.long (x >>> (y.toInt64 &&& 63)) :: st))) : Go p l e R s m args below meth c n0 Q h k n (mkF m pc Ls (.int y :: .long x :: st)) :=
  go_step (fun T L X t S => XT.lshr X.here K.1 rfl (hb K.2.2.2.1 hd) rfl S) hr
theorem g_lushr (K : Kx Z own nm bytes ml rt p s m meth c) (pc : Nat) {x : Int64} {y : Int32} (hd : decode bytes pc = .ok (.lushr, 1))  (hr : Go p l e R s m args below meth c n0 Q h k n (mkF m (pc + 1) Ls (.long (XT.ushrL x y) :: st))) : Go p l e R s m args below meth c n0 Q h k n (mkF m pc Ls (.int y :: .long x :: st)) :=
  go_step (fun T L X t S => XT.lushr X.here K.1 rfl (hb K.2.2.2.1 hd) rfl S) hr
theorem g_lneg (K : Kx Z own nm bytes ml rt p s m meth c) (pc : Nat) {x : Int64} (hd : decode bytes pc = .ok (.lneg, 1))  (hr : Go p l e R s m args below meth c n0 Q h k n (mkF m (pc + 1) Ls (.long (-x) :: st))) : Go p l e R s m args below meth c n0 Q h k n (mkF m pc Ls (.long x :: st)) :=
  go_step (fun T L X t S => XT.lneg X.here K.1 rfl (hb K.2.2.2.1 hd) rfl S) hr
theorem g_i2l (K : Kx Z own nm bytes ml rt p s m meth c) (pc : Nat) {x : Int32} (hd : decode bytes pc = .ok (.i2l, 1))  (hr : Go p l e R s m args below meth c n0 Q h k n (mkF m (pc + 1) Ls (.long x.toInt64 :: st))) : Go p l e R s m args below meth c n0 Q h k n (mkF m pc Ls (.int x :: st)) :=
  go_step (fun T L X t S => XT.i2l X.here K.1 rfl (hb K.2.2.2.1 hd) rfl S) hr
theorem g_l2i (K : Kx Z own nm bytes ml rt p s m meth c) (pc : Nat) {x : Int64} (hd : decode bytes pc = .ok (.l2i, 1))  (hr : Go p l e R s m args below meth c n0 Q h k n (mkF m (pc + 1) Ls (.int x.toInt32 :: st))) : Go p l e R s m args below meth c n0 Q h k n (mkF m pc Ls (.long x :: st)) :=
  go_step (fun T L X t S => XT.l2i X.here K.1 rfl (hb K.2.2.2.1 hd) rfl S) hr
theorem g_i2b (K : Kx Z own nm bytes ml rt p s m meth c) (pc : Nat) {x : Int32} (hd : decode bytes pc = .ok (.i2b, 1))  (hr : Go p l e R s m args below meth c n0 Q h k n (mkF m (pc + 1) Ls (.int x.toInt8.toInt32 :: st))) : Go p l e R s m args below meth c n0 Q h k n (mkF m pc Ls (.int x :: st)) :=
  go_step (fun T L X t S => XT.i2b X.here K.1 rfl (hb K.2.2.2.1 hd) rfl S) hr
theorem g_i2s (K : Kx Z own nm bytes ml rt p s m meth c) (pc : Nat) {x : Int32} (hd : decode bytes pc = .ok (.i2s, 1))  (hr : Go p l e R s m args below meth c n0 Q h k n (mkF m (pc + 1) Ls (.int x.toInt16.toInt32 :: st))) : Go p l e R s m args below meth c n0 Q h k n (mkF m pc Ls (.int x :: st)) :=
  go_step (fun T L X t S => XT.i2s X.here K.1 rfl (hb K.2.2.2.1 hd) rfl S) hr
theorem g_lcmp (K : Kx Z own nm bytes ml rt p s m meth c) (pc : Nat) {x y : Int64} (hd : decode bytes pc = .ok (.lcmp, 1))  (hr : Go p l e R s m args below meth c n0 Q h k n (mkF m (pc + 1) Ls (.int (XT.cmpL x y) :: st))) : Go p l e R s m args below meth c n0 Q h k n (mkF m pc Ls (.long y :: .long x :: st)) :=
  go_step (fun T L X t S => XT.lcmp X.here K.1 rfl (hb K.2.2.2.1 hd) rfl S) hr
theorem g_dup (K : Kx Z own nm bytes ml rt p s m meth c) (pc : Nat) {v : Value} (hd : decode bytes pc = .ok (.dup, 1)) (hc : v.category = 1) (hr : Go p l e R s m args below meth c n0 Q h k n (mkF m (pc + 1) Ls (v :: v :: st))) : Go p l e R s m args below meth c n0 Q h k n (mkF m pc Ls (v :: st)) :=
  go_step (fun T L X t S => XS.dup X.here K.1 rfl (hb K.2.2.2.1 hd) rfl hc S) hr
theorem g_pop (K : Kx Z own nm bytes ml rt p s m meth c) (pc : Nat) {v : Value} (hd : decode bytes pc = .ok (.pop, 1)) (hc : v.category = 1) (hr : Go p l e R s m args below meth c n0 Q h k n (mkF m (pc + 1) Ls st)) : Go p l e R s m args below meth c n0 Q h k n (mkF m pc Ls (v :: st)) :=
  go_step (fun T L X t S => XT.pop X.here K.1 rfl (hb K.2.2.2.1 hd) rfl hc S) hr
theorem g_goto (K : Kx Z own nm bytes ml rt p s m meth c) (pc pc' : Nat) {o : Int} (hd : decode bytes pc = .ok (.goto o, 3)) (ho : 0 ≤ (pc : Int) + o) (hp : ((pc : Int) + o).toNat = pc') (hr : Go p l e R s m args below meth c n0 Q h k n (mkF m pc' Ls st)) : Go p l e R s m args below meth c n0 Q h k n (mkF m pc Ls st) :=
  go_step (fun T L X t S => XS.goto X.here K.1 rfl rfl (hb K.2.2.2.1 hd) ho hp S) hr
theorem g_if_eq (K : Kx Z own nm bytes ml rt p s m meth c) (pc pc' : Nat) {o : Int} {x : Int32} (hd : decode bytes pc = .ok (.ifCond .eq o, 3)) (ho : 0 ≤ (pc : Int) + o) (hp : ((pc : Int) + o).toNat = pc') (hT : x = 0 → Go p l e R s m args below meth c n0 Q h k n (mkF m pc' Ls st)) (hF : ¬ x = 0 → Go p l e R s m args below meth c n0 Q h k n (mkF m (pc + 3) Ls st)) : Go p l e R s m args below meth c n0 Q h k n (mkF m pc Ls (.int x :: st)) := by
  by_cases q : x = 0
  · exact go_step (fun T L X t S => XS.ifYes X.here K.1 rfl rfl (hb K.2.2.2.1 hd) rfl (XT.i0_eq_t q) ho hp S) (hT q)
  · exact go_step (fun T L X t S => XS.ifNo X.here K.1 rfl (hb K.2.2.2.1 hd) rfl (XT.i0_eq_f q) S) (hF q)
theorem g_ii_eq (K : Kx Z own nm bytes ml rt p s m meth c) (pc pc' : Nat) {o : Int} {x y : Int32} (hd : decode bytes pc = .ok (.if_icmp .eq o, 3)) (ho : 0 ≤ (pc : Int) + o) (hp : ((pc : Int) + o).toNat = pc') (hT : x = y → Go p l e R s m args below meth c n0 Q h k n (mkF m pc' Ls st)) (hF : ¬ x = y → Go p l e R s m args below meth c n0 Q h k n (mkF m (pc + 3) Ls st)) : Go p l e R s m args below meth c n0 Q h k n (mkF m pc Ls (.int y :: .int x :: st)) := by
  by_cases q : x = y
  · exact go_step (fun T L X t S => XS.icmpYes X.here K.1 rfl rfl (hb K.2.2.2.1 hd) rfl (XT.ii_eq_t q) ho hp S) (hT q)
  · exact go_step (fun T L X t S => XS.icmpNo X.here K.1 rfl (hb K.2.2.2.1 hd) rfl (XT.ii_eq_f q) S) (hF q)
theorem g_ll_eq (K : Kx Z own nm bytes ml rt p s m meth c) (pc pc' : Nat) {o : Int} {x y : Int64} (hd : decode bytes pc = .ok (.ifCond .eq o, 3)) (ho : 0 ≤ (pc : Int) + o) (hp : ((pc : Int) + o).toNat = pc') (hT : x = y → Go p l e R s m args below meth c n0 Q h k n (mkF m pc' Ls st)) (hF : ¬ x = y → Go p l e R s m args below meth c n0 Q h k n (mkF m (pc + 3) Ls st)) : Go p l e R s m args below meth c n0 Q h k n (mkF m pc Ls (.int (XT.cmpL x y) :: st)) := by
  by_cases q : x = y
  · exact go_step (fun T L X t S => XS.ifYes X.here K.1 rfl rfl (hb K.2.2.2.1 hd) rfl (XT.ll_eq_t q) ho hp S) (hT q)
  · exact go_step (fun T L X t S => XS.ifNo X.here K.1 rfl (hb K.2.2.2.1 hd) rfl (XT.ll_eq_f q) S) (hF q)
theorem g_if_ne (K : Kx Z own nm bytes ml rt p s m meth c) (pc pc' : Nat) {o : Int} {x : Int32} (hd : decode bytes pc = .ok (.ifCond .ne o, 3)) (ho : 0 ≤ (pc : Int) + o) (hp : ((pc : Int) + o).toNat = pc') (hT : ¬ x = 0 → Go p l e R s m args below meth c n0 Q h k n (mkF m pc' Ls st)) (hF : x = 0 → Go p l e R s m args below meth c n0 Q h k n (mkF m (pc + 3) Ls st)) : Go p l e R s m args below meth c n0 Q h k n (mkF m pc Ls (.int x :: st)) := by
  by_cases q : x = 0
  · exact go_step (fun T L X t S => XS.ifNo X.here K.1 rfl (hb K.2.2.2.1 hd) rfl (XT.i0_ne_f q) S) (hF q)
  · exact go_step (fun T L X t S => XS.ifYes X.here K.1 rfl rfl (hb K.2.2.2.1 hd) rfl (XT.i0_ne_t q) ho hp S) (hT q)
theorem g_ii_ne (K : Kx Z own nm bytes ml rt p s m meth c) (pc pc' : Nat) {o : Int} {x y : Int32} (hd : decode bytes pc = .ok (.if_icmp .ne o, 3)) (ho : 0 ≤ (pc : Int) + o) (hp : ((pc : Int) + o).toNat = pc') (hT : ¬ x = y → Go p l e R s m args below meth c n0 Q h k n (mkF m pc' Ls st)) (hF : x = y → Go p l e R s m args below meth c n0 Q h k n (mkF m (pc + 3) Ls st)) : Go p l e R s m args below meth c n0 Q h k n (mkF m pc Ls (.int y :: .int x :: st)) := by
  by_cases q : x = y
  · exact go_step (fun T L X t S => XS.icmpNo X.here K.1 rfl (hb K.2.2.2.1 hd) rfl (XT.ii_ne_f q) S) (hF q)
  · exact go_step (fun T L X t S => XS.icmpYes X.here K.1 rfl rfl (hb K.2.2.2.1 hd) rfl (XT.ii_ne_t q) ho hp S) (hT q)
theorem g_ll_ne (K : Kx Z own nm bytes ml rt p s m meth c) (pc pc' : Nat) {o : Int} {x y : Int64} (hd : decode bytes pc = .ok (.ifCond .ne o, 3)) (ho : 0 ≤ (pc : Int) + o) (hp : ((pc : Int) + o).toNat = pc') (hT : ¬ x = y → Go p l e R s m args below meth c n0 Q h k n (mkF m pc' Ls st)) (hF : x = y → Go p l e R s m args below meth c n0 Q h k n (mkF m (pc + 3) Ls st)) : Go p l e R s m args below meth c n0 Q h k n (mkF m pc Ls (.int (XT.cmpL x y) :: st)) := by
  by_cases q : x = y
  · exact go_step (fun T L X t S => XS.ifNo X.here K.1 rfl (hb K.2.2.2.1 hd) rfl (XT.ll_ne_f q) S) (hF q)
  · exact go_step (fun T L X t S => XS.ifYes X.here K.1 rfl rfl (hb K.2.2.2.1 hd) rfl (XT.ll_ne_t q) ho hp S) (hT q)
theorem g_if_lt (K : Kx Z own nm bytes ml rt p s m meth c) (pc pc' : Nat) {o : Int} {x : Int32} (hd : decode bytes pc = .ok (.ifCond .lt o, 3)) (ho : 0 ≤ (pc : Int) + o) (hp : ((pc : Int) + o).toNat = pc') (hT : x < 0 → Go p l e R s m args below meth c n0 Q h k n (mkF m pc' Ls st)) (hF : ¬ x < 0 → Go p l e R s m args below meth c n0 Q h k n (mkF m (pc + 3) Ls st)) : Go p l e R s m args below meth c n0 Q h k n (mkF m pc Ls (.int x :: st)) := by
  by_cases q : x < 0
  · exact go_step (fun T L X t S => XS.ifYes X.here K.1 rfl rfl (hb K.2.2.2.1 hd) rfl (XT.i0_lt_t q) ho hp S) (hT q)
  · exact go_step (fun T L X t S => XS.ifNo X.here K.1 rfl (hb K.2.2.2.1 hd) rfl (XT.i0_lt_f q) S) (hF q)
theorem g_ii_lt (K : Kx Z own nm bytes ml rt p s m meth c) (pc pc' : Nat) {o : Int} {x y : Int32} (hd : decode bytes pc = .ok (.if_icmp .lt o, 3)) (ho : 0 ≤ (pc : Int) + o) (hp : ((pc : Int) + o).toNat = pc') (hT : x < y → Go p l e R s m args below meth c n0 Q h k n (mkF m pc' Ls st)) (hF : ¬ x < y → Go p l e R s m args below meth c n0 Q h k n (mkF m (pc + 3) Ls st)) : Go p l e R s m args below meth c n0 Q h k n (mkF m pc Ls (.int y :: .int x :: st)) := by
  by_cases q : x < y
  · exact go_step (fun T L X t S => XS.icmpYes X.here K.1 rfl rfl (hb K.2.2.2.1 hd) rfl (XT.ii_lt_t q) ho hp S) (hT q)
  · exact go_step (fun T L X t S => XS.icmpNo X.here K.1 rfl (hb K.2.2.2.1 hd) rfl (XT.ii_lt_f q) S) (hF q)
theorem g_ll_lt (K : Kx Z own nm bytes ml rt p s m meth c) (pc pc' : Nat) {o : Int} {x y : Int64} (hd : decode bytes pc = .ok (.ifCond .lt o, 3)) (ho : 0 ≤ (pc : Int) + o) (hp : ((pc : Int) + o).toNat = pc') (hT : x < y → Go p l e R s m args below meth c n0 Q h k n (mkF m pc' Ls st)) (hF : ¬ x < y → Go p l e R s m args below meth c n0 Q h k n (mkF m (pc + 3) Ls st)) : Go p l e R s m args below meth c n0 Q h k n (mkF m pc Ls (.int (XT.cmpL x y) :: st)) := by
  by_cases q : x < y
  · exact go_step (fun T L X t S => XS.ifYes X.here K.1 rfl rfl (hb K.2.2.2.1 hd) rfl (XT.ll_lt_t q) ho hp S) (hT q)
  · exact go_step (fun T L X t S => XS.ifNo X.here K.1 rfl (hb K.2.2.2.1 hd) rfl (XT.ll_lt_f q) S) (hF q)
theorem g_if_ge (K : Kx Z own nm bytes ml rt p s m meth c) (pc pc' : Nat) {o : Int} {x : Int32} (hd : decode bytes pc = .ok (.ifCond .ge o, 3)) (ho : 0 ≤ (pc : Int) + o) (hp : ((pc : Int) + o).toNat = pc') (hT : ¬ x < 0 → Go p l e R s m args below meth c n0 Q h k n (mkF m pc' Ls st)) (hF : x < 0 → Go p l e R s m args below meth c n0 Q h k n (mkF m (pc + 3) Ls st)) : Go p l e R s m args below meth c n0 Q h k n (mkF m pc Ls (.int x :: st)) := by
  by_cases q : x < 0
  · exact go_step (fun T L X t S => XS.ifNo X.here K.1 rfl (hb K.2.2.2.1 hd) rfl (XT.i0_ge_f q) S) (hF q)
  · exact go_step (fun T L X t S => XS.ifYes X.here K.1 rfl rfl (hb K.2.2.2.1 hd) rfl (XT.i0_ge_t q) ho hp S) (hT q)
theorem g_ii_ge (K : Kx Z own nm bytes ml rt p s m meth c) (pc pc' : Nat) {o : Int} {x y : Int32} (hd : decode bytes pc = .ok (.if_icmp .ge o, 3)) (ho : 0 ≤ (pc : Int) + o) (hp : ((pc : Int) + o).toNat = pc') (hT : ¬ x < y → Go p l e R s m args below meth c n0 Q h k n (mkF m pc' Ls st)) (hF : x < y → Go p l e R s m args below meth c n0 Q h k n (mkF m (pc + 3) Ls st)) : Go p l e R s m args below meth c n0 Q h k n (mkF m pc Ls (.int y :: .int x :: st)) := by
  by_cases q : x < y
  · exact go_step (fun T L X t S => XS.icmpNo X.here K.1 rfl (hb K.2.2.2.1 hd) rfl (XT.ii_ge_f q) S) (hF q)
  · exact go_step (fun T L X t S => XS.icmpYes X.here K.1 rfl rfl (hb K.2.2.2.1 hd) rfl (XT.ii_ge_t q) ho hp S) (hT q)
theorem g_ll_ge (K : Kx Z own nm bytes ml rt p s m meth c) (pc pc' : Nat) {o : Int} {x y : Int64} (hd : decode bytes pc = .ok (.ifCond .ge o, 3)) (ho : 0 ≤ (pc : Int) + o) (hp : ((pc : Int) + o).toNat = pc') (hT : ¬ x < y → Go p l e R s m args below meth c n0 Q h k n (mkF m pc' Ls st)) (hF : x < y → Go p l e R s m args below meth c n0 Q h k n (mkF m (pc + 3) Ls st)) : Go p l e R s m args below meth c n0 Q h k n (mkF m pc Ls (.int (XT.cmpL x y) :: st)) := by
  by_cases q : x < y
  · exact go_step (fun T L X t S => XS.ifNo X.here K.1 rfl (hb K.2.2.2.1 hd) rfl (XT.ll_ge_f q) S) (hF q)
  · exact go_step (fun T L X t S => XS.ifYes X.here K.1 rfl rfl (hb K.2.2.2.1 hd) rfl (XT.ll_ge_t q) ho hp S) (hT q)
theorem g_if_gt (K : Kx Z own nm bytes ml rt p s m meth c) (pc pc' : Nat) {o : Int} {x : Int32} (hd : decode bytes pc = .ok (.ifCond .gt o, 3)) (ho : 0 ≤ (pc : Int) + o) (hp : ((pc : Int) + o).toNat = pc') (hT : 0 < x → Go p l e R s m args below meth c n0 Q h k n (mkF m pc' Ls st)) (hF : ¬ 0 < x → Go p l e R s m args below meth c n0 Q h k n (mkF m (pc + 3) Ls st)) : Go p l e R s m args below meth c n0 Q h k n (mkF m pc Ls (.int x :: st)) := by
  by_cases q : 0 < x
  · exact go_step (fun T L X t S => XS.ifYes X.here K.1 rfl rfl (hb K.2.2.2.1 hd) rfl (XT.i0_gt_t q) ho hp S) (hT q)
  · exact go_step (fun T L X t S => XS.ifNo X.here K.1 rfl (hb K.2.2.2.1 hd) rfl (XT.i0_gt_f q) S) (hF q)
theorem g_ii_gt (K : Kx Z own nm bytes ml rt p s m meth c) (pc pc' : Nat) {o : Int} {x y : Int32} (hd : decode bytes pc = .ok (.if_icmp .gt o, 3)) (ho : 0 ≤ (pc : Int) + o) (hp : ((pc : Int) + o).toNat = pc') (hT : y < x → Go p l e R s m args below meth c n0 Q h k n (mkF m pc' Ls st)) (hF : ¬ y < x → Go p l e R s m args below meth c n0 Q h k n (mkF m (pc + 3) Ls st)) : Go p l e R s m args below meth c n0 Q h k n (mkF m pc Ls (.int y :: .int x :: st)) := by
  by_cases q : y < x
  · exact go_step (fun T L X t S => XS.icmpYes X.here K.1 rfl rfl (hb K.2.2.2.1 hd) rfl (XT.ii_gt_t q) ho hp S) (hT q)
  · exact go_step (fun T L X t S => XS.icmpNo X.here K.1 rfl (hb K.2.2.2.1 hd) rfl (XT.ii_gt_f q) S) (hF q)
theorem g_ll_gt (K : Kx Z own nm bytes ml rt p s m meth c) (pc pc' : Nat) {o : Int} {x y : Int64} (hd : decode bytes pc = .ok (.ifCond .gt o, 3)) (ho : 0 ≤ (pc : Int) + o) (hp : ((pc : Int) + o).toNat = pc') (hT : y < x → Go p l e R s m args below meth c n0 Q h k n (mkF m pc' Ls st)) (hF : ¬ y < x → Go p l e R s m args below meth c n0 Q h k n (mkF m (pc + 3) Ls st)) : Go p l e R s m args below meth c n0 Q h k n (mkF m pc Ls (.int (XT.cmpL x y) :: st)) := by
  by_cases q : y < x
  · exact go_step (fun T L X t S => XS.ifYes X.here K.1 rfl rfl (hb K.2.2.2.1 hd) rfl (XT.ll_gt_t q) ho hp S) (hT q)
  · exact go_step (fun T L X t S => XS.ifNo X.here K.1 rfl (hb K.2.2.2.1 hd) rfl (XT.ll_gt_f q) S) (hF q)
theorem g_if_le (K : Kx Z own nm bytes ml rt p s m meth c) (pc pc' : Nat) {o : Int} {x : Int32} (hd : decode bytes pc = .ok (.ifCond .le o, 3)) (ho : 0 ≤ (pc : Int) + o) (hp : ((pc : Int) + o).toNat = pc') (hT : ¬ 0 < x → Go p l e R s m args below meth c n0 Q h k n (mkF m pc' Ls st)) (hF : 0 < x → Go p l e R s m args below meth c n0 Q h k n (mkF m (pc + 3) Ls st)) : Go p l e R s m args below meth c n0 Q h k n (mkF m pc Ls (.int x :: st)) := by
  by_cases q : 0 < x
  · exact go_step (fun T L X t S => XS.ifNo X.here K.1 rfl (hb K.2.2.2.1 hd) rfl (XT.i0_le_f q) S) (hF q)
  · exact go_step (fun T L X t S => XS.ifYes X.here K.1 rfl rfl (hb K.2.2.2.1 hd) rfl (XT.i0_le_t q) ho hp S) (hT q)
theorem g_ii_le (K : Kx Z own nm bytes ml rt p s m meth c) (pc pc' : Nat) {o : Int} {x y : Int32} (hd : decode bytes pc = .ok (.if_icmp .le o, 3)) (ho : 0 ≤ (pc : Int) + o) (hp : ((pc : Int) + o).toNat = pc') (hT : ¬ y < x → Go p l e R s m args below meth c n0 Q h k n (mkF m pc' Ls st)) (hF : y < x → Go p l e R s m args below meth c n0 Q h k n (mkF m (pc + 3) Ls st)) : Go p l e R s m args below meth c n0 Q h k n (mkF m pc Ls (.int y :: .int x :: st)) := by
  by_cases q : y < x
  · exact go_step (fun T L X t S => XS.icmpNo X.here K.1 rfl (hb K.2.2.2.1 hd) rfl (XT.ii_le_f q) S) (hF q)
  · exact go_step (fun T L X t S => XS.icmpYes X.here K.1 rfl rfl (hb K.2.2.2.1 hd) rfl (XT.ii_le_t q) ho hp S) (hT q)
theorem g_ll_le (K : Kx Z own nm bytes ml rt p s m meth c) (pc pc' : Nat) {o : Int} {x y : Int64} (hd : decode bytes pc = .ok (.ifCond .le o, 3)) (ho : 0 ≤ (pc : Int) + o) (hp : ((pc : Int) + o).toNat = pc') (hT : ¬ y < x → Go p l e R s m args below meth c n0 Q h k n (mkF m pc' Ls st)) (hF : y < x → Go p l e R s m args below meth c n0 Q h k n (mkF m (pc + 3) Ls st)) : Go p l e R s m args below meth c n0 Q h k n (mkF m pc Ls (.int (XT.cmpL x y) :: st)) := by
  by_cases q : y < x
  · exact go_step (fun T L X t S => XS.ifNo X.here K.1 rfl (hb K.2.2.2.1 hd) rfl (XT.ll_le_f q) S) (hF q)
  · exact go_step (fun T L X t S => XS.ifYes X.here K.1 rfl rfl (hb K.2.2.2.1 hd) rfl (XT.ll_le_t q) ho hp S) (hT q)
theorem g_aa_eq (K : Kx Z own nm bytes ml rt p s m meth c) (pc pc' : Nat) {o : Int} {x y : Value} (hx' : x.isRef = true) (hy' : y.isRef = true) (hd : decode bytes pc = .ok (.if_acmp .eq o, 3)) (ho : 0 ≤ (pc : Int) + o) (hp : ((pc : Int) + o).toNat = pc') (hT : x = y → Go p l e R s m args below meth c n0 Q h k n (mkF m pc' Ls st)) (hF : ¬ x = y → Go p l e R s m args below meth c n0 Q h k n (mkF m (pc + 3) Ls st)) : Go p l e R s m args below meth c n0 Q h k n (mkF m pc Ls (y :: x :: st)) := by
  by_cases q : x = y
  · exact go_step (fun T L X t S => XT.acmpYes X.here K.1 rfl rfl (hb K.2.2.2.1 hd) rfl hx' hy' (XT.aa_eq_t q) ho hp S) (hT q)
  · exact go_step (fun T L X t S => XT.acmpNo X.here K.1 rfl (hb K.2.2.2.1 hd) rfl hx' hy' (XT.aa_eq_f q) S) (hF q)
theorem g_aa_ne (K : Kx Z own nm bytes ml rt p s m meth c) (pc pc' : Nat) {o : Int} {x y : Value} (hx' : x.isRef = true) (hy' : y.isRef = true) (hd : decode bytes pc = .ok (.if_acmp .ne o, 3)) (ho : 0 ≤ (pc : Int) + o) (hp : ((pc : Int) + o).toNat = pc') (hT : ¬ x = y → Go p l e R s m args below meth c n0 Q h k n (mkF m pc' Ls st)) (hF : x = y → Go p l e R s m args below meth c n0 Q h k n (mkF m (pc + 3) Ls st)) : Go p l e R s m args below meth c n0 Q h k n (mkF m pc Ls (y :: x :: st)) := by
  by_cases q : x = y
  · exact go_step (fun T L X t S => XT.acmpNo X.here K.1 rfl (hb K.2.2.2.1 hd) rfl hx' hy' (XT.aa_ne_f q) S) (hF q)
  · exact go_step (fun T L X t S => XT.acmpYes X.here K.1 rfl rfl (hb K.2.2.2.1 hd) rfl hx' hy' (XT.aa_ne_t q) ho hp S) (hT q)
theorem g_ifnull_ref (K : Kx Z own nm bytes ml rt p s m meth c) (pc : Nat) {o : Int} {b : Addr} (hd : decode bytes pc = .ok (.ifnull o, 3)) (hr : Go p l e R s m args below meth c n0 Q h k n (mkF m (pc + 3) Ls st)) : Go p l e R s m args below meth c n0 Q h k n (mkF m pc Ls (.ref b :: st)) :=
  go_step (fun T L X t S => XS.ifnullNo X.here K.1 rfl (hb K.2.2.2.1 hd) rfl S) hr
theorem g_ifnull_null (K : Kx Z own nm bytes ml rt p s m meth c) (pc pc' : Nat) {o : Int} (hd : decode bytes pc = .ok (.ifnull o, 3)) (ho : 0 ≤ (pc : Int) + o) (hp : ((pc : Int) + o).toNat = pc') (hr : Go p l e R s m args below meth c n0 Q h k n (mkF m pc' Ls st)) : Go p l e R s m args below meth c n0 Q h k n (mkF m pc Ls (.null :: st)) :=
  go_step (fun T L X t S => XS.ifnullYes X.here K.1 rfl rfl (hb K.2.2.2.1 hd) rfl ho hp S) hr
theorem g_ldc (K : Kx Z own nm bytes ml rt p s m meth c) (pc : Nat) {i : Nat} {v : Int32} (hd : decode bytes pc = .ok (.ldc i, 2)) (w : (Jvm.Cond.constant own i v).before a0 Z = true) (hr : Go p l e R s m args below meth c n0 Q h k n (mkF m (pc + 2) Ls (.int v :: st))) : Go p l e R s m args below meth c n0 Q h k n (mkF m pc Ls st) :=
  go_step (fun T L X t S => X.ldcI K.1 K.2.2.1 (mvT K.2.1 w) rfl (hb K.2.2.2.1 hd) S) hr
theorem g_ldc_w (K : Kx Z own nm bytes ml rt p s m meth c) (pc : Nat) {i : Nat} {v : Int32} (hd : decode bytes pc = .ok (.ldc_w i, 3)) (w : (Jvm.Cond.constant own i v).before a0 Z = true) (hr : Go p l e R s m args below meth c n0 Q h k n (mkF m (pc + 3) Ls (.int v :: st))) : Go p l e R s m args below meth c n0 Q h k n (mkF m pc Ls st) :=
  go_step (fun T L X t S => X.ldcWI K.1 K.2.2.1 (mvT K.2.1 w) rfl (hb K.2.2.2.1 hd) S) hr
theorem g_ldc2_w (K : Kx Z own nm bytes ml rt p s m meth c) (pc : Nat) {i : Nat} {v : Int64} (hd : decode bytes pc = .ok (.ldc2_w i, 3)) (w : (Jvm.Cond.constantLong own i v).before a0 Z = true) (hr : Go p l e R s m args below meth c n0 Q h k n (mkF m (pc + 3) Ls (.long v :: st))) : Go p l e R s m args below meth c n0 Q h k n (mkF m pc Ls st) :=
  go_step (fun T L X t S => X.ldc2J K.1 K.2.2.1 (mvT K.2.1 w) rfl (hb K.2.2.2.1 hd) S) hr
theorem g_ireturn (K : Kx Z own nm bytes ml rt p s m meth c) (pc : Nat) {z : Int32} (hd : decode bytes pc = .ok (.ireturn, 1)) (hrt : rt = some .int)  (hk : k ≤ R.cells) (hn : n ≤ R.slots) (hq : Q (some (.int z)) h) : Go p l e R s m args below meth c n0 Q h k n (mkF m pc Ls [.int z]) := by
  intro T L X eT N
  obtain ⟨fs, hr, hrun, hended, hW, hsame⟩ := X.leave (v := some (.int z)) (fun hh => by first | rfl | (rw [K.2.2.2.2.2.1, hrt] at hh; cases hh)) K.2.2.2.2.2.2.1
  refine ⟨_, _, X.ireturnOut K.1 (K.2.2.2.2.2.1.trans hrt) rfl (Or.inl rfl) (hb K.2.2.2.1 hd) hr, hrun, hended, _, L, rfl, ⟨?_, N⟩, ⟨_, rfl⟩, hW, hsame.mono hk hn⟩
  show Q _ T.heap
  rw [eT]; exact hq
theorem g_retN (K : Kx Z own nm bytes ml rt p s m meth c) (pc : Nat) {z : Int32} (t : FieldType) (hd : decode bytes pc = .ok (.ireturn, 1)) (hrt : rt = some t) (ht : t = .boolean ∨ t = .byte ∨ t = .char ∨ t = .short) (hk : k ≤ R.cells) (hn : n ≤ R.slots) (hq : Q (some (.int (nar t z))) h) : Go p l e R s m args below meth c n0 Q h k n (mkF m pc Ls (.int z :: st)) := by
  intro T L X eT N
  obtain ⟨fs, hr, hrun, hended, hW, hsame⟩ := X.leave (v := some (.int (nar t z))) (fun hh => by first | rfl | (rw [K.2.2.2.2.2.1, hrt] at hh; cases hh)) K.2.2.2.2.2.2.1
  refine ⟨_, _, retN X K.1 (K.2.2.2.2.2.1.trans hrt) ht (hb K.2.2.2.1 hd) hr, hrun, hended, _, L, rfl, ⟨?_, N⟩, ⟨_, rfl⟩, hW, hsame.mono hk hn⟩
  show Q _ T.heap
  rw [eT]; exact hq
theorem g_lreturn (K : Kx Z own nm bytes ml rt p s m meth c) (pc : Nat) {z : Int64} (hd : decode bytes pc = .ok (.lreturn, 1)) (hrt : rt = some .long)  (hk : k ≤ R.cells) (hn : n ≤ R.slots) (hq : Q (some (.long z)) h) : Go p l e R s m args below meth c n0 Q h k n (mkF m pc Ls [.long z]) := by
  intro T L X eT N
  obtain ⟨fs, hr, hrun, hended, hW, hsame⟩ := X.leave (v := some (.long z)) (fun hh => by first | rfl | (rw [K.2.2.2.2.2.1, hrt] at hh; cases hh)) K.2.2.2.2.2.2.1
  refine ⟨_, _, X.lreturnOut K.1 (K.2.2.2.2.2.1.trans hrt) (hb K.2.2.2.1 hd) hr, hrun, hended, _, L, rfl, ⟨?_, N⟩, ⟨_, rfl⟩, hW, hsame.mono hk hn⟩
  show Q _ T.heap
  rw [eT]; exact hq
theorem g_areturn (K : Kx Z own nm bytes ml rt p s m meth c) (pc : Nat) {w : Value} (t : FieldType) (hd : decode bytes pc = .ok (.areturn, 1)) (hrt : rt = some t) (hw : w.isRef = true) (ht : t.isReference = true) (hk : k ≤ R.cells) (hn : n ≤ R.slots) (hq : Q (some w) h) : Go p l e R s m args below meth c n0 Q h k n (mkF m pc Ls [w]) := by
  intro T L X eT N
  obtain ⟨fs, hr, hrun, hended, hW, hsame⟩ := X.leave (v := some w) (fun hh => by first | rfl | (rw [K.2.2.2.2.2.1, hrt] at hh; cases hh)) K.2.2.2.2.2.2.1
  refine ⟨_, _, X.areturnOut K.1 hw (K.2.2.2.2.2.1.trans hrt) ht (hb K.2.2.2.1 hd) hr, hrun, hended, _, L, rfl, ⟨?_, N⟩, ⟨_, rfl⟩, hW, hsame.mono hk hn⟩
  show Q _ T.heap
  rw [eT]; exact hq
theorem g_return (K : Kx Z own nm bytes ml rt p s m meth c) (pc : Nat)  (hd : decode bytes pc = .ok (.return_, 1)) (hrt : rt = none)  (hk : k ≤ R.cells) (hn : n ≤ R.slots) (hq : Q none h) : Go p l e R s m args below meth c n0 Q h k n (mkF m pc Ls []) := by
  intro T L X eT N
  obtain ⟨fs, hr, hrun, hended, hW, hsame⟩ := X.leave (v := none) (fun hh => by first | rfl | (rw [K.2.2.2.2.2.1, hrt] at hh; cases hh)) K.2.2.2.2.2.2.1
  refine ⟨_, _, X.returnOut K.1 (K.2.2.2.2.2.1.trans hrt) (hb K.2.2.2.1 hd) hr, hrun, hended, _, L, rfl, ⟨?_, N⟩, ⟨_, rfl⟩, hW, hsame.mono hk hn⟩
  show Q _ T.heap
  rw [eT]; exact hq
theorem g_getfield (K : Kx Z own nm bytes ml rt p s m meth c) (pc : Nat) {i : Nat} {C f d : String} {a : Addr} {v : Value} (hd : decode bytes pc = .ok (.getfield i, 3)) (w : (Jvm.Cond.fieldLink own i C f d).before a0 Z = true) (F : Fld Z h a C f d v) (hr : Go p l e R s m args below meth c n0 Q h k n (mkF m (pc + 3) Ls (v :: st))) : Go p l e R s m args below meth c n0 Q h k n (mkF m pc Ls (.ref a :: st)) := by
  intro T L X eT N
  obtain ⟨T', X', e', stp⟩ := getF X K.1 K.2.1 K.2.2.1 (host := "") (Or.inl w) Via.refl eT F (g := mkF m pc Ls (.ref a :: st)) rfl rfl (hb K.2.2.2.1 hd)
  obtain ⟨s₂, o, S, r⟩ := hr T' L X' e' N
  exact ⟨s₂, o, stp _ S, r⟩
theorem g_putfield (K : Kx Z own nm bytes ml rt p s m meth c) (pc : Nat) {i kk : Nat} {C f d : String} {a : Addr} {v old : Value} (ty : FieldType) (hd : decode bytes pc = .ok (.putfield i, 3)) (w : (Jvm.Cond.fieldLink own i C f d).before a0 Z = true) (F : Fld Z h a C f d old) (E : Exa Z h a C) (Lw : (Jvm.Cond.lays C C f d).before a0 Z = true ∨ ((Jvm.Cond.laysFinal C C f d).before a0 Z = true ∧ own = C ∧ nm = "<init>")) (wi : (Jvm.Cond.instantiable C kk).before a0 Z = true) (hty : parseFieldDescriptor d = some ty) (hnv : narrow ty v = v) (hfv : fits ty v = true) (ha : n0 ≤ a) (hr : ∀ h', Wr h h' a (Jvm.RoadKit.slotOf Z C f d) v → Keep h h' [a] → Go p l e R s m args below meth c n0 Q h' k n (mkF m (pc + 3) Ls st)) : Go p l e R s m args below meth c n0 Q h k n (mkF m pc Ls (v :: .ref a :: st)) := by
  intro T L X eT N
  obtain ⟨T', h', X', e', W, stp⟩ := putF X K.1 K.2.1 K.2.2.1 (host := "") (Or.inl w) Via.refl eT F E (Lw.imp id fun q => ⟨q.1, q.2.1, K.2.2.2.2.2.2.2.trans q.2.2⟩) wi hty hnv hfv (g := mkF m pc Ls (v :: .ref a :: st)) rfl rfl (hb K.2.2.2.1 hd)
  obtain ⟨s₂, o, S, r⟩ := hr h' W (Keep.of_wr W) T' _ X' e' (Fr.snoc X' N ha)
  exact ⟨s₂, o, stp _ S, r⟩
theorem g_new (K : Kx Z own nm bytes ml rt p s m meth c) (pc : Nat) {i kk : Nat} {C : String} (hd : decode bytes pc = .ok (.new i, 3)) (w : (Jvm.Cond.classLink own i C).before a0 Z = true) (wi : (Jvm.Cond.instantiable C kk).before a0 Z = true) (wz : (Jvm.Cond.initialized C).before a0 Z = true) (hk : k + 1 ≤ R.cells) (hn : n + kk ≤ R.slots) (hr : ∀ h' a, a = h.size → Keep h h' [] → Exa Z h' a C → (∀ {O f d : String} {ty : FieldType}, Laid Z a0 C O f d → parseFieldDescriptor d = some ty → Fld Z h' a O f d (defaultValue ty)) → Go p l e R s m args below meth c n0 Q h' (k + 1) (n + kk) (mkF m (pc + 3) Ls (.ref a :: st))) : Go p l e R s m args below meth c n0 Q h k n (mkF m pc Ls st) := by
  intro T L X eT N
  obtain ⟨T', h', X', e', E, A, D, -, stp⟩ := newO X K.1 K.2.1 K.2.2.1 w wi wz eT (g := mkF m pc Ls st) rfl (hb K.2.2.2.1 hd) hk hn
  obtain ⟨s₂, o, S, r⟩ := hr h' h.size rfl (keep_ext E) A D T' L X' e' N
  exact ⟨s₂, o, stp _ S, r⟩
theorem g_initO (K : Kx Z own nm bytes ml rt p s m meth c) (pc : Nat) {i : Nat} {a : Addr} (hd : decode bytes pc = .ok (.invokespecial i, 3)) (w1 : (Jvm.Cond.methodLink own i Lib.objectInit).before a0 Z = true) (w2 : (Jvm.Cond.instanceMethod Lib.objectInit).before a0 Z = true) (w3 : (Jvm.Cond.code Lib.objectInit ⟨#[0xb1]⟩ 1 none).before a0 Z = true) (hls : Ls.size = ml) (hf : 1 ≤ R.frames) (W : Nat) (hW : (st.map fun v => v.category).sum ≤ W) (hlo : W + 12 ≤ R.locals) (hr : Go p l e R s m args below meth c n0 Q h k n (mkF m (pc + 3) Ls st)) : Go p l e R s m args below meth c n0 Q h k n (mkF m pc Ls (.ref a :: st)) := by
  intro T L X eT N
  obtain ⟨T', X', e', stp⟩ := initO X K.1 K.2.1 K.2.2.1 w1 w2 w3 eT (g := mkF m pc Ls (.ref a :: st)) rfl (hls.trans K.2.2.2.2.1.symm) rfl (hb K.2.2.2.1 hd) hf (W := W) (by show 2 * 0 + _ ≤ _; omega) hlo
  obtain ⟨s₂, o, S, r⟩ := hr T' L X' e' N
  exact ⟨s₂, o, stp _ S, r⟩
theorem g_newI (K : Kx Z own nm bytes ml rt p s m meth c) (pc : Nat) {aty : ArrayType} {z : Int32} (ty : FieldType) (hd : decode bytes pc = .ok (.newarray aty, 2)) (hty : newarray.typeOf aty = ty) (hdef : defaultValue ty = .int 0) (w : (Jvm.Cond.arrayClass ty).before a0 Z = true) (hz : ¬ z < 0) (cap : Nat) (hcap : z.toNatClampNeg ≤ cap) (hb8 : cap * 8 ≤ 536870912) (hk : k + 1 ≤ R.cells) (hn : n + cap ≤ R.slots) (hr : ∀ h' a, a = h.size → Keep h h' [] → IA Z h' a ty (List.replicate z.toNatClampNeg 0) → Go p l e R s m args below meth c n0 Q h' (k + 1) (n + cap) (mkF m (pc + 2) Ls (.ref a :: st))) : Go p l e R s m args below meth c n0 Q h k n (mkF m pc Ls (.int z :: st)) := by
  subst hty
  intro T L X eT N
  obtain ⟨T', h', cA, X', e', E, A, stp⟩ := newP X K.1 K.2.1 w eT (g := mkF m pc Ls (.int z :: st)) rfl (hb K.2.2.2.1 hd) rfl hz hcap hb8 hk hn
  obtain ⟨s₂, o, S, r⟩ := hr h' h.size rfl (keep_ext E) ⟨_, A, by simp [newA, hdef]⟩ T' L X' e' N
  exact ⟨s₂, o, stp _ S, r⟩
theorem g_newJ (K : Kx Z own nm bytes ml rt p s m meth c) (pc : Nat) {z : Int32} (hd : decode bytes pc = .ok (.newarray .long, 2)) (w : (Jvm.Cond.arrayClass .long).before a0 Z = true) (hz : ¬ z < 0) (cap : Nat) (hcap : z.toNatClampNeg ≤ cap) (hb8 : cap * 8 ≤ 536870912) (hk : k + 1 ≤ R.cells) (hn : n + cap ≤ R.slots) (hr : ∀ h' a, a = h.size → Keep h h' [] → LA Z h' a (List.replicate z.toNatClampNeg 0) → Go p l e R s m args below meth c n0 Q h' (k + 1) (n + cap) (mkF m (pc + 2) Ls (.ref a :: st))) : Go p l e R s m args below meth c n0 Q h k n (mkF m pc Ls (.int z :: st)) := by
  intro T L X eT N
  obtain ⟨T', h', cA, X', e', E, A, stp⟩ := newP X K.1 K.2.1 (aty := .long) w eT (g := mkF m pc Ls (.int z :: st)) rfl (hb K.2.2.2.1 hd) rfl hz hcap hb8 hk hn
  obtain ⟨s₂, o, S, r⟩ := hr h' h.size rfl (keep_ext E) ⟨_, A, by simp [newA, defaultValue, newarray.typeOf]⟩ T' L X' e' N
  exact ⟨s₂, o, stp _ S, r⟩
theorem g_iaload (K : Kx Z own nm bytes ml rt p s m meth c) (pc : Nat) {a : Addr} {xs : List Int32} {j : Int32} (v : Int32) (hd : decode bytes pc = .ok (.iaload, 1)) (F : IA Z h a .int xs) (hj : ¬ j < 0) (hv : xs[j.toNatClampNeg]? = some v) (hr : Go p l e R s m args below meth c n0 Q h k n (mkF m (pc + 1) Ls (.int v :: st))) : Go p l e R s m args below meth c n0 Q h k n (mkF m pc Ls (.int j :: .ref a :: st)) := by
  intro T L X eT N
  obtain ⟨cl, A, es⟩ := F
  obtain ⟨s₂, o, S, r⟩ := hr T L X eT N
  have hlt : j.toNatClampNeg < xs.length := (List.getElem?_eq_some_iff.mp hv).1
  refine ⟨s₂, o, X.iaload K.1 (j := j) (v := (.int v)) (by rw [eT]; exact A.1) (State.isArrayOf_alike K.2.1.alike A.2.1) A.2.2 (own_clamp hj hlt (by simp [es])) (by rw [es]; simp [hv]) (g := mkF m pc Ls (.int j :: .ref a :: st)) rfl rfl (hb K.2.2.2.1 hd) _ S, r⟩
theorem g_baload (K : Kx Z own nm bytes ml rt p s m meth c) (pc : Nat) {a : Addr} {xs : List Int32} {j : Int32} (v : Int32) (hd : decode bytes pc = .ok (.baload, 1)) (F : IA Z h a .byte xs) (hj : ¬ j < 0) (hv : xs[j.toNatClampNeg]? = some v) (hr : Go p l e R s m args below meth c n0 Q h k n (mkF m (pc + 1) Ls (.int v :: st))) : Go p l e R s m args below meth c n0 Q h k n (mkF m pc Ls (.int j :: .ref a :: st)) := by
  intro T L X eT N
  obtain ⟨cl, A, es⟩ := F
  obtain ⟨s₂, o, S, r⟩ := hr T L X eT N
  have hlt : j.toNatClampNeg < xs.length := (List.getElem?_eq_some_iff.mp hv).1
  refine ⟨s₂, o, X.baloadBytes K.1 (j := j) (v := (.int v)) (by rw [eT]; exact A.1) (State.isArrayOf_alike K.2.1.alike A.2.1) A.2.2 (own_clamp hj hlt (by simp [es])) (by rw [es]; simp [hv]) (g := mkF m pc Ls (.int j :: .ref a :: st)) rfl rfl (hb K.2.2.2.1 hd) _ S, r⟩
theorem g_zaload (K : Kx Z own nm bytes ml rt p s m meth c) (pc : Nat) {a : Addr} {xs : List Int32} {j : Int32} (v : Int32) (hd : decode bytes pc = .ok (.baload, 1)) (F : IA Z h a .boolean xs) (hj : ¬ j < 0) (hv : xs[j.toNatClampNeg]? = some v) (hr : Go p l e R s m args below meth c n0 Q h k n (mkF m (pc + 1) Ls (.int v :: st))) : Go p l e R s m args below meth c n0 Q h k n (mkF m pc Ls (.int j :: .ref a :: st)) := by
  intro T L X eT N
  obtain ⟨cl, A, es⟩ := F
  obtain ⟨s₂, o, S, r⟩ := hr T L X eT N
  have hlt : j.toNatClampNeg < xs.length := (List.getElem?_eq_some_iff.mp hv).1
  refine ⟨s₂, o, X.baloadBooleans K.1 (j := j) (v := (.int v)) (by rw [eT]; exact A.1) (State.isArrayOf_alike K.2.1.alike A.2.1) A.2.2 (own_clamp hj hlt (by simp [es])) (by rw [es]; simp [hv]) (g := mkF m pc Ls (.int j :: .ref a :: st)) rfl rfl (hb K.2.2.2.1 hd) _ S, r⟩
theorem g_saload (K : Kx Z own nm bytes ml rt p s m meth c) (pc : Nat) {a : Addr} {xs : List Int32} {j : Int32} (v : Int32) (hd : decode bytes pc = .ok (.saload, 1)) (F : IA Z h a .short xs) (hj : ¬ j < 0) (hv : xs[j.toNatClampNeg]? = some v) (hr : Go p l e R s m args below meth c n0 Q h k n (mkF m (pc + 1) Ls (.int v :: st))) : Go p l e R s m args below meth c n0 Q h k n (mkF m pc Ls (.int j :: .ref a :: st)) := by
  intro T L X eT N
  obtain ⟨cl, A, es⟩ := F
  obtain ⟨s₂, o, S, r⟩ := hr T L X eT N
  have hlt : j.toNatClampNeg < xs.length := (List.getElem?_eq_some_iff.mp hv).1
  refine ⟨s₂, o, X.saload K.1 (j := j) (v := (.int v)) (by rw [eT]; exact A.1) (State.isArrayOf_alike K.2.1.alike A.2.1) A.2.2 (own_clamp hj hlt (by simp [es])) (by rw [es]; simp [hv]) (g := mkF m pc Ls (.int j :: .ref a :: st)) rfl rfl (hb K.2.2.2.1 hd) _ S, r⟩
theorem g_laload (K : Kx Z own nm bytes ml rt p s m meth c) (pc : Nat) {a : Addr} {xs : List Int64} {j : Int32} (v : Int64) (hd : decode bytes pc = .ok (.laload, 1)) (F : LA Z h a xs) (hj : ¬ j < 0) (hv : xs[j.toNatClampNeg]? = some v) (hr : Go p l e R s m args below meth c n0 Q h k n (mkF m (pc + 1) Ls (.long v :: st))) : Go p l e R s m args below meth c n0 Q h k n (mkF m pc Ls (.int j :: .ref a :: st)) := by
  intro T L X eT N
  obtain ⟨cl, A, es⟩ := F
  obtain ⟨s₂, o, S, r⟩ := hr T L X eT N
  have hlt : j.toNatClampNeg < xs.length := (List.getElem?_eq_some_iff.mp hv).1
  refine ⟨s₂, o, X.laload K.1 (j := j) (v := (.long v)) (by rw [eT]; exact A.1) (State.isArrayOf_alike K.2.1.alike A.2.1) A.2.2 (own_clamp hj hlt (by simp [es])) (by rw [es]; simp [hv]) (g := mkF m pc Ls (.int j :: .ref a :: st)) rfl rfl (hb K.2.2.2.1 hd) _ S, r⟩
theorem g_iastore (K : Kx Z own nm bytes ml rt p s m meth c) (pc : Nat) {a : Addr} {xs : List Int32} {j : Int32} {x : Int32} (hd : decode bytes pc = .ok (.iastore, 1)) (F : IA Z h a .int xs) (hj : ¬ j < 0) (hlt : j.toNatClampNeg < xs.length) (ha : n0 ≤ a) (hr : ∀ h', Keep h h' [a] → IA Z h' a .int (xs.set j.toNatClampNeg (x)) → Go p l e R s m args below meth c n0 Q h' k n (mkF m (pc + 1) Ls st)) : Go p l e R s m args below meth c n0 Q h k n (mkF m pc Ls (.int x :: .int j :: .ref a :: st)) := by
  intro T L X eT N
  have F' := F
  obtain ⟨cl, A, es⟩ := F
  obtain ⟨T', h', X', e', W, stp⟩ := stI X K.1 K.2.1 eT A (j := j) (x := x) (own_clamp hj hlt (by simp [es])) (g := mkF m pc Ls (.int x :: .int j :: .ref a :: st)) rfl rfl (hb K.2.2.2.1 hd)
  obtain ⟨s₂, o, S, r⟩ := hr h' (Keep.of_wr W) (F'.set W) T' _ X' e' (Fr.snoc X' N ha)
  exact ⟨s₂, o, stp _ S, r⟩
theorem g_bastore (K : Kx Z own nm bytes ml rt p s m meth c) (pc : Nat) {a : Addr} {xs : List Int32} {j : Int32} {x : Int32} (hd : decode bytes pc = .ok (.bastore, 1)) (F : IA Z h a .byte xs) (hj : ¬ j < 0) (hlt : j.toNatClampNeg < xs.length) (ha : n0 ≤ a) (hr : ∀ h', Keep h h' [a] → IA Z h' a .byte (xs.set j.toNatClampNeg (nar .byte x)) → Go p l e R s m args below meth c n0 Q h' k n (mkF m (pc + 1) Ls st)) : Go p l e R s m args below meth c n0 Q h k n (mkF m pc Ls (.int x :: .int j :: .ref a :: st)) := by
  intro T L X eT N
  have F' := F
  obtain ⟨cl, A, es⟩ := F
  obtain ⟨T', h', X', e', W, stp⟩ := stB X K.1 K.2.1 eT A (j := j) (x := x) (own_clamp hj hlt (by simp [es])) (g := mkF m pc Ls (.int x :: .int j :: .ref a :: st)) rfl rfl (hb K.2.2.2.1 hd)
  obtain ⟨s₂, o, S, r⟩ := hr h' (Keep.of_wr W) (F'.set W) T' _ X' e' (Fr.snoc X' N ha)
  exact ⟨s₂, o, stp _ S, r⟩
theorem g_zastore (K : Kx Z own nm bytes ml rt p s m meth c) (pc : Nat) {a : Addr} {xs : List Int32} {j : Int32} {x : Int32} (hd : decode bytes pc = .ok (.bastore, 1)) (F : IA Z h a .boolean xs) (hj : ¬ j < 0) (hlt : j.toNatClampNeg < xs.length) (ha : n0 ≤ a) (hr : ∀ h', Keep h h' [a] → IA Z h' a .boolean (xs.set j.toNatClampNeg (nar .boolean x)) → Go p l e R s m args below meth c n0 Q h' k n (mkF m (pc + 1) Ls st)) : Go p l e R s m args below meth c n0 Q h k n (mkF m pc Ls (.int x :: .int j :: .ref a :: st)) := by
  intro T L X eT N
  have F' := F
  obtain ⟨cl, A, es⟩ := F
  obtain ⟨T', h', X', e', W, stp⟩ := stZ X K.1 K.2.1 eT A (j := j) (x := x) (own_clamp hj hlt (by simp [es])) (g := mkF m pc Ls (.int x :: .int j :: .ref a :: st)) rfl rfl (hb K.2.2.2.1 hd)
  obtain ⟨s₂, o, S, r⟩ := hr h' (Keep.of_wr W) (F'.set W) T' _ X' e' (Fr.snoc X' N ha)
  exact ⟨s₂, o, stp _ S, r⟩
theorem g_sastore (K : Kx Z own nm bytes ml rt p s m meth c) (pc : Nat) {a : Addr} {xs : List Int32} {j : Int32} {x : Int32} (hd : decode bytes pc = .ok (.sastore, 1)) (F : IA Z h a .short xs) (hj : ¬ j < 0) (hlt : j.toNatClampNeg < xs.length) (ha : n0 ≤ a) (hr : ∀ h', Keep h h' [a] → IA Z h' a .short (xs.set j.toNatClampNeg (nar .short x)) → Go p l e R s m args below meth c n0 Q h' k n (mkF m (pc + 1) Ls st)) : Go p l e R s m args below meth c n0 Q h k n (mkF m pc Ls (.int x :: .int j :: .ref a :: st)) := by
  intro T L X eT N
  have F' := F
  obtain ⟨cl, A, es⟩ := F
  obtain ⟨T', h', X', e', W, stp⟩ := stS X K.1 K.2.1 eT A (j := j) (x := x) (own_clamp hj hlt (by simp [es])) (g := mkF m pc Ls (.int x :: .int j :: .ref a :: st)) rfl rfl (hb K.2.2.2.1 hd)
  obtain ⟨s₂, o, S, r⟩ := hr h' (Keep.of_wr W) (F'.set W) T' _ X' e' (Fr.snoc X' N ha)
  exact ⟨s₂, o, stp _ S, r⟩
theorem g_lastore (K : Kx Z own nm bytes ml rt p s m meth c) (pc : Nat) {a : Addr} {xs : List Int64} {j : Int32} {x : Int64} (hd : decode bytes pc = .ok (.lastore, 1)) (F : LA Z h a xs) (hj : ¬ j < 0) (hlt : j.toNatClampNeg < xs.length) (ha : n0 ≤ a) (hr : ∀ h', Keep h h' [a] → LA Z h' a (xs.set j.toNatClampNeg (x)) → Go p l e R s m args below meth c n0 Q h' k n (mkF m (pc + 1) Ls st)) : Go p l e R s m args below meth c n0 Q h k n (mkF m pc Ls (.long x :: .int j :: .ref a :: st)) := by
  intro T L X eT N
  have F' := F
  obtain ⟨cl, A, es⟩ := F
  obtain ⟨T', h', X', e', W, stp⟩ := stJ X K.1 K.2.1 eT A (j := j) (x := x) (own_clamp hj hlt (by simp [es])) (g := mkF m pc Ls (.long x :: .int j :: .ref a :: st)) rfl rfl (hb K.2.2.2.1 hd)
  obtain ⟨s₂, o, S, r⟩ := hr h' (Keep.of_wr W) (F'.set W) T' _ X' e' (Fr.snoc X' N ha)
  exact ⟨s₂, o, stp _ S, r⟩
theorem g_alen (K : Kx Z own nm bytes ml rt p s m meth c) (pc : Nat) {a : Addr} {ty : FieldType} {xs : List Int32} (v : Int32) (hd : decode bytes pc = .ok (.arraylength, 1)) (F : IA Z h a ty xs) (hv : xs.length.toInt32 = v) (hr : Go p l e R s m args below meth c n0 Q h k n (mkF m (pc + 1) Ls (.int v :: st))) : Go p l e R s m args below meth c n0 Q h k n (mkF m pc Ls (.ref a :: st)) := by
  intro T L X eT N
  obtain ⟨cl, A, es⟩ := F
  obtain ⟨s₂, o, S, r⟩ := hr T L X eT N
  have hq : cl.slots.size.toInt32 = v := by rw [es]; simpa using hv
  refine ⟨s₂, o, X.arraylength K.1 (cell := cl) (by rw [eT]; exact A.1) (State.isArrayOf_alike K.2.1.alike A.2.1) (g := mkF m pc Ls (.ref a :: st)) rfl (rest := st) rfl (hb K.2.2.2.1 hd) _ ?_, r⟩
  rw [hq]; exact S
theorem g_callS (K : Kx Z own nm bytes ml rt p s m meth c) (pc : Nat) {i : Nat} {y : MethodName} {b2 : ByteArray} {ml2 : Nat} {rt2 : Option FieldType} {rm : Room} {Q' : Option Value → Heap → Prop} {sig : MethodDescriptor} {S0 : List Value} (argsL : List Value) (W : Nat) (hd : decode bytes pc = .ok (.invokestatic i, 3))
    (M : Meets l y b2 ml2 rt2 rm Z argsL.toArray h n0 Q') (wl : (Jvm.Cond.methodLink own i y).before a0 Z = true) (ws : (Jvm.Cond.static y).before a0 Z = true) (wz : (Jvm.Cond.initialized y.cls).before a0 Z = true) (wc : (Jvm.Cond.code y b2 ml2 rt2).before a0 Z = true) (hy : y.cls ≠ "java/lang/invoke/MethodHandle" ∧ y.cls ≠ "java/lang/invoke/VarHandle")
    (hpd : parseMethodDescriptor y.desc = some sig) (hlen : argsL.length = sig.parameters.length) (hS : S0 = argsL.reverse ++ st) (hW : (st.map fun v => v.category).sum ≤ W) (hls : Ls.size = ml) (hf : rm.frames + 1 ≤ R.frames) (hlo : W + (ml2 + 11) + rm.locals ≤ R.locals) (hk : k + rm.cells ≤ R.cells) (hn : n + rm.slots ≤ R.slots)
    (hr : ∀ v h', Q' v h' → Go p l e R s m args below meth c n0 Q h' (k + rm.cells) (n + rm.slots) (mkF m (pc + 3) Ls (v.toList ++ st))) : Go p l e R s m args below meth c n0 Q h k n (mkF m pc Ls S0) := by
  subst hS
  intro T L X eT N
  obtain ⟨v, vm₁, ⟨T', L', k', n'⟩, -, X', ⟨L2, hQ, l1, y1, z1⟩, stp⟩ := Jvm.LawKit.callS X K.1 (y := y) K.2.2.1 (mvT K.2.1 wl) (mvT K.2.1 ws) (mvT K.2.1 wz) (mvT K.2.1 wc) hy (backOf (W := W) (Q := fun v h L => Q' v h ∧ Fr n0 L) (M []) K.2.1 wc wz hf hlo) (g := mkF m pc Ls (argsL.reverse ++ st)) rfl (hls.trans K.2.2.2.2.1.symm) (argsL := argsL) (rest := st) (fun sg h => by cases hpd.symm.trans h; exact hlen) rfl (by show 2 * 0 + _ ≤ _; omega) (hb K.2.2.2.1 hd) (fun _ _ => ⟨rfl, eT, hk, hn⟩)
  dsimp only [Pt.U, Pt.locs, Pt.cells, Pt.slots] at X' l1 y1 z1 stp hQ
  subst l1 y1 z1
  obtain ⟨s₂, o, S, r⟩ := hr v _ hQ.1 T' _ X' rfl (Fr.app N hQ.2)
  exact ⟨s₂, o, stp _ S, r⟩
theorem g_callN (K : Kx Z own nm bytes ml rt p s m meth c) (pc : Nat) {i : Nat} {y : MethodName} {b2 : ByteArray} {ml2 : Nat} {rm : Room} {Q' : Option Value → Heap → Prop} {sig : MethodDescriptor} {S0 : List Value} {a : Addr} (argsL : List Value) (W : Nat) (hd : decode bytes pc = .ok (.invokespecial i, 3))
    (M : Meets l y b2 ml2 none rm Z (.ref a :: argsL).toArray h n0 Q') (hy1 : y.name = "<init>") (wl : (Jvm.Cond.methodLink own i y).before a0 Z = true) (wi : (Jvm.Cond.instanceMethod y).before a0 Z = true) (wz : (Jvm.Cond.initialized y.cls).before a0 Z = true) (wc : (Jvm.Cond.code y b2 ml2 none).before a0 Z = true) (hy : y.cls ≠ "java/lang/invoke/MethodHandle" ∧ y.cls ≠ "java/lang/invoke/VarHandle")
    (hpd : parseMethodDescriptor y.desc = some sig) (hlen : argsL.length = sig.parameters.length) (hS : S0 = argsL.reverse ++ .ref a :: st) (hW : (st.map fun v => v.category).sum ≤ W) (hls : Ls.size = ml) (hf : rm.frames + 1 ≤ R.frames) (hlo : W + (ml2 + 11) + rm.locals ≤ R.locals) (hk : k + rm.cells ≤ R.cells) (hn : n + rm.slots ≤ R.slots)
    (hr : ∀ v h', Q' v h' → Go p l e R s m args below meth c n0 Q h' (k + rm.cells) (n + rm.slots) (mkF m (pc + 3) Ls (v.toList ++ st))) : Go p l e R s m args below meth c n0 Q h k n (mkF m pc Ls S0) := by
  subst hS
  intro T L X eT N
  obtain ⟨v, vm₁, ⟨T', L', k', n'⟩, -, X', ⟨L2, hQ, l1, y1, z1⟩, stp⟩ := X.specialBack K.1 (y := y) hy1 K.2.2.1 (mvT K.2.1 wl) (mvT K.2.1 wi) (mvT K.2.1 wc) hy (backOf (W := W) (Q := fun v h L => Q' v h ∧ Fr n0 L) (M []) K.2.1 wc wz hf hlo) (g := mkF m pc Ls (argsL.reverse ++ .ref a :: st)) rfl (hls.trans K.2.2.2.2.1.symm) (Steps.refl _) (a := a) (argsL := argsL) (rest := st) (fun sg h => by cases hpd.symm.trans h; exact hlen) rfl (by show 2 * 0 + _ ≤ _; omega) (hb K.2.2.2.1 hd) (fun _ _ => ⟨rfl, eT, hk, hn⟩)
  dsimp only [Pt.U, Pt.locs, Pt.cells, Pt.slots] at X' l1 y1 z1 stp hQ
  subst l1 y1 z1
  obtain ⟨s₂, o, S, r⟩ := hr v _ hQ.1 T' _ X' rfl (Fr.app N hQ.2)
  exact ⟨s₂, o, stp.trans S, r⟩
theorem g_callV (K : Kx Z own nm bytes ml rt p s m meth c) (pc : Nat) {i : Nat} {y z : MethodName} {C : String} {b2 : ByteArray} {ml2 : Nat} {rt2 : Option FieldType} {rm : Room} {Q' : Option Value → Heap → Prop} {sig : MethodDescriptor} {S0 : List Value} {a : Addr} (argsL : List Value) (W : Nat) (hd : decode bytes pc = .ok (.invokevirtual i, 3))
    (M : Meets l z b2 ml2 rt2 rm Z (.ref a :: argsL).toArray h n0 Q') (E : Exa Z h a C) (wl : (Jvm.Cond.methodLink own i y).before a0 Z = true) (wd : (Jvm.Cond.declares y).before a0 Z = true) (wsel : (Jvm.Cond.selects C y z).before a0 Z = true) (wself : (Jvm.Cond.selects y.cls y y).before a0 Z = true) (wi : (Jvm.Cond.instanceMethod z).before a0 Z = true) (wz : (Jvm.Cond.initialized z.cls).before a0 Z = true) (wc : (Jvm.Cond.code z b2 ml2 rt2).before a0 Z = true) (hy : y.cls ≠ "java/lang/invoke/MethodHandle" ∧ y.cls ≠ "java/lang/invoke/VarHandle")
    (hpd : parseMethodDescriptor y.desc = some sig) (hlen : argsL.length = sig.parameters.length) (hS : S0 = argsL.reverse ++ .ref a :: st) (hW : (st.map fun v => v.category).sum ≤ W) (hls : Ls.size = ml) (hf : rm.frames + 1 ≤ R.frames) (hlo : W + (ml2 + 11) + rm.locals ≤ R.locals) (hk : k + rm.cells ≤ R.cells) (hn : n + rm.slots ≤ R.slots)
    (hr : ∀ v h', Q' v h' → Go p l e R s m args below meth c n0 Q h' (k + rm.cells) (n + rm.slots) (mkF m (pc + 3) Ls (v.toList ++ st))) : Go p l e R s m args below meth c n0 Q h k n (mkF m pc Ls S0) := by
  subst hS
  intro T L X eT N
  obtain ⟨cB, kB, q1, q2, q3⟩ := isOf K.2.1 eT E
  obtain ⟨v, vm₁, ⟨T', L', k', n'⟩, -, X', ⟨L2, hQ, l1, y1, z1⟩, stp⟩ := X.virtualBack K.1 (y := y) (z := z) K.2.2.1 (mvT K.2.1 wl) (mvT K.2.1 wd) (notFace_of_selects (args := #[]) (mvT K.2.1 wself)) (mvT K.2.1 wsel) (mvT K.2.1 wi) hy (backOf (W := W) (Q := fun v h L => Q' v h ∧ Fr n0 L) (M []) K.2.1 wc wz hf hlo) q1 q3 (g := mkF m pc Ls (argsL.reverse ++ .ref a :: st)) rfl (hls.trans K.2.2.2.2.1.symm) (Steps.refl _) (argsL := argsL) (rest := st) (fun sg h => by cases hpd.symm.trans h; exact hlen) rfl (by show 2 * 0 + _ ≤ _; omega) (hb K.2.2.2.1 hd) (fun _ _ => ⟨rfl, eT, hk, hn⟩)
  dsimp only [Pt.U, Pt.locs, Pt.cells, Pt.slots] at X' l1 y1 z1 stp hQ
  subst l1 y1 z1
  obtain ⟨s₂, o, S, r⟩ := hr v _ hQ.1 T' _ X' rfl (Fr.app N hQ.2)
  exact ⟨s₂, o, stp.trans S, r⟩
end GoSteps
theorem meets_of {l : Launch} {y : MethodName} {bytes : ByteArray} {ml : Nat} {rt : Option FieldType} {rm : Room} {Z : State} {as : Array Value} {h0 : Heap} {n0 : Nat} {Q : Option Value → Heap → Prop} (hx : plainFor y = true) {Ls : Array Slot} (hef : ∀ m, entryFrame m as ml = mkF m 0 Ls [])
    (body : ∀ p e s m below meth c, Kx Z y.cls y.name bytes ml rt p s m meth c → Go p l e rm s m as below meth c n0 Q h0 0 0 (mkF m 0 Ls [])) : Meets l y bytes ml rt rm Z as h0 n0 Q := by
  intro ws
  refine MetFree.of_bodySF hx hisR ?_
  intro p e s m args below meth c s₁ Bd hml0 hP hK
  obtain ⟨rfl, hZ, hh⟩ := hP
  have X0 : Stand p l e rm s m args below meth c s₁ [] 0 0 := Stand.of_body Bd
  have e0 : s₁.heap = h0 := by rw [← hh, Bd.state]; rfl
  obtain ⟨s₂, o, S, r1, r2, r3⟩ := body p e s m below meth c ⟨Bd.exec, hZ, findClass_of_methodNamed Bd.named, Bd.bytes, hml0, Bd.returns, Bd.notSynchronized, (name_of_methodNamed Bd.named Bd.method).1⟩ s₁ [] X0 e0 (Fr.nil n0)
  exact ⟨s₂, o, castTop (hef m) S, r1, r2, r3⟩
theorem tw {a0 : Array Value} {Z : State} {ts : List Jvm.Cond} (hw : ∀ d ∈ ts, d.before a0 Z = true) (i : Nat) {d : Jvm.Cond} (q : ts[i]? = some d) : d.before a0 Z = true := hw _ (List.mem_of_getElem? q)
theorem pn0 : plainName "com/example/batchwright/batchwright/producer/Partitioner" = true := by first | (simp [plainName, overriddenIn]; done) | decide +kernel
theorem pd0 : parseMethodDescriptor "([B)I" = some ⟨[(.array .byte)], some .int⟩ := by decide +kernel
theorem pn1 : plainName "com/example/batchwright/batchwright/producer/PartitionerMurmur2PinLaw" = true := by first | (simp [plainName, overriddenIn]; done) | decide +kernel
theorem pd1 : parseMethodDescriptor "(I)I" = some ⟨[.int], some .int⟩ := by decide +kernel
theorem pd2 : parseMethodDescriptor "(IJI)Z" = some ⟨[.int, .long, .int], some .boolean⟩ := by decide +kernel
theorem d1_0 : decode prog_29_method_3_code 0 = .ok (.aload_n 0, 1) := by decide +kernel
theorem d1_1 : decode prog_29_method_3_code 1 = .ok (.arraylength, 1) := by decide +kernel
theorem d1_2 : decode prog_29_method_3_code 2 = .ok (.istore_n 1, 1) := by decide +kernel
theorem d1_3 : decode prog_29_method_3_code 3 = .ok (.iload_n 1, 1) := by decide +kernel
theorem d1_4 : decode prog_29_method_3_code 4 = .ok (.iload_n 1, 1) := by decide +kernel
theorem d1_5 : decode prog_29_method_3_code 5 = .ok (.iconst 4, 1) := by decide +kernel
theorem d1_6 : decode prog_29_method_3_code 6 = .ok (.irem, 1) := by decide +kernel
theorem d1_7 : decode prog_29_method_3_code 7 = .ok (.isub, 1) := by decide +kernel
theorem d1_8 : decode prog_29_method_3_code 8 = .ok (.istore_n 2, 1) := by decide +kernel
theorem d1_9 : decode prog_29_method_3_code 9 = .ok (.ldc 14, 2) := by decide +kernel
theorem d1_11 : decode prog_29_method_3_code 11 = .ok (.iload_n 1, 1) := by decide +kernel
theorem d1_12 : decode prog_29_method_3_code 12 = .ok (.ixor, 1) := by decide +kernel
theorem d1_13 : decode prog_29_method_3_code 13 = .ok (.istore_n 3, 1) := by decide +kernel
theorem d1_14 : decode prog_29_method_3_code 14 = .ok (.iconst 0, 1) := by decide +kernel
theorem d1_15 : decode prog_29_method_3_code 15 = .ok (.istore 4, 2) := by decide +kernel
theorem d1_17 : decode prog_29_method_3_code 17 = .ok (.iload 4, 2) := by decide +kernel
theorem d1_19 : decode prog_29_method_3_code 19 = .ok (.iload_n 2, 1) := by decide +kernel
theorem d1_20 : decode prog_29_method_3_code 20 = .ok (.if_icmp .ge 95, 3) := by decide +kernel
theorem d1_23 : decode prog_29_method_3_code 23 = .ok (.aload_n 0, 1) := by decide +kernel
theorem d1_24 : decode prog_29_method_3_code 24 = .ok (.iload 4, 2) := by decide +kernel
theorem d1_26 : decode prog_29_method_3_code 26 = .ok (.baload, 1) := by decide +kernel
theorem d1_27 : decode prog_29_method_3_code 27 = .ok (.sipush 255, 3) := by decide +kernel
theorem d1_30 : decode prog_29_method_3_code 30 = .ok (.iand, 1) := by decide +kernel
theorem d1_31 : decode prog_29_method_3_code 31 = .ok (.aload_n 0, 1) := by decide +kernel
theorem d1_32 : decode prog_29_method_3_code 32 = .ok (.iload 4, 2) := by decide +kernel
theorem d1_34 : decode prog_29_method_3_code 34 = .ok (.iconst 1, 1) := by decide +kernel
theorem d1_35 : decode prog_29_method_3_code 35 = .ok (.iadd, 1) := by decide +kernel
theorem d1_36 : decode prog_29_method_3_code 36 = .ok (.baload, 1) := by decide +kernel
theorem d1_37 : decode prog_29_method_3_code 37 = .ok (.sipush 255, 3) := by decide +kernel
theorem d1_40 : decode prog_29_method_3_code 40 = .ok (.iand, 1) := by decide +kernel
theorem d1_41 : decode prog_29_method_3_code 41 = .ok (.bipush 8, 2) := by decide +kernel
theorem d1_43 : decode prog_29_method_3_code 43 = .ok (.ishl, 1) := by decide +kernel
theorem d1_44 : decode prog_29_method_3_code 44 = .ok (.ior, 1) := by decide +kernel
theorem d1_45 : decode prog_29_method_3_code 45 = .ok (.aload_n 0, 1) := by decide +kernel
theorem d1_46 : decode prog_29_method_3_code 46 = .ok (.iload 4, 2) := by decide +kernel
theorem d1_48 : decode prog_29_method_3_code 48 = .ok (.iconst 2, 1) := by decide +kernel
theorem d1_49 : decode prog_29_method_3_code 49 = .ok (.iadd, 1) := by decide +kernel
theorem d1_50 : decode prog_29_method_3_code 50 = .ok (.baload, 1) := by decide +kernel
theorem d1_51 : decode prog_29_method_3_code 51 = .ok (.sipush 255, 3) := by decide +kernel
theorem d1_54 : decode prog_29_method_3_code 54 = .ok (.iand, 1) := by decide +kernel
theorem d1_55 : decode prog_29_method_3_code 55 = .ok (.bipush 16, 2) := by decide +kernel
theorem d1_57 : decode prog_29_method_3_code 57 = .ok (.ishl, 1) := by decide +kernel
theorem d1_58 : decode prog_29_method_3_code 58 = .ok (.ior, 1) := by decide +kernel
theorem d1_59 : decode prog_29_method_3_code 59 = .ok (.aload_n 0, 1) := by decide +kernel
theorem d1_60 : decode prog_29_method_3_code 60 = .ok (.iload 4, 2) := by decide +kernel
theorem d1_62 : decode prog_29_method_3_code 62 = .ok (.iconst 3, 1) := by decide +kernel
theorem d1_63 : decode prog_29_method_3_code 63 = .ok (.iadd, 1) := by decide +kernel
theorem d1_64 : decode prog_29_method_3_code 64 = .ok (.baload, 1) := by decide +kernel
theorem d1_65 : decode prog_29_method_3_code 65 = .ok (.sipush 255, 3) := by decide +kernel
theorem d1_68 : decode prog_29_method_3_code 68 = .ok (.iand, 1) := by decide +kernel
theorem d1_69 : decode prog_29_method_3_code 69 = .ok (.bipush 24, 2) := by decide +kernel
theorem d1_71 : decode prog_29_method_3_code 71 = .ok (.ishl, 1) := by decide +kernel
theorem d1_72 : decode prog_29_method_3_code 72 = .ok (.ior, 1) := by decide +kernel
theorem d1_73 : decode prog_29_method_3_code 73 = .ok (.istore 5, 2) := by decide +kernel
theorem d1_75 : decode prog_29_method_3_code 75 = .ok (.iload 5, 2) := by decide +kernel
theorem d1_77 : decode prog_29_method_3_code 77 = .ok (.ldc 15, 2) := by decide +kernel
theorem d1_79 : decode prog_29_method_3_code 79 = .ok (.imul, 1) := by decide +kernel
theorem d1_80 : decode prog_29_method_3_code 80 = .ok (.istore 5, 2) := by decide +kernel
theorem d1_82 : decode prog_29_method_3_code 82 = .ok (.iload 5, 2) := by decide +kernel
theorem d1_84 : decode prog_29_method_3_code 84 = .ok (.iload 5, 2) := by decide +kernel
theorem d1_86 : decode prog_29_method_3_code 86 = .ok (.bipush 24, 2) := by decide +kernel
theorem d1_88 : decode prog_29_method_3_code 88 = .ok (.iushr, 1) := by decide +kernel
theorem d1_89 : decode prog_29_method_3_code 89 = .ok (.ixor, 1) := by decide +kernel
theorem d1_90 : decode prog_29_method_3_code 90 = .ok (.istore 5, 2) := by decide +kernel
theorem d1_92 : decode prog_29_method_3_code 92 = .ok (.iload 5, 2) := by decide +kernel
theorem d1_94 : decode prog_29_method_3_code 94 = .ok (.ldc 15, 2) := by decide +kernel
theorem d1_96 : decode prog_29_method_3_code 96 = .ok (.imul, 1) := by decide +kernel
theorem d1_97 : decode prog_29_method_3_code 97 = .ok (.istore 5, 2) := by decide +kernel
theorem d1_99 : decode prog_29_method_3_code 99 = .ok (.iload_n 3, 1) := by decide +kernel
theorem d1_100 : decode prog_29_method_3_code 100 = .ok (.ldc 15, 2) := by decide +kernel
theorem d1_102 : decode prog_29_method_3_code 102 = .ok (.imul, 1) := by decide +kernel
theorem d1_103 : decode prog_29_method_3_code 103 = .ok (.istore_n 3, 1) := by decide +kernel
theorem d1_104 : decode prog_29_method_3_code 104 = .ok (.iload_n 3, 1) := by decide +kernel
theorem d1_105 : decode prog_29_method_3_code 105 = .ok (.iload 5, 2) := by decide +kernel
theorem d1_107 : decode prog_29_method_3_code 107 = .ok (.ixor, 1) := by decide +kernel
theorem d1_108 : decode prog_29_method_3_code 108 = .ok (.istore_n 3, 1) := by decide +kernel
theorem d1_109 : decode prog_29_method_3_code 109 = .ok (.iinc 4 4, 3) := by decide +kernel
theorem d1_112 : decode prog_29_method_3_code 112 = .ok (.goto (-95), 3) := by decide +kernel
theorem d1_115 : decode prog_29_method_3_code 115 = .ok (.iload_n 1, 1) := by decide +kernel
theorem d1_116 : decode prog_29_method_3_code 116 = .ok (.iload_n 2, 1) := by decide +kernel
theorem d1_117 : decode prog_29_method_3_code 117 = .ok (.isub, 1) := by decide +kernel
theorem d1_118 : decode prog_29_method_3_code 118 = .ok (.istore 4, 2) := by decide +kernel
theorem d1_120 : decode prog_29_method_3_code 120 = .ok (.iload 4, 2) := by decide +kernel
theorem d1_122 : decode prog_29_method_3_code 122 = .ok (.iconst 3, 1) := by decide +kernel
theorem d1_123 : decode prog_29_method_3_code 123 = .ok (.if_icmp .ne 18, 3) := by decide +kernel
theorem d1_126 : decode prog_29_method_3_code 126 = .ok (.iload_n 3, 1) := by decide +kernel
theorem d1_127 : decode prog_29_method_3_code 127 = .ok (.aload_n 0, 1) := by decide +kernel
theorem d1_128 : decode prog_29_method_3_code 128 = .ok (.iload_n 2, 1) := by decide +kernel
theorem d1_129 : decode prog_29_method_3_code 129 = .ok (.iconst 2, 1) := by decide +kernel
theorem d1_130 : decode prog_29_method_3_code 130 = .ok (.iadd, 1) := by decide +kernel
theorem d1_131 : decode prog_29_method_3_code 131 = .ok (.baload, 1) := by decide +kernel
theorem d1_132 : decode prog_29_method_3_code 132 = .ok (.sipush 255, 3) := by decide +kernel
theorem d1_135 : decode prog_29_method_3_code 135 = .ok (.iand, 1) := by decide +kernel
theorem d1_136 : decode prog_29_method_3_code 136 = .ok (.bipush 16, 2) := by decide +kernel
theorem d1_138 : decode prog_29_method_3_code 138 = .ok (.ishl, 1) := by decide +kernel
theorem d1_139 : decode prog_29_method_3_code 139 = .ok (.ixor, 1) := by decide +kernel
theorem d1_140 : decode prog_29_method_3_code 140 = .ok (.istore_n 3, 1) := by decide +kernel
theorem d1_141 : decode prog_29_method_3_code 141 = .ok (.iload 4, 2) := by decide +kernel
theorem d1_143 : decode prog_29_method_3_code 143 = .ok (.iconst 2, 1) := by decide +kernel
theorem d1_144 : decode prog_29_method_3_code 144 = .ok (.if_icmp .lt 18, 3) := by decide +kernel
theorem d1_147 : decode prog_29_method_3_code 147 = .ok (.iload_n 3, 1) := by decide +kernel
theorem d1_148 : decode prog_29_method_3_code 148 = .ok (.aload_n 0, 1) := by decide +kernel
theorem d1_149 : decode prog_29_method_3_code 149 = .ok (.iload_n 2, 1) := by decide +kernel
theorem d1_150 : decode prog_29_method_3_code 150 = .ok (.iconst 1, 1) := by decide +kernel
theorem d1_151 : decode prog_29_method_3_code 151 = .ok (.iadd, 1) := by decide +kernel
theorem d1_152 : decode prog_29_method_3_code 152 = .ok (.baload, 1) := by decide +kernel
theorem d1_153 : decode prog_29_method_3_code 153 = .ok (.sipush 255, 3) := by decide +kernel
theorem d1_156 : decode prog_29_method_3_code 156 = .ok (.iand, 1) := by decide +kernel
theorem d1_157 : decode prog_29_method_3_code 157 = .ok (.bipush 8, 2) := by decide +kernel
theorem d1_159 : decode prog_29_method_3_code 159 = .ok (.ishl, 1) := by decide +kernel
theorem d1_160 : decode prog_29_method_3_code 160 = .ok (.ixor, 1) := by decide +kernel
theorem d1_161 : decode prog_29_method_3_code 161 = .ok (.istore_n 3, 1) := by decide +kernel
theorem d1_162 : decode prog_29_method_3_code 162 = .ok (.iload 4, 2) := by decide +kernel
theorem d1_164 : decode prog_29_method_3_code 164 = .ok (.iconst 1, 1) := by decide +kernel
theorem d1_165 : decode prog_29_method_3_code 165 = .ok (.if_icmp .lt 18, 3) := by decide +kernel
theorem d1_168 : decode prog_29_method_3_code 168 = .ok (.iload_n 3, 1) := by decide +kernel
theorem d1_169 : decode prog_29_method_3_code 169 = .ok (.aload_n 0, 1) := by decide +kernel
theorem d1_170 : decode prog_29_method_3_code 170 = .ok (.iload_n 2, 1) := by decide +kernel
theorem d1_171 : decode prog_29_method_3_code 171 = .ok (.baload, 1) := by decide +kernel
theorem d1_172 : decode prog_29_method_3_code 172 = .ok (.sipush 255, 3) := by decide +kernel
theorem d1_175 : decode prog_29_method_3_code 175 = .ok (.iand, 1) := by decide +kernel
theorem d1_176 : decode prog_29_method_3_code 176 = .ok (.ixor, 1) := by decide +kernel
theorem d1_177 : decode prog_29_method_3_code 177 = .ok (.istore_n 3, 1) := by decide +kernel
theorem d1_178 : decode prog_29_method_3_code 178 = .ok (.iload_n 3, 1) := by decide +kernel
theorem d1_179 : decode prog_29_method_3_code 179 = .ok (.ldc 15, 2) := by decide +kernel
theorem d1_181 : decode prog_29_method_3_code 181 = .ok (.imul, 1) := by decide +kernel
theorem d1_182 : decode prog_29_method_3_code 182 = .ok (.istore_n 3, 1) := by decide +kernel
theorem d1_183 : decode prog_29_method_3_code 183 = .ok (.iload_n 3, 1) := by decide +kernel
theorem d1_184 : decode prog_29_method_3_code 184 = .ok (.iload_n 3, 1) := by decide +kernel
theorem d1_185 : decode prog_29_method_3_code 185 = .ok (.bipush 13, 2) := by decide +kernel
theorem d1_187 : decode prog_29_method_3_code 187 = .ok (.iushr, 1) := by decide +kernel
theorem d1_188 : decode prog_29_method_3_code 188 = .ok (.ixor, 1) := by decide +kernel
theorem d1_189 : decode prog_29_method_3_code 189 = .ok (.istore_n 3, 1) := by decide +kernel
theorem d1_190 : decode prog_29_method_3_code 190 = .ok (.iload_n 3, 1) := by decide +kernel
theorem d1_191 : decode prog_29_method_3_code 191 = .ok (.ldc 15, 2) := by decide +kernel
theorem d1_193 : decode prog_29_method_3_code 193 = .ok (.imul, 1) := by decide +kernel
theorem d1_194 : decode prog_29_method_3_code 194 = .ok (.istore_n 3, 1) := by decide +kernel
theorem d1_195 : decode prog_29_method_3_code 195 = .ok (.iload_n 3, 1) := by decide +kernel
theorem d1_196 : decode prog_29_method_3_code 196 = .ok (.iload_n 3, 1) := by decide +kernel
theorem d1_197 : decode prog_29_method_3_code 197 = .ok (.bipush 15, 2) := by decide +kernel
theorem d1_199 : decode prog_29_method_3_code 199 = .ok (.iushr, 1) := by decide +kernel
theorem d1_200 : decode prog_29_method_3_code 200 = .ok (.ixor, 1) := by decide +kernel
theorem d1_201 : decode prog_29_method_3_code 201 = .ok (.istore_n 3, 1) := by decide +kernel
theorem d1_202 : decode prog_29_method_3_code 202 = .ok (.iload_n 3, 1) := by decide +kernel
theorem d1_203 : decode prog_29_method_3_code 203 = .ok (.ireturn, 1) := by decide +kernel
theorem d2_0 : decode method_3_code 0 = .ok (.iload_n 0, 1) := by decide +kernel
theorem d2_1 : decode method_3_code 1 = .ok (.iload_n 0, 1) := by decide +kernel
theorem d2_2 : decode method_3_code 2 = .ok (.bipush 13, 2) := by decide +kernel
theorem d2_4 : decode method_3_code 4 = .ok (.iushr, 1) := by decide +kernel
theorem d2_5 : decode method_3_code 5 = .ok (.ixor, 1) := by decide +kernel
theorem d2_6 : decode method_3_code 6 = .ok (.istore_n 1, 1) := by decide +kernel
theorem d2_7 : decode method_3_code 7 = .ok (.iload_n 1, 1) := by decide +kernel
theorem d2_8 : decode method_3_code 8 = .ok (.ldc 9, 2) := by decide +kernel
theorem d2_10 : decode method_3_code 10 = .ok (.imul, 1) := by decide +kernel
theorem d2_11 : decode method_3_code 11 = .ok (.istore_n 1, 1) := by decide +kernel
theorem d2_12 : decode method_3_code 12 = .ok (.iload_n 1, 1) := by decide +kernel
theorem d2_13 : decode method_3_code 13 = .ok (.iload_n 1, 1) := by decide +kernel
theorem d2_14 : decode method_3_code 14 = .ok (.bipush 15, 2) := by decide +kernel
theorem d2_16 : decode method_3_code 16 = .ok (.iushr, 1) := by decide +kernel
theorem d2_17 : decode method_3_code 17 = .ok (.ixor, 1) := by decide +kernel
theorem d2_18 : decode method_3_code 18 = .ok (.ireturn, 1) := by decide +kernel
theorem d3_0 : decode method_2_code 0 = .ok (.iload_n 0, 1) := by decide +kernel
theorem d3_1 : decode method_2_code 1 = .ok (.ldc 9, 2) := by decide +kernel
theorem d3_3 : decode method_2_code 3 = .ok (.imul, 1) := by decide +kernel
theorem d3_4 : decode method_2_code 4 = .ok (.istore_n 1, 1) := by decide +kernel
theorem d3_5 : decode method_2_code 5 = .ok (.iload_n 1, 1) := by decide +kernel
theorem d3_6 : decode method_2_code 6 = .ok (.iload_n 1, 1) := by decide +kernel
theorem d3_7 : decode method_2_code 7 = .ok (.bipush 24, 2) := by decide +kernel
theorem d3_9 : decode method_2_code 9 = .ok (.iushr, 1) := by decide +kernel
theorem d3_10 : decode method_2_code 10 = .ok (.ixor, 1) := by decide +kernel
theorem d3_11 : decode method_2_code 11 = .ok (.istore_n 1, 1) := by decide +kernel
theorem d3_12 : decode method_2_code 12 = .ok (.iload_n 1, 1) := by decide +kernel
theorem d3_13 : decode method_2_code 13 = .ok (.ldc 9, 2) := by decide +kernel
theorem d3_15 : decode method_2_code 15 = .ok (.imul, 1) := by decide +kernel
theorem d3_16 : decode method_2_code 16 = .ok (.ireturn, 1) := by decide +kernel
theorem own_and63 (y : Int32) : (y.toInt64 &&& 63).toBitVec = BitVec.ofNat 64 (y.toBitVec.toNat % 64) := by
  apply BitVec.eq_of_getLsbD_eq
  intro i hi
  have h63 : (63 : Int64).toBitVec = BitVec.ofNat 64 (2 ^ 6 - 1) := by decide
  have hm : (y.toBitVec.toNat % 64) = y.toBitVec.toNat % 2 ^ 6 := rfl
  rw [Int64.toBitVec_and, Int32.toBitVec_toInt64, BitVec.getLsbD_and, BitVec.getLsbD_signExtend, h63, BitVec.getLsbD_ofNat, Nat.testBit_two_pow_sub_one, BitVec.getLsbD_ofNat, hm, Nat.testBit_mod_two_pow]
  by_cases h6 : i < 6
  · have h32 : i < 32 := by omega
    simp [hi, h6, h32, BitVec.getLsbD]
  · simp [h6]
theorem bv_lshl (x : Int64) (y : Int32) : (x <<< (y.toInt64 &&& 63)).toBitVec = x.toBitVec <<< (y.toBitVec.toNat % 64) := by
  show x.toBitVec <<< ((y.toInt64 &&& 63).toBitVec.smod 64) = _
  rw [BitVec.shiftLeft_eq', own_and63, smod64 _ (Nat.mod_lt _ (by decide))]
theorem bv_lshr (x : Int64) (y : Int32) : (x >>> (y.toInt64 &&& 63)).toBitVec = x.toBitVec.sshiftRight (y.toBitVec.toNat % 64) := by
  show x.toBitVec.sshiftRight' ((y.toInt64 &&& 63).toBitVec.smod 64) = _
  rw [BitVec.sshiftRight_eq', own_and63, smod64 _ (Nat.mod_lt _ (by decide))]
theorem bv_lushr (x : Int64) (y : Int32) : (XT.ushrL x y).toBitVec = x.toBitVec >>> (y.toBitVec.toNat % 64) := by
  show x.toBitVec >>> ((y.toInt64 &&& 63).toBitVec % 64) = _
  rw [BitVec.ushiftRight_eq', own_and63, BitVec.toNat_umod, BitVec.toNat_ofNat]
  congr 1
  show y.toBitVec.toNat % 64 % 2 ^ 64 % 64 = _
  omega
theorem bv_ishl (x y : Int32) : (x <<< (y &&& 31)).toBitVec = x.toBitVec <<< (y.toBitVec.toNat % 32) := by
  show x.toBitVec <<< ((y &&& 31).toBitVec.smod 32) = _
  rw [BitVec.shiftLeft_eq', sm32 y _ rfl]
theorem bv_ishr (x y : Int32) : (x >>> (y &&& 31)).toBitVec = x.toBitVec.sshiftRight (y.toBitVec.toNat % 32) := by
  show x.toBitVec.sshiftRight' ((y &&& 31).toBitVec.smod 32) = _
  rw [BitVec.sshiftRight_eq', sm32 y _ rfl]
theorem bv_iushr (x y : Int32) : (XT.ushr x y).toBitVec = x.toBitVec >>> (y.toBitVec.toNat % 32) := by
  show x.toBitVec >>> ((y &&& 31).toBitVec % 32) = _
  have h1 : (y &&& 31).toBitVec.toNat = y.toBitVec.toNat % 32 := by
    show (y.toBitVec &&& (31 : Int32).toBitVec).toNat = _
    rw [BitVec.toNat_and, show (31 : Int32).toBitVec.toNat = 2 ^ 5 - 1 from by decide, Nat.and_two_pow_sub_one_eq_mod]
  rw [BitVec.ushiftRight_eq', BitVec.toNat_umod, h1]
  congr 1
  show y.toBitVec.toNat % 32 % 32 = _
  omega
theorem u64 (x : Int64) : (x.toBitVec.toNat : Int) = x.toInt % 18446744073709551616 := by
  have h := x.toBitVec.isLt
  show _ = x.toBitVec.toInt % _
  rw [BitVec.toInt_eq_toNat_cond]; split <;> omega
theorem u32 (x : Int32) : (x.toBitVec.toNat : Int) = x.toInt % 4294967296 := by
  have h := x.toBitVec.isLt
  show _ = x.toBitVec.toInt % _
  rw [BitVec.toInt_eq_toNat_cond]; split <;> omega
theorem i64 (x : Int64) : x.toInt = if x.toBitVec.toNat < 9223372036854775808 then (x.toBitVec.toNat : Int) else (x.toBitVec.toNat : Int) - 18446744073709551616 := by
  have h := x.toBitVec.isLt
  show x.toBitVec.toInt = _
  rw [BitVec.toInt_eq_toNat_cond]; split <;> split <;> omega
/-- a logical shift by a known count, as a number -/
theorem n_lushr (x : Int64) (y : Int32) (k : Nat) (hk : y.toBitVec.toNat % 64 = k) : (XT.ushrL x y).toBitVec.toNat = x.toBitVec.toNat / 2 ^ k := by
  rw [bv_lushr, hk, BitVec.toNat_ushiftRight, Nat.shiftRight_eq_div_pow]
theorem n_iushr (x y : Int32) (k : Nat) (hk : y.toBitVec.toNat % 32 = k) : (XT.ushr x y).toBitVec.toNat = x.toBitVec.toNat / 2 ^ k := by
  rw [bv_iushr, hk, BitVec.toNat_ushiftRight, Nat.shiftRight_eq_div_pow]
theorem nn32 (y : Int32) (h : 0 ≤ y.toInt) : y.toBitVec.toNat = y.toInt.toNat := by
  have h1 := u32 y
  have := y.toInt_lt
  omega
theorem nn64 (y : Int64) (h : 0 ≤ y.toInt) : y.toBitVec.toNat = y.toInt.toNat := by
  have h1 := u64 y
  have := y.toInt_lt
  omega
theorem own_mask (y : Int32) (hy : 0 ≤ y.toInt ∧ y.toInt < 64) (K : Nat) (hK : K < 64) : (((1 : Int64) <<< (y.toInt64 &&& 63)) - 1).toBitVec.getLsbD K = decide (K < y.toInt.toNat) := by
  have hW : y.toBitVec.toNat % 64 = y.toInt.toNat := by rw [nn32 y hy.1]; omega
  rw [Int64.toBitVec_sub, bv_lshl, hW]
  have h2 : y.toInt.toNat < 64 := by omega
  generalize y.toInt.toNat = W at *
  have e : (1 : Int64).toBitVec <<< W - (1 : Int64).toBitVec = BitVec.ofNat 64 (2 ^ W - 1) := by
    apply BitVec.eq_of_toNat_eq
    have p1 : 2 ^ W < 2 ^ 64 := Nat.pow_lt_pow_right (by decide) h2
    have p2 : 0 < 2 ^ W := Nat.two_pow_pos W
    rw [BitVec.toNat_sub, BitVec.toNat_shiftLeft, Nat.shiftLeft_eq, BitVec.toNat_ofNat, show (1 : Int64).toBitVec.toNat = 1 from by decide, Nat.one_mul]
    generalize 2 ^ W = P at *
    omega
  rw [e, BitVec.getLsbD_ofNat, Nat.testBit_two_pow_sub_one]
  simp [hK]
theorem own_bit (x : Int64) (y : Int32) : (XT.ushrL x y &&& (1 : Int64)) = if x.toBitVec.getLsbD (y.toBitVec.toNat % 64) then 1 else 0 := by
  apply Int64.toBitVec_inj.mp
  apply BitVec.eq_of_getLsbD_eq
  intro i hi
  rw [Int64.toBitVec_and, bv_lushr, BitVec.getLsbD_and, BitVec.getLsbD_ushiftRight]
  generalize y.toBitVec.toNat % 64 = k
  have h1 : (1 : Int64).toBitVec.getLsbD i = decide (i = 0) := by
    show (1#64).getLsbD i = _
    rw [BitVec.getLsbD_one]; simp
  rw [h1]
  by_cases q : i = 0
  · subst q
    cases h : x.toBitVec.getLsbD k <;> simp [h]
  · cases h : x.toBitVec.getLsbD k
    · simp [q]
    · simp [q, h1]
def f_mixK (x : Int32) : Int32 := (((x * (1540483477 : Int32)) ^^^ (XT.ushr (x * (1540483477 : Int32)) (24 : Int32))) * (1540483477 : Int32))
set_option maxRecDepth 65536 in
set_option maxHeartbeats 40000000 in
theorem rm_mixK (l : Launch) (Z : State) (a0 : Array Value) (hw : ∀ d ∈ tables_1, d.before a0 Z = true) (x : Int32) (h0 : Heap) (n0 : Nat) (Z0 : n0 ≤ h0.size)   :
    Meets l (⟨"com/example/batchwright/batchwright/producer/PartitionerMurmur2PinLaw", "mixK", "(I)I"⟩ : MethodName) method_2_code 2 (some .int) ({ frames := 0, cells := 0, slots := 0, locals := 0 } : Room) Z #[(.int x)] h0 n0 (fun v h => v = some (Value.int (f_mixK x)) ∧ h = h0) := by
  refine meets_of (plainFor_of_name pn1) (Ls := #[.val (.int x), .unset]) (fun m => by first | (simp [entryFrame, mkF, argsToLocals, Value.category]; done) | rfl) ?_
  intro p e s m below meth c K
  replace K : Kx Z "com/example/batchwright/batchwright/producer/PartitionerMurmur2PinLaw" "mixK" method_2_code 2 (some .int) p s m meth c := K
  obtain ⟨Q, hQ⟩ : ∃ Q : Option Value → Heap → Prop, Q = (fun v h => v = some (Value.int (f_mixK x)) ∧ h = h0) := ⟨_, rfl⟩
  rw [← hQ]
  refine g_iloadN K 0 d3_0 rfl ?_
  refine g_ldc K 1 (v := (1540483477 : Int32)) d3_1 (tw hw 13 rfl) ?_
  refine g_imul K 3 d3_3 ?_
  refine g_istoreN K 4 #[.val (.int x), .val (.int (x * (1540483477 : Int32)))] d3_4 rfl ?_
  refine g_iloadN K 5 d3_5 rfl ?_
  refine g_iloadN K 6 d3_6 rfl ?_
  refine g_bipush K 7 (24 : Int32) d3_7 (by decide) ?_
  refine g_iushr K 9 d3_9 ?_
  refine g_ixor K 10 d3_10 ?_
  refine g_istoreN K 11 #[.val (.int x), .val (.int ((x * (1540483477 : Int32)) ^^^ (XT.ushr (x * (1540483477 : Int32)) (24 : Int32))))] d3_11 rfl ?_
  refine g_iloadN K 12 d3_12 rfl ?_
  refine g_ldc K 13 (v := (1540483477 : Int32)) d3_13 (tw hw 13 rfl) ?_
  refine g_imul K 15 d3_15 ?_
  refine g_ireturn K 16 d3_16 rfl (by decide) (by decide) ?_
  rw [hQ]
  refine ⟨?_, rfl⟩
  show some (Value.int _) = some (Value.int (f_mixK x))
  unfold f_mixK
  rfl
def f_fin (x : Int32) : Int32 := (((x ^^^ (XT.ushr x (13 : Int32))) * (1540483477 : Int32)) ^^^ (XT.ushr ((x ^^^ (XT.ushr x (13 : Int32))) * (1540483477 : Int32)) (15 : Int32)))
set_option maxRecDepth 65536 in
set_option maxHeartbeats 40000000 in
theorem rm_fin (l : Launch) (Z : State) (a0 : Array Value) (hw : ∀ d ∈ tables_1, d.before a0 Z = true) (x : Int32) (h0 : Heap) (n0 : Nat) (Z0 : n0 ≤ h0.size)   :
    Meets l (⟨"com/example/batchwright/batchwright/producer/PartitionerMurmur2PinLaw", "fin", "(I)I"⟩ : MethodName) method_3_code 2 (some .int) ({ frames := 0, cells := 0, slots := 0, locals := 0 } : Room) Z #[(.int x)] h0 n0 (fun v h => v = some (Value.int (f_fin x)) ∧ h = h0) := by
  refine meets_of (plainFor_of_name pn1) (Ls := #[.val (.int x), .unset]) (fun m => by first | (simp [entryFrame, mkF, argsToLocals, Value.category]; done) | rfl) ?_
  intro p e s m below meth c K
  replace K : Kx Z "com/example/batchwright/batchwright/producer/PartitionerMurmur2PinLaw" "fin" method_3_code 2 (some .int) p s m meth c := K
  obtain ⟨Q, hQ⟩ : ∃ Q : Option Value → Heap → Prop, Q = (fun v h => v = some (Value.int (f_fin x)) ∧ h = h0) := ⟨_, rfl⟩
  rw [← hQ]
  refine g_iloadN K 0 d2_0 rfl ?_
  refine g_iloadN K 1 d2_1 rfl ?_
  refine g_bipush K 2 (13 : Int32) d2_2 (by decide) ?_
  refine g_iushr K 4 d2_4 ?_
  refine g_ixor K 5 d2_5 ?_
  refine g_istoreN K 6 #[.val (.int x), .val (.int (x ^^^ (XT.ushr x (13 : Int32))))] d2_6 rfl ?_
  refine g_iloadN K 7 d2_7 rfl ?_
  refine g_ldc K 8 (v := (1540483477 : Int32)) d2_8 (tw hw 13 rfl) ?_
  refine g_imul K 10 d2_10 ?_
  refine g_istoreN K 11 #[.val (.int x), .val (.int ((x ^^^ (XT.ushr x (13 : Int32))) * (1540483477 : Int32)))] d2_11 rfl ?_
  refine g_iloadN K 12 d2_12 rfl ?_
  refine g_iloadN K 13 d2_13 rfl ?_
  refine g_bipush K 14 (15 : Int32) d2_14 (by decide) ?_
  refine g_iushr K 16 d2_16 ?_
  refine g_ixor K 17 d2_17 ?_
  refine g_ireturn K 18 d2_18 rfl (by decide) (by decide) ?_
  rw [hQ]
  refine ⟨?_, rfl⟩
  show some (Value.int _) = some (Value.int (f_fin x))
  unfold f_fin
  rfl
def f_mur0  : Int32 := (275646681 : Int32)
set_option maxRecDepth 65536 in
set_option maxHeartbeats 40000000 in
theorem rm_mur0 (l : Launch) (Z : State) (a0 : Array Value) (hw : ∀ d ∈ tables_1, d.before a0 Z = true) (ar : Addr) (h0 : Heap) (n0 : Nat) (Z0 : n0 ≤ h0.size)  (A0 : IA Z h0 ar .byte []) :
    Meets l (⟨"com/example/batchwright/batchwright/producer/Partitioner", "murmur2", "([B)I"⟩ : MethodName) prog_29_method_3_code 6 (some .int) ({ frames := 0, cells := 0, slots := 0, locals := 0 } : Room) Z #[(.ref ar)] h0 n0 (fun v h => v = some (Value.int (f_mur0 )) ∧ h = h0) := by
  refine meets_of (plainFor_of_name pn0) (Ls := #[.val (.ref ar), .unset, .unset, .unset, .unset, .unset]) (fun m => by first | (simp [entryFrame, mkF, argsToLocals, Value.category]; done) | rfl) ?_
  intro p e s m below meth c K
  replace K : Kx Z "com/example/batchwright/batchwright/producer/Partitioner" "murmur2" prog_29_method_3_code 6 (some .int) p s m meth c := K
  obtain ⟨Q, hQ⟩ : ∃ Q : Option Value → Heap → Prop, Q = (fun v h => v = some (Value.int (f_mur0 )) ∧ h = h0) := ⟨_, rfl⟩
  rw [← hQ]
  refine g_aloadN K 0 d1_0 rfl rfl ?_
  refine g_alen K 1 (0 : Int32) d1_1 A0 (show (0 : Nat).toInt32 = (0 : Int32) from by decide) ?_
  refine g_istoreN K 2 #[.val (.ref ar), .val (.int (0 : Int32)), .unset, .unset, .unset, .unset] d1_2 rfl ?_
  refine g_iloadN K 3 d1_3 rfl ?_
  refine g_iloadN K 4 d1_4 rfl ?_
  refine g_iconst K 5 (4 : Int32) d1_5 (by decide) ?_
  refine g_irem K 6 d1_6 (by decide) ?_
  rw [show ((0 : Int32) % (4 : Int32)) = (0 : Int32) from by decide]
  refine g_isub K 7 d1_7 ?_
  rw [show ((0 : Int32) - (0 : Int32)) = (0 : Int32) from by decide]
  refine g_istoreN K 8 #[.val (.ref ar), .val (.int (0 : Int32)), .val (.int (0 : Int32)), .unset, .unset, .unset] d1_8 rfl ?_
  refine g_ldc K 9 (v := (-1756908916 : Int32)) d1_9 (tw hw 7 rfl) ?_
  refine g_iloadN K 11 d1_11 rfl ?_
  refine g_ixor K 12 d1_12 ?_
  rw [show ((-1756908916 : Int32) ^^^ (0 : Int32)) = (-1756908916 : Int32) from by decide]
  refine g_istoreN K 13 #[.val (.ref ar), .val (.int (0 : Int32)), .val (.int (0 : Int32)), .val (.int (-1756908916 : Int32)), .unset, .unset] d1_13 rfl ?_
  refine g_iconst K 14 (0 : Int32) d1_14 (by decide) ?_
  refine g_istore K 15 #[.val (.ref ar), .val (.int (0 : Int32)), .val (.int (0 : Int32)), .val (.int (-1756908916 : Int32)), .val (.int (0 : Int32)), .unset] d1_15 rfl ?_
  refine g_iload K 17 d1_17 rfl ?_
  refine g_iloadN K 19 d1_19 rfl ?_
  refine g_ii_ge K 20 115 d1_20 (by decide) (by decide) ?_ ?_
  · intro c1
    refine g_iloadN K 115 d1_115 rfl ?_
    refine g_iloadN K 116 d1_116 rfl ?_
    refine g_isub K 117 d1_117 ?_
    rw [show ((0 : Int32) - (0 : Int32)) = (0 : Int32) from by decide]
    refine g_istore K 118 #[.val (.ref ar), .val (.int (0 : Int32)), .val (.int (0 : Int32)), .val (.int (-1756908916 : Int32)), .val (.int (0 : Int32)), .unset] d1_118 rfl ?_
    refine g_iload K 120 d1_120 rfl ?_
    refine g_iconst K 122 (3 : Int32) d1_122 (by decide) ?_
    refine g_ii_ne K 123 141 d1_123 (by decide) (by decide) ?_ ?_
    · intro c2
      refine g_iload K 141 d1_141 rfl ?_
      refine g_iconst K 143 (2 : Int32) d1_143 (by decide) ?_
      refine g_ii_lt K 144 162 d1_144 (by decide) (by decide) ?_ ?_
      · intro c3
        refine g_iload K 162 d1_162 rfl ?_
        refine g_iconst K 164 (1 : Int32) d1_164 (by decide) ?_
        refine g_ii_lt K 165 183 d1_165 (by decide) (by decide) ?_ ?_
        · intro c4
          refine g_iloadN K 183 d1_183 rfl ?_
          refine g_iloadN K 184 d1_184 rfl ?_
          refine g_bipush K 185 (13 : Int32) d1_185 (by decide) ?_
          refine g_iushr K 187 d1_187 ?_
          rw [show (XT.ushr (-1756908916 : Int32) (13 : Int32)) = (309821 : Int32) from by decide]
          refine g_ixor K 188 d1_188 ?_
          rw [show ((-1756908916 : Int32) ^^^ (309821 : Int32)) = (-1757214543 : Int32) from by decide]
          refine g_istoreN K 189 #[.val (.ref ar), .val (.int (0 : Int32)), .val (.int (0 : Int32)), .val (.int (-1757214543 : Int32)), .val (.int (0 : Int32)), .unset] d1_189 rfl ?_
          refine g_iloadN K 190 d1_190 rfl ?_
          refine g_ldc K 191 (v := (1540483477 : Int32)) d1_191 (tw hw 8 rfl) ?_
          refine g_imul K 193 d1_193 ?_
          rw [show ((-1757214543 : Int32) * (1540483477 : Int32)) = (275654661 : Int32) from by decide]
          refine g_istoreN K 194 #[.val (.ref ar), .val (.int (0 : Int32)), .val (.int (0 : Int32)), .val (.int (275654661 : Int32)), .val (.int (0 : Int32)), .unset] d1_194 rfl ?_
          refine g_iloadN K 195 d1_195 rfl ?_
          refine g_iloadN K 196 d1_196 rfl ?_
          refine g_bipush K 197 (15 : Int32) d1_197 (by decide) ?_
          refine g_iushr K 199 d1_199 ?_
          rw [show (XT.ushr (275654661 : Int32) (15 : Int32)) = (8412 : Int32) from by decide]
          refine g_ixor K 200 d1_200 ?_
          rw [show ((275654661 : Int32) ^^^ (8412 : Int32)) = (275646681 : Int32) from by decide]
          refine g_istoreN K 201 #[.val (.ref ar), .val (.int (0 : Int32)), .val (.int (0 : Int32)), .val (.int (275646681 : Int32)), .val (.int (0 : Int32)), .unset] d1_201 rfl ?_
          refine g_iloadN K 202 d1_202 rfl ?_
          refine g_ireturn K 203 d1_203 rfl (by decide) (by decide) ?_
          rw [hQ]
          refine ⟨?_, rfl⟩
          show some (Value.int _) = some (Value.int (f_mur0 ))
          unfold f_mur0
          rfl
        · intro c4
          exact absurd c4 (by decide)
      · intro c3
        exact absurd c3 (by decide)
    · intro c2
      exact absurd c2 (by decide)
  · intro c1
    exact absurd c1 (by decide)
def f_mur1 (b0 : Int32) : Int32 := ((((((-1756908915 : Int32) ^^^ (b0 &&& (255 : Int32))) * (1540483477 : Int32)) ^^^ (XT.ushr (((-1756908915 : Int32) ^^^ (b0 &&& (255 : Int32))) * (1540483477 : Int32)) (13 : Int32))) * (1540483477 : Int32)) ^^^ (XT.ushr (((((-1756908915 : Int32) ^^^ (b0 &&& (255 : Int32))) * (1540483477 : Int32)) ^^^ (XT.ushr (((-1756908915 : Int32) ^^^ (b0 &&& (255 : Int32))) * (1540483477 : Int32)) (13 : Int32))) * (1540483477 : Int32)) (15 : Int32)))
set_option maxRecDepth 65536 in
set_option maxHeartbeats 40000000 in
theorem rm_mur1 (l : Launch) (Z : State) (a0 : Array Value) (hw : ∀ d ∈ tables_1, d.before a0 Z = true) (ar : Addr) (h0 : Heap) (n0 : Nat) (Z0 : n0 ≤ h0.size) (b0 : Int32) (A0 : IA Z h0 ar .byte [b0]) :
    Meets l (⟨"com/example/batchwright/batchwright/producer/Partitioner", "murmur2", "([B)I"⟩ : MethodName) prog_29_method_3_code 6 (some .int) ({ frames := 0, cells := 0, slots := 0, locals := 0 } : Room) Z #[(.ref ar)] h0 n0 (fun v h => v = some (Value.int (f_mur1 b0)) ∧ h = h0) := by
  refine meets_of (plainFor_of_name pn0) (Ls := #[.val (.ref ar), .unset, .unset, .unset, .unset, .unset]) (fun m => by first | (simp [entryFrame, mkF, argsToLocals, Value.category]; done) | rfl) ?_
  intro p e s m below meth c K
  replace K : Kx Z "com/example/batchwright/batchwright/producer/Partitioner" "murmur2" prog_29_method_3_code 6 (some .int) p s m meth c := K
  obtain ⟨Q, hQ⟩ : ∃ Q : Option Value → Heap → Prop, Q = (fun v h => v = some (Value.int (f_mur1 b0)) ∧ h = h0) := ⟨_, rfl⟩
  rw [← hQ]
  refine g_aloadN K 0 d1_0 rfl rfl ?_
  refine g_alen K 1 (1 : Int32) d1_1 A0 (show (1 : Nat).toInt32 = (1 : Int32) from by decide) ?_
  refine g_istoreN K 2 #[.val (.ref ar), .val (.int (1 : Int32)), .unset, .unset, .unset, .unset] d1_2 rfl ?_
  refine g_iloadN K 3 d1_3 rfl ?_
  refine g_iloadN K 4 d1_4 rfl ?_
  refine g_iconst K 5 (4 : Int32) d1_5 (by decide) ?_
  refine g_irem K 6 d1_6 (by decide) ?_
  rw [show ((1 : Int32) % (4 : Int32)) = (1 : Int32) from by decide]
  refine g_isub K 7 d1_7 ?_
  rw [show ((1 : Int32) - (1 : Int32)) = (0 : Int32) from by decide]
  refine g_istoreN K 8 #[.val (.ref ar), .val (.int (1 : Int32)), .val (.int (0 : Int32)), .unset, .unset, .unset] d1_8 rfl ?_
  refine g_ldc K 9 (v := (-1756908916 : Int32)) d1_9 (tw hw 7 rfl) ?_
  refine g_iloadN K 11 d1_11 rfl ?_
  refine g_ixor K 12 d1_12 ?_
  rw [show ((-1756908916 : Int32) ^^^ (1 : Int32)) = (-1756908915 : Int32) from by decide]
  refine g_istoreN K 13 #[.val (.ref ar), .val (.int (1 : Int32)), .val (.int (0 : Int32)), .val (.int (-1756908915 : Int32)), .unset, .unset] d1_13 rfl ?_
  refine g_iconst K 14 (0 : Int32) d1_14 (by decide) ?_
  refine g_istore K 15 #[.val (.ref ar), .val (.int (1 : Int32)), .val (.int (0 : Int32)), .val (.int (-1756908915 : Int32)), .val (.int (0 : Int32)), .unset] d1_15 rfl ?_
  refine g_iload K 17 d1_17 rfl ?_
  refine g_iloadN K 19 d1_19 rfl ?_
  refine g_ii_ge K 20 115 d1_20 (by decide) (by decide) ?_ ?_
  · intro c1
    refine g_iloadN K 115 d1_115 rfl ?_
    refine g_iloadN K 116 d1_116 rfl ?_
    refine g_isub K 117 d1_117 ?_
    rw [show ((1 : Int32) - (0 : Int32)) = (1 : Int32) from by decide]
    refine g_istore K 118 #[.val (.ref ar), .val (.int (1 : Int32)), .val (.int (0 : Int32)), .val (.int (-1756908915 : Int32)), .val (.int (1 : Int32)), .unset] d1_118 rfl ?_
    refine g_iload K 120 d1_120 rfl ?_
    refine g_iconst K 122 (3 : Int32) d1_122 (by decide) ?_
    refine g_ii_ne K 123 141 d1_123 (by decide) (by decide) ?_ ?_
    · intro c2
      refine g_iload K 141 d1_141 rfl ?_
      refine g_iconst K 143 (2 : Int32) d1_143 (by decide) ?_
      refine g_ii_lt K 144 162 d1_144 (by decide) (by decide) ?_ ?_
      · intro c3
        refine g_iload K 162 d1_162 rfl ?_
        refine g_iconst K 164 (1 : Int32) d1_164 (by decide) ?_
        refine g_ii_lt K 165 183 d1_165 (by decide) (by decide) ?_ ?_
        · intro c4
          exact absurd c4 (by decide)
        · intro c4
          refine g_iloadN K 168 d1_168 rfl ?_
          refine g_aloadN K 169 d1_169 rfl rfl ?_
          refine g_iloadN K 170 d1_170 rfl ?_
          refine g_baload K 171 b0 d1_171 A0 (by decide) (by rw [show (0 : Int32).toNatClampNeg = 0 from by decide]; rfl) ?_
          refine g_sipush K 172 (255 : Int32) d1_172 (by decide) ?_
          refine g_iand K 175 d1_175 ?_
          refine g_ixor K 176 d1_176 ?_
          refine g_istoreN K 177 #[.val (.ref ar), .val (.int (1 : Int32)), .val (.int (0 : Int32)), .val (.int ((-1756908915 : Int32) ^^^ (b0 &&& (255 : Int32)))), .val (.int (1 : Int32)), .unset] d1_177 rfl ?_
          refine g_iloadN K 178 d1_178 rfl ?_
          refine g_ldc K 179 (v := (1540483477 : Int32)) d1_179 (tw hw 8 rfl) ?_
          refine g_imul K 181 d1_181 ?_
          refine g_istoreN K 182 #[.val (.ref ar), .val (.int (1 : Int32)), .val (.int (0 : Int32)), .val (.int (((-1756908915 : Int32) ^^^ (b0 &&& (255 : Int32))) * (1540483477 : Int32))), .val (.int (1 : Int32)), .unset] d1_182 rfl ?_
          refine g_iloadN K 183 d1_183 rfl ?_
          refine g_iloadN K 184 d1_184 rfl ?_
          refine g_bipush K 185 (13 : Int32) d1_185 (by decide) ?_
          refine g_iushr K 187 d1_187 ?_
          refine g_ixor K 188 d1_188 ?_
          refine g_istoreN K 189 #[.val (.ref ar), .val (.int (1 : Int32)), .val (.int (0 : Int32)), .val (.int ((((-1756908915 : Int32) ^^^ (b0 &&& (255 : Int32))) * (1540483477 : Int32)) ^^^ (XT.ushr (((-1756908915 : Int32) ^^^ (b0 &&& (255 : Int32))) * (1540483477 : Int32)) (13 : Int32)))), .val (.int (1 : Int32)), .unset] d1_189 rfl ?_
          refine g_iloadN K 190 d1_190 rfl ?_
          refine g_ldc K 191 (v := (1540483477 : Int32)) d1_191 (tw hw 8 rfl) ?_
          refine g_imul K 193 d1_193 ?_
          refine g_istoreN K 194 #[.val (.ref ar), .val (.int (1 : Int32)), .val (.int (0 : Int32)), .val (.int (((((-1756908915 : Int32) ^^^ (b0 &&& (255 : Int32))) * (1540483477 : Int32)) ^^^ (XT.ushr (((-1756908915 : Int32) ^^^ (b0 &&& (255 : Int32))) * (1540483477 : Int32)) (13 : Int32))) * (1540483477 : Int32))), .val (.int (1 : Int32)), .unset] d1_194 rfl ?_
          refine g_iloadN K 195 d1_195 rfl ?_
          refine g_iloadN K 196 d1_196 rfl ?_
          refine g_bipush K 197 (15 : Int32) d1_197 (by decide) ?_
          refine g_iushr K 199 d1_199 ?_
          refine g_ixor K 200 d1_200 ?_
          refine g_istoreN K 201 #[.val (.ref ar), .val (.int (1 : Int32)), .val (.int (0 : Int32)), .val (.int ((((((-1756908915 : Int32) ^^^ (b0 &&& (255 : Int32))) * (1540483477 : Int32)) ^^^ (XT.ushr (((-1756908915 : Int32) ^^^ (b0 &&& (255 : Int32))) * (1540483477 : Int32)) (13 : Int32))) * (1540483477 : Int32)) ^^^ (XT.ushr (((((-1756908915 : Int32) ^^^ (b0 &&& (255 : Int32))) * (1540483477 : Int32)) ^^^ (XT.ushr (((-1756908915 : Int32) ^^^ (b0 &&& (255 : Int32))) * (1540483477 : Int32)) (13 : Int32))) * (1540483477 : Int32)) (15 : Int32)))), .val (.int (1 : Int32)), .unset] d1_201 rfl ?_
          refine g_iloadN K 202 d1_202 rfl ?_
          refine g_ireturn K 203 d1_203 rfl (by decide) (by decide) ?_
          rw [hQ]
          refine ⟨?_, rfl⟩
          show some (Value.int _) = some (Value.int (f_mur1 b0))
          unfold f_mur1
          rfl
      · intro c3
        exact absurd c3 (by decide)
    · intro c2
      exact absurd c2 (by decide)
  · intro c1
    exact absurd c1 (by decide)
def f_mur2 (b0 : Int32) (b1 : Int32) : Int32 := (((((((-1756908914 : Int32) ^^^ ((b1 &&& (255 : Int32)) <<< ((8 : Int32) &&& 31))) ^^^ (b0 &&& (255 : Int32))) * (1540483477 : Int32)) ^^^ (XT.ushr ((((-1756908914 : Int32) ^^^ ((b1 &&& (255 : Int32)) <<< ((8 : Int32) &&& 31))) ^^^ (b0 &&& (255 : Int32))) * (1540483477 : Int32)) (13 : Int32))) * (1540483477 : Int32)) ^^^ (XT.ushr ((((((-1756908914 : Int32) ^^^ ((b1 &&& (255 : Int32)) <<< ((8 : Int32) &&& 31))) ^^^ (b0 &&& (255 : Int32))) * (1540483477 : Int32)) ^^^ (XT.ushr ((((-1756908914 : Int32) ^^^ ((b1 &&& (255 : Int32)) <<< ((8 : Int32) &&& 31))) ^^^ (b0 &&& (255 : Int32))) * (1540483477 : Int32)) (13 : Int32))) * (1540483477 : Int32)) (15 : Int32)))
set_option maxRecDepth 65536 in
set_option maxHeartbeats 40000000 in
theorem rm_mur2 (l : Launch) (Z : State) (a0 : Array Value) (hw : ∀ d ∈ tables_1, d.before a0 Z = true) (ar : Addr) (h0 : Heap) (n0 : Nat) (Z0 : n0 ≤ h0.size) (b0 : Int32) (b1 : Int32) (A0 : IA Z h0 ar .byte [b0, b1]) :
    Meets l (⟨"com/example/batchwright/batchwright/producer/Partitioner", "murmur2", "([B)I"⟩ : MethodName) prog_29_method_3_code 6 (some .int) ({ frames := 0, cells := 0, slots := 0, locals := 0 } : Room) Z #[(.ref ar)] h0 n0 (fun v h => v = some (Value.int (f_mur2 b0 b1)) ∧ h = h0) := by
  refine meets_of (plainFor_of_name pn0) (Ls := #[.val (.ref ar), .unset, .unset, .unset, .unset, .unset]) (fun m => by first | (simp [entryFrame, mkF, argsToLocals, Value.category]; done) | rfl) ?_
  intro p e s m below meth c K
  replace K : Kx Z "com/example/batchwright/batchwright/producer/Partitioner" "murmur2" prog_29_method_3_code 6 (some .int) p s m meth c := K
  obtain ⟨Q, hQ⟩ : ∃ Q : Option Value → Heap → Prop, Q = (fun v h => v = some (Value.int (f_mur2 b0 b1)) ∧ h = h0) := ⟨_, rfl⟩
  rw [← hQ]
  refine g_aloadN K 0 d1_0 rfl rfl ?_
  refine g_alen K 1 (2 : Int32) d1_1 A0 (show (2 : Nat).toInt32 = (2 : Int32) from by decide) ?_
  refine g_istoreN K 2 #[.val (.ref ar), .val (.int (2 : Int32)), .unset, .unset, .unset, .unset] d1_2 rfl ?_
  refine g_iloadN K 3 d1_3 rfl ?_
  refine g_iloadN K 4 d1_4 rfl ?_
  refine g_iconst K 5 (4 : Int32) d1_5 (by decide) ?_
  refine g_irem K 6 d1_6 (by decide) ?_
  rw [show ((2 : Int32) % (4 : Int32)) = (2 : Int32) from by decide]
  refine g_isub K 7 d1_7 ?_
  rw [show ((2 : Int32) - (2 : Int32)) = (0 : Int32) from by decide]
  refine g_istoreN K 8 #[.val (.ref ar), .val (.int (2 : Int32)), .val (.int (0 : Int32)), .unset, .unset, .unset] d1_8 rfl ?_
  refine g_ldc K 9 (v := (-1756908916 : Int32)) d1_9 (tw hw 7 rfl) ?_
  refine g_iloadN K 11 d1_11 rfl ?_
  refine g_ixor K 12 d1_12 ?_
  rw [show ((-1756908916 : Int32) ^^^ (2 : Int32)) = (-1756908914 : Int32) from by decide]
  refine g_istoreN K 13 #[.val (.ref ar), .val (.int (2 : Int32)), .val (.int (0 : Int32)), .val (.int (-1756908914 : Int32)), .unset, .unset] d1_13 rfl ?_
  refine g_iconst K 14 (0 : Int32) d1_14 (by decide) ?_
  refine g_istore K 15 #[.val (.ref ar), .val (.int (2 : Int32)), .val (.int (0 : Int32)), .val (.int (-1756908914 : Int32)), .val (.int (0 : Int32)), .unset] d1_15 rfl ?_
  refine g_iload K 17 d1_17 rfl ?_
  refine g_iloadN K 19 d1_19 rfl ?_
  refine g_ii_ge K 20 115 d1_20 (by decide) (by decide) ?_ ?_
  · intro c1
    refine g_iloadN K 115 d1_115 rfl ?_
    refine g_iloadN K 116 d1_116 rfl ?_
    refine g_isub K 117 d1_117 ?_
    rw [show ((2 : Int32) - (0 : Int32)) = (2 : Int32) from by decide]
    refine g_istore K 118 #[.val (.ref ar), .val (.int (2 : Int32)), .val (.int (0 : Int32)), .val (.int (-1756908914 : Int32)), .val (.int (2 : Int32)), .unset] d1_118 rfl ?_
    refine g_iload K 120 d1_120 rfl ?_
    refine g_iconst K 122 (3 : Int32) d1_122 (by decide) ?_
    refine g_ii_ne K 123 141 d1_123 (by decide) (by decide) ?_ ?_
    · intro c2
      refine g_iload K 141 d1_141 rfl ?_
      refine g_iconst K 143 (2 : Int32) d1_143 (by decide) ?_
      refine g_ii_lt K 144 162 d1_144 (by decide) (by decide) ?_ ?_
      · intro c3
        exact absurd c3 (by decide)
      · intro c3
        refine g_iloadN K 147 d1_147 rfl ?_
        refine g_aloadN K 148 d1_148 rfl rfl ?_
        refine g_iloadN K 149 d1_149 rfl ?_
        refine g_iconst K 150 (1 : Int32) d1_150 (by decide) ?_
        refine g_iadd K 151 d1_151 ?_
        rw [show ((0 : Int32) + (1 : Int32)) = (1 : Int32) from by decide]
        refine g_baload K 152 b1 d1_152 A0 (by decide) (by rw [show (1 : Int32).toNatClampNeg = 1 from by decide]; rfl) ?_
        refine g_sipush K 153 (255 : Int32) d1_153 (by decide) ?_
        refine g_iand K 156 d1_156 ?_
        refine g_bipush K 157 (8 : Int32) d1_157 (by decide) ?_
        refine g_ishl K 159 d1_159 ?_
        refine g_ixor K 160 d1_160 ?_
        refine g_istoreN K 161 #[.val (.ref ar), .val (.int (2 : Int32)), .val (.int (0 : Int32)), .val (.int ((-1756908914 : Int32) ^^^ ((b1 &&& (255 : Int32)) <<< ((8 : Int32) &&& 31)))), .val (.int (2 : Int32)), .unset] d1_161 rfl ?_
        refine g_iload K 162 d1_162 rfl ?_
        refine g_iconst K 164 (1 : Int32) d1_164 (by decide) ?_
        refine g_ii_lt K 165 183 d1_165 (by decide) (by decide) ?_ ?_
        · intro c4
          exact absurd c4 (by decide)
        · intro c4
          refine g_iloadN K 168 d1_168 rfl ?_
          refine g_aloadN K 169 d1_169 rfl rfl ?_
          refine g_iloadN K 170 d1_170 rfl ?_
          refine g_baload K 171 b0 d1_171 A0 (by decide) (by rw [show (0 : Int32).toNatClampNeg = 0 from by decide]; rfl) ?_
          refine g_sipush K 172 (255 : Int32) d1_172 (by decide) ?_
          refine g_iand K 175 d1_175 ?_
          refine g_ixor K 176 d1_176 ?_
          refine g_istoreN K 177 #[.val (.ref ar), .val (.int (2 : Int32)), .val (.int (0 : Int32)), .val (.int (((-1756908914 : Int32) ^^^ ((b1 &&& (255 : Int32)) <<< ((8 : Int32) &&& 31))) ^^^ (b0 &&& (255 : Int32)))), .val (.int (2 : Int32)), .unset] d1_177 rfl ?_
          refine g_iloadN K 178 d1_178 rfl ?_
          refine g_ldc K 179 (v := (1540483477 : Int32)) d1_179 (tw hw 8 rfl) ?_
          refine g_imul K 181 d1_181 ?_
          refine g_istoreN K 182 #[.val (.ref ar), .val (.int (2 : Int32)), .val (.int (0 : Int32)), .val (.int ((((-1756908914 : Int32) ^^^ ((b1 &&& (255 : Int32)) <<< ((8 : Int32) &&& 31))) ^^^ (b0 &&& (255 : Int32))) * (1540483477 : Int32))), .val (.int (2 : Int32)), .unset] d1_182 rfl ?_
          refine g_iloadN K 183 d1_183 rfl ?_
          refine g_iloadN K 184 d1_184 rfl ?_
          refine g_bipush K 185 (13 : Int32) d1_185 (by decide) ?_
          refine g_iushr K 187 d1_187 ?_
          refine g_ixor K 188 d1_188 ?_
          refine g_istoreN K 189 #[.val (.ref ar), .val (.int (2 : Int32)), .val (.int (0 : Int32)), .val (.int (((((-1756908914 : Int32) ^^^ ((b1 &&& (255 : Int32)) <<< ((8 : Int32) &&& 31))) ^^^ (b0 &&& (255 : Int32))) * (1540483477 : Int32)) ^^^ (XT.ushr ((((-1756908914 : Int32) ^^^ ((b1 &&& (255 : Int32)) <<< ((8 : Int32) &&& 31))) ^^^ (b0 &&& (255 : Int32))) * (1540483477 : Int32)) (13 : Int32)))), .val (.int (2 : Int32)), .unset] d1_189 rfl ?_
          refine g_iloadN K 190 d1_190 rfl ?_
          refine g_ldc K 191 (v := (1540483477 : Int32)) d1_191 (tw hw 8 rfl) ?_
          refine g_imul K 193 d1_193 ?_
          refine g_istoreN K 194 #[.val (.ref ar), .val (.int (2 : Int32)), .val (.int (0 : Int32)), .val (.int ((((((-1756908914 : Int32) ^^^ ((b1 &&& (255 : Int32)) <<< ((8 : Int32) &&& 31))) ^^^ (b0 &&& (255 : Int32))) * (1540483477 : Int32)) ^^^ (XT.ushr ((((-1756908914 : Int32) ^^^ ((b1 &&& (255 : Int32)) <<< ((8 : Int32) &&& 31))) ^^^ (b0 &&& (255 : Int32))) * (1540483477 : Int32)) (13 : Int32))) * (1540483477 : Int32))), .val (.int (2 : Int32)), .unset] d1_194 rfl ?_
          refine g_iloadN K 195 d1_195 rfl ?_
          refine g_iloadN K 196 d1_196 rfl ?_
          refine g_bipush K 197 (15 : Int32) d1_197 (by decide) ?_
          refine g_iushr K 199 d1_199 ?_
          refine g_ixor K 200 d1_200 ?_
          refine g_istoreN K 201 #[.val (.ref ar), .val (.int (2 : Int32)), .val (.int (0 : Int32)), .val (.int (((((((-1756908914 : Int32) ^^^ ((b1 &&& (255 : Int32)) <<< ((8 : Int32) &&& 31))) ^^^ (b0 &&& (255 : Int32))) * (1540483477 : Int32)) ^^^ (XT.ushr ((((-1756908914 : Int32) ^^^ ((b1 &&& (255 : Int32)) <<< ((8 : Int32) &&& 31))) ^^^ (b0 &&& (255 : Int32))) * (1540483477 : Int32)) (13 : Int32))) * (1540483477 : Int32)) ^^^ (XT.ushr ((((((-1756908914 : Int32) ^^^ ((b1 &&& (255 : Int32)) <<< ((8 : Int32) &&& 31))) ^^^ (b0 &&& (255 : Int32))) * (1540483477 : Int32)) ^^^ (XT.ushr ((((-1756908914 : Int32) ^^^ ((b1 &&& (255 : Int32)) <<< ((8 : Int32) &&& 31))) ^^^ (b0 &&& (255 : Int32))) * (1540483477 : Int32)) (13 : Int32))) * (1540483477 : Int32)) (15 : Int32)))), .val (.int (2 : Int32)), .unset] d1_201 rfl ?_
          refine g_iloadN K 202 d1_202 rfl ?_
          refine g_ireturn K 203 d1_203 rfl (by decide) (by decide) ?_
          rw [hQ]
          refine ⟨?_, rfl⟩
          show some (Value.int _) = some (Value.int (f_mur2 b0 b1))
          unfold f_mur2
          rfl
    · intro c2
      exact absurd c2 (by decide)
  · intro c1
    exact absurd c1 (by decide)
def f_mur3 (b0 : Int32) (b1 : Int32) (b2 : Int32) : Int32 := ((((((((-1756908913 : Int32) ^^^ ((b2 &&& (255 : Int32)) <<< ((16 : Int32) &&& 31))) ^^^ ((b1 &&& (255 : Int32)) <<< ((8 : Int32) &&& 31))) ^^^ (b0 &&& (255 : Int32))) * (1540483477 : Int32)) ^^^ (XT.ushr (((((-1756908913 : Int32) ^^^ ((b2 &&& (255 : Int32)) <<< ((16 : Int32) &&& 31))) ^^^ ((b1 &&& (255 : Int32)) <<< ((8 : Int32) &&& 31))) ^^^ (b0 &&& (255 : Int32))) * (1540483477 : Int32)) (13 : Int32))) * (1540483477 : Int32)) ^^^ (XT.ushr (((((((-1756908913 : Int32) ^^^ ((b2 &&& (255 : Int32)) <<< ((16 : Int32) &&& 31))) ^^^ ((b1 &&& (255 : Int32)) <<< ((8 : Int32) &&& 31))) ^^^ (b0 &&& (255 : Int32))) * (1540483477 : Int32)) ^^^ (XT.ushr (((((-1756908913 : Int32) ^^^ ((b2 &&& (255 : Int32)) <<< ((16 : Int32) &&& 31))) ^^^ ((b1 &&& (255 : Int32)) <<< ((8 : Int32) &&& 31))) ^^^ (b0 &&& (255 : Int32))) * (1540483477 : Int32)) (13 : Int32))) * (1540483477 : Int32)) (15 : Int32)))
set_option maxRecDepth 65536 in
set_option maxHeartbeats 40000000 in
theorem rm_mur3 (l : Launch) (Z : State) (a0 : Array Value) (hw : ∀ d ∈ tables_1, d.before a0 Z = true) (ar : Addr) (h0 : Heap) (n0 : Nat) (Z0 : n0 ≤ h0.size) (b0 : Int32) (b1 : Int32) (b2 : Int32) (A0 : IA Z h0 ar .byte [b0, b1, b2]) :
    Meets l (⟨"com/example/batchwright/batchwright/producer/Partitioner", "murmur2", "([B)I"⟩ : MethodName) prog_29_method_3_code 6 (some .int) ({ frames := 0, cells := 0, slots := 0, locals := 0 } : Room) Z #[(.ref ar)] h0 n0 (fun v h => v = some (Value.int (f_mur3 b0 b1 b2)) ∧ h = h0) := by
  refine meets_of (plainFor_of_name pn0) (Ls := #[.val (.ref ar), .unset, .unset, .unset, .unset, .unset]) (fun m => by first | (simp [entryFrame, mkF, argsToLocals, Value.category]; done) | rfl) ?_
  intro p e s m below meth c K
  replace K : Kx Z "com/example/batchwright/batchwright/producer/Partitioner" "murmur2" prog_29_method_3_code 6 (some .int) p s m meth c := K
  obtain ⟨Q, hQ⟩ : ∃ Q : Option Value → Heap → Prop, Q = (fun v h => v = some (Value.int (f_mur3 b0 b1 b2)) ∧ h = h0) := ⟨_, rfl⟩
  rw [← hQ]
  refine g_aloadN K 0 d1_0 rfl rfl ?_
  refine g_alen K 1 (3 : Int32) d1_1 A0 (show (3 : Nat).toInt32 = (3 : Int32) from by decide) ?_
  refine g_istoreN K 2 #[.val (.ref ar), .val (.int (3 : Int32)), .unset, .unset, .unset, .unset] d1_2 rfl ?_
  refine g_iloadN K 3 d1_3 rfl ?_
  refine g_iloadN K 4 d1_4 rfl ?_
  refine g_iconst K 5 (4 : Int32) d1_5 (by decide) ?_
  refine g_irem K 6 d1_6 (by decide) ?_
  rw [show ((3 : Int32) % (4 : Int32)) = (3 : Int32) from by decide]
  refine g_isub K 7 d1_7 ?_
  rw [show ((3 : Int32) - (3 : Int32)) = (0 : Int32) from by decide]
  refine g_istoreN K 8 #[.val (.ref ar), .val (.int (3 : Int32)), .val (.int (0 : Int32)), .unset, .unset, .unset] d1_8 rfl ?_
  refine g_ldc K 9 (v := (-1756908916 : Int32)) d1_9 (tw hw 7 rfl) ?_
  refine g_iloadN K 11 d1_11 rfl ?_
  refine g_ixor K 12 d1_12 ?_
  rw [show ((-1756908916 : Int32) ^^^ (3 : Int32)) = (-1756908913 : Int32) from by decide]
  refine g_istoreN K 13 #[.val (.ref ar), .val (.int (3 : Int32)), .val (.int (0 : Int32)), .val (.int (-1756908913 : Int32)), .unset, .unset] d1_13 rfl ?_
  refine g_iconst K 14 (0 : Int32) d1_14 (by decide) ?_
  refine g_istore K 15 #[.val (.ref ar), .val (.int (3 : Int32)), .val (.int (0 : Int32)), .val (.int (-1756908913 : Int32)), .val (.int (0 : Int32)), .unset] d1_15 rfl ?_
  refine g_iload K 17 d1_17 rfl ?_
  refine g_iloadN K 19 d1_19 rfl ?_
  refine g_ii_ge K 20 115 d1_20 (by decide) (by decide) ?_ ?_
  · intro c1
    refine g_iloadN K 115 d1_115 rfl ?_
    refine g_iloadN K 116 d1_116 rfl ?_
    refine g_isub K 117 d1_117 ?_
    rw [show ((3 : Int32) - (0 : Int32)) = (3 : Int32) from by decide]
    refine g_istore K 118 #[.val (.ref ar), .val (.int (3 : Int32)), .val (.int (0 : Int32)), .val (.int (-1756908913 : Int32)), .val (.int (3 : Int32)), .unset] d1_118 rfl ?_
    refine g_iload K 120 d1_120 rfl ?_
    refine g_iconst K 122 (3 : Int32) d1_122 (by decide) ?_
    refine g_ii_ne K 123 141 d1_123 (by decide) (by decide) ?_ ?_
    · intro c2
      exact absurd c2 (by decide)
    · intro c2
      refine g_iloadN K 126 d1_126 rfl ?_
      refine g_aloadN K 127 d1_127 rfl rfl ?_
      refine g_iloadN K 128 d1_128 rfl ?_
      refine g_iconst K 129 (2 : Int32) d1_129 (by decide) ?_
      refine g_iadd K 130 d1_130 ?_
      rw [show ((0 : Int32) + (2 : Int32)) = (2 : Int32) from by decide]
      refine g_baload K 131 b2 d1_131 A0 (by decide) (by rw [show (2 : Int32).toNatClampNeg = 2 from by decide]; rfl) ?_
      refine g_sipush K 132 (255 : Int32) d1_132 (by decide) ?_
      refine g_iand K 135 d1_135 ?_
      refine g_bipush K 136 (16 : Int32) d1_136 (by decide) ?_
      refine g_ishl K 138 d1_138 ?_
      refine g_ixor K 139 d1_139 ?_
      refine g_istoreN K 140 #[.val (.ref ar), .val (.int (3 : Int32)), .val (.int (0 : Int32)), .val (.int ((-1756908913 : Int32) ^^^ ((b2 &&& (255 : Int32)) <<< ((16 : Int32) &&& 31)))), .val (.int (3 : Int32)), .unset] d1_140 rfl ?_
      refine g_iload K 141 d1_141 rfl ?_
      refine g_iconst K 143 (2 : Int32) d1_143 (by decide) ?_
      refine g_ii_lt K 144 162 d1_144 (by decide) (by decide) ?_ ?_
      · intro c3
        exact absurd c3 (by decide)
      · intro c3
        refine g_iloadN K 147 d1_147 rfl ?_
        refine g_aloadN K 148 d1_148 rfl rfl ?_
        refine g_iloadN K 149 d1_149 rfl ?_
        refine g_iconst K 150 (1 : Int32) d1_150 (by decide) ?_
        refine g_iadd K 151 d1_151 ?_
        rw [show ((0 : Int32) + (1 : Int32)) = (1 : Int32) from by decide]
        refine g_baload K 152 b1 d1_152 A0 (by decide) (by rw [show (1 : Int32).toNatClampNeg = 1 from by decide]; rfl) ?_
        refine g_sipush K 153 (255 : Int32) d1_153 (by decide) ?_
        refine g_iand K 156 d1_156 ?_
        refine g_bipush K 157 (8 : Int32) d1_157 (by decide) ?_
        refine g_ishl K 159 d1_159 ?_
        refine g_ixor K 160 d1_160 ?_
        refine g_istoreN K 161 #[.val (.ref ar), .val (.int (3 : Int32)), .val (.int (0 : Int32)), .val (.int (((-1756908913 : Int32) ^^^ ((b2 &&& (255 : Int32)) <<< ((16 : Int32) &&& 31))) ^^^ ((b1 &&& (255 : Int32)) <<< ((8 : Int32) &&& 31)))), .val (.int (3 : Int32)), .unset] d1_161 rfl ?_
        refine g_iload K 162 d1_162 rfl ?_
        refine g_iconst K 164 (1 : Int32) d1_164 (by decide) ?_
        refine g_ii_lt K 165 183 d1_165 (by decide) (by decide) ?_ ?_
        · intro c4
          exact absurd c4 (by decide)
        · intro c4
          refine g_iloadN K 168 d1_168 rfl ?_
          refine g_aloadN K 169 d1_169 rfl rfl ?_
          refine g_iloadN K 170 d1_170 rfl ?_
          refine g_baload K 171 b0 d1_171 A0 (by decide) (by rw [show (0 : Int32).toNatClampNeg = 0 from by decide]; rfl) ?_
          refine g_sipush K 172 (255 : Int32) d1_172 (by decide) ?_
          refine g_iand K 175 d1_175 ?_
          refine g_ixor K 176 d1_176 ?_
          refine g_istoreN K 177 #[.val (.ref ar), .val (.int (3 : Int32)), .val (.int (0 : Int32)), .val (.int ((((-1756908913 : Int32) ^^^ ((b2 &&& (255 : Int32)) <<< ((16 : Int32) &&& 31))) ^^^ ((b1 &&& (255 : Int32)) <<< ((8 : Int32) &&& 31))) ^^^ (b0 &&& (255 : Int32)))), .val (.int (3 : Int32)), .unset] d1_177 rfl ?_
          refine g_iloadN K 178 d1_178 rfl ?_
          refine g_ldc K 179 (v := (1540483477 : Int32)) d1_179 (tw hw 8 rfl) ?_
          refine g_imul K 181 d1_181 ?_
          refine g_istoreN K 182 #[.val (.ref ar), .val (.int (3 : Int32)), .val (.int (0 : Int32)), .val (.int (((((-1756908913 : Int32) ^^^ ((b2 &&& (255 : Int32)) <<< ((16 : Int32) &&& 31))) ^^^ ((b1 &&& (255 : Int32)) <<< ((8 : Int32) &&& 31))) ^^^ (b0 &&& (255 : Int32))) * (1540483477 : Int32))), .val (.int (3 : Int32)), .unset] d1_182 rfl ?_
          refine g_iloadN K 183 d1_183 rfl ?_
          refine g_iloadN K 184 d1_184 rfl ?_
          refine g_bipush K 185 (13 : Int32) d1_185 (by decide) ?_
          refine g_iushr K 187 d1_187 ?_
          refine g_ixor K 188 d1_188 ?_
          refine g_istoreN K 189 #[.val (.ref ar), .val (.int (3 : Int32)), .val (.int (0 : Int32)), .val (.int ((((((-1756908913 : Int32) ^^^ ((b2 &&& (255 : Int32)) <<< ((16 : Int32) &&& 31))) ^^^ ((b1 &&& (255 : Int32)) <<< ((8 : Int32) &&& 31))) ^^^ (b0 &&& (255 : Int32))) * (1540483477 : Int32)) ^^^ (XT.ushr (((((-1756908913 : Int32) ^^^ ((b2 &&& (255 : Int32)) <<< ((16 : Int32) &&& 31))) ^^^ ((b1 &&& (255 : Int32)) <<< ((8 : Int32) &&& 31))) ^^^ (b0 &&& (255 : Int32))) * (1540483477 : Int32)) (13 : Int32)))), .val (.int (3 : Int32)), .unset] d1_189 rfl ?_
          refine g_iloadN K 190 d1_190 rfl ?_
          refine g_ldc K 191 (v := (1540483477 : Int32)) d1_191 (tw hw 8 rfl) ?_
          refine g_imul K 193 d1_193 ?_
          refine g_istoreN K 194 #[.val (.ref ar), .val (.int (3 : Int32)), .val (.int (0 : Int32)), .val (.int (((((((-1756908913 : Int32) ^^^ ((b2 &&& (255 : Int32)) <<< ((16 : Int32) &&& 31))) ^^^ ((b1 &&& (255 : Int32)) <<< ((8 : Int32) &&& 31))) ^^^ (b0 &&& (255 : Int32))) * (1540483477 : Int32)) ^^^ (XT.ushr (((((-1756908913 : Int32) ^^^ ((b2 &&& (255 : Int32)) <<< ((16 : Int32) &&& 31))) ^^^ ((b1 &&& (255 : Int32)) <<< ((8 : Int32) &&& 31))) ^^^ (b0 &&& (255 : Int32))) * (1540483477 : Int32)) (13 : Int32))) * (1540483477 : Int32))), .val (.int (3 : Int32)), .unset] d1_194 rfl ?_
          refine g_iloadN K 195 d1_195 rfl ?_
          refine g_iloadN K 196 d1_196 rfl ?_
          refine g_bipush K 197 (15 : Int32) d1_197 (by decide) ?_
          refine g_iushr K 199 d1_199 ?_
          refine g_ixor K 200 d1_200 ?_
          refine g_istoreN K 201 #[.val (.ref ar), .val (.int (3 : Int32)), .val (.int (0 : Int32)), .val (.int ((((((((-1756908913 : Int32) ^^^ ((b2 &&& (255 : Int32)) <<< ((16 : Int32) &&& 31))) ^^^ ((b1 &&& (255 : Int32)) <<< ((8 : Int32) &&& 31))) ^^^ (b0 &&& (255 : Int32))) * (1540483477 : Int32)) ^^^ (XT.ushr (((((-1756908913 : Int32) ^^^ ((b2 &&& (255 : Int32)) <<< ((16 : Int32) &&& 31))) ^^^ ((b1 &&& (255 : Int32)) <<< ((8 : Int32) &&& 31))) ^^^ (b0 &&& (255 : Int32))) * (1540483477 : Int32)) (13 : Int32))) * (1540483477 : Int32)) ^^^ (XT.ushr (((((((-1756908913 : Int32) ^^^ ((b2 &&& (255 : Int32)) <<< ((16 : Int32) &&& 31))) ^^^ ((b1 &&& (255 : Int32)) <<< ((8 : Int32) &&& 31))) ^^^ (b0 &&& (255 : Int32))) * (1540483477 : Int32)) ^^^ (XT.ushr (((((-1756908913 : Int32) ^^^ ((b2 &&& (255 : Int32)) <<< ((16 : Int32) &&& 31))) ^^^ ((b1 &&& (255 : Int32)) <<< ((8 : Int32) &&& 31))) ^^^ (b0 &&& (255 : Int32))) * (1540483477 : Int32)) (13 : Int32))) * (1540483477 : Int32)) (15 : Int32)))), .val (.int (3 : Int32)), .unset] d1_201 rfl ?_
          refine g_iloadN K 202 d1_202 rfl ?_
          refine g_ireturn K 203 d1_203 rfl (by decide) (by decide) ?_
          rw [hQ]
          refine ⟨?_, rfl⟩
          show some (Value.int _) = some (Value.int (f_mur3 b0 b1 b2))
          unfold f_mur3
          rfl
  · intro c1
    exact absurd c1 (by decide)
def f_mur4 (b0 : Int32) (b1 : Int32) (b2 : Int32) (b3 : Int32) : Int32 := (((((1732292904 : Int32) ^^^ (((((((b0 &&& (255 : Int32)) ||| ((b1 &&& (255 : Int32)) <<< ((8 : Int32) &&& 31))) ||| ((b2 &&& (255 : Int32)) <<< ((16 : Int32) &&& 31))) ||| ((b3 &&& (255 : Int32)) <<< ((24 : Int32) &&& 31))) * (1540483477 : Int32)) ^^^ (XT.ushr (((((b0 &&& (255 : Int32)) ||| ((b1 &&& (255 : Int32)) <<< ((8 : Int32) &&& 31))) ||| ((b2 &&& (255 : Int32)) <<< ((16 : Int32) &&& 31))) ||| ((b3 &&& (255 : Int32)) <<< ((24 : Int32) &&& 31))) * (1540483477 : Int32)) (24 : Int32))) * (1540483477 : Int32))) ^^^ (XT.ushr ((1732292904 : Int32) ^^^ (((((((b0 &&& (255 : Int32)) ||| ((b1 &&& (255 : Int32)) <<< ((8 : Int32) &&& 31))) ||| ((b2 &&& (255 : Int32)) <<< ((16 : Int32) &&& 31))) ||| ((b3 &&& (255 : Int32)) <<< ((24 : Int32) &&& 31))) * (1540483477 : Int32)) ^^^ (XT.ushr (((((b0 &&& (255 : Int32)) ||| ((b1 &&& (255 : Int32)) <<< ((8 : Int32) &&& 31))) ||| ((b2 &&& (255 : Int32)) <<< ((16 : Int32) &&& 31))) ||| ((b3 &&& (255 : Int32)) <<< ((24 : Int32) &&& 31))) * (1540483477 : Int32)) (24 : Int32))) * (1540483477 : Int32))) (13 : Int32))) * (1540483477 : Int32)) ^^^ (XT.ushr ((((1732292904 : Int32) ^^^ (((((((b0 &&& (255 : Int32)) ||| ((b1 &&& (255 : Int32)) <<< ((8 : Int32) &&& 31))) ||| ((b2 &&& (255 : Int32)) <<< ((16 : Int32) &&& 31))) ||| ((b3 &&& (255 : Int32)) <<< ((24 : Int32) &&& 31))) * (1540483477 : Int32)) ^^^ (XT.ushr (((((b0 &&& (255 : Int32)) ||| ((b1 &&& (255 : Int32)) <<< ((8 : Int32) &&& 31))) ||| ((b2 &&& (255 : Int32)) <<< ((16 : Int32) &&& 31))) ||| ((b3 &&& (255 : Int32)) <<< ((24 : Int32) &&& 31))) * (1540483477 : Int32)) (24 : Int32))) * (1540483477 : Int32))) ^^^ (XT.ushr ((1732292904 : Int32) ^^^ (((((((b0 &&& (255 : Int32)) ||| ((b1 &&& (255 : Int32)) <<< ((8 : Int32) &&& 31))) ||| ((b2 &&& (255 : Int32)) <<< ((16 : Int32) &&& 31))) ||| ((b3 &&& (255 : Int32)) <<< ((24 : Int32) &&& 31))) * (1540483477 : Int32)) ^^^ (XT.ushr (((((b0 &&& (255 : Int32)) ||| ((b1 &&& (255 : Int32)) <<< ((8 : Int32) &&& 31))) ||| ((b2 &&& (255 : Int32)) <<< ((16 : Int32) &&& 31))) ||| ((b3 &&& (255 : Int32)) <<< ((24 : Int32) &&& 31))) * (1540483477 : Int32)) (24 : Int32))) * (1540483477 : Int32))) (13 : Int32))) * (1540483477 : Int32)) (15 : Int32)))
set_option maxRecDepth 65536 in
set_option maxHeartbeats 40000000 in
theorem rm_mur4 (l : Launch) (Z : State) (a0 : Array Value) (hw : ∀ d ∈ tables_1, d.before a0 Z = true) (ar : Addr) (h0 : Heap) (n0 : Nat) (Z0 : n0 ≤ h0.size) (b0 : Int32) (b1 : Int32) (b2 : Int32) (b3 : Int32) (A0 : IA Z h0 ar .byte [b0, b1, b2, b3]) :
    Meets l (⟨"com/example/batchwright/batchwright/producer/Partitioner", "murmur2", "([B)I"⟩ : MethodName) prog_29_method_3_code 6 (some .int) ({ frames := 0, cells := 0, slots := 0, locals := 0 } : Room) Z #[(.ref ar)] h0 n0 (fun v h => v = some (Value.int (f_mur4 b0 b1 b2 b3)) ∧ h = h0) := by
  refine meets_of (plainFor_of_name pn0) (Ls := #[.val (.ref ar), .unset, .unset, .unset, .unset, .unset]) (fun m => by first | (simp [entryFrame, mkF, argsToLocals, Value.category]; done) | rfl) ?_
  intro p e s m below meth c K
  replace K : Kx Z "com/example/batchwright/batchwright/producer/Partitioner" "murmur2" prog_29_method_3_code 6 (some .int) p s m meth c := K
  obtain ⟨Q, hQ⟩ : ∃ Q : Option Value → Heap → Prop, Q = (fun v h => v = some (Value.int (f_mur4 b0 b1 b2 b3)) ∧ h = h0) := ⟨_, rfl⟩
  rw [← hQ]
  refine g_aloadN K 0 d1_0 rfl rfl ?_
  refine g_alen K 1 (4 : Int32) d1_1 A0 (show (4 : Nat).toInt32 = (4 : Int32) from by decide) ?_
  refine g_istoreN K 2 #[.val (.ref ar), .val (.int (4 : Int32)), .unset, .unset, .unset, .unset] d1_2 rfl ?_
  refine g_iloadN K 3 d1_3 rfl ?_
  refine g_iloadN K 4 d1_4 rfl ?_
  refine g_iconst K 5 (4 : Int32) d1_5 (by decide) ?_
  refine g_irem K 6 d1_6 (by decide) ?_
  rw [show ((4 : Int32) % (4 : Int32)) = (0 : Int32) from by decide]
  refine g_isub K 7 d1_7 ?_
  rw [show ((4 : Int32) - (0 : Int32)) = (4 : Int32) from by decide]
  refine g_istoreN K 8 #[.val (.ref ar), .val (.int (4 : Int32)), .val (.int (4 : Int32)), .unset, .unset, .unset] d1_8 rfl ?_
  refine g_ldc K 9 (v := (-1756908916 : Int32)) d1_9 (tw hw 7 rfl) ?_
  refine g_iloadN K 11 d1_11 rfl ?_
  refine g_ixor K 12 d1_12 ?_
  rw [show ((-1756908916 : Int32) ^^^ (4 : Int32)) = (-1756908920 : Int32) from by decide]
  refine g_istoreN K 13 #[.val (.ref ar), .val (.int (4 : Int32)), .val (.int (4 : Int32)), .val (.int (-1756908920 : Int32)), .unset, .unset] d1_13 rfl ?_
  refine g_iconst K 14 (0 : Int32) d1_14 (by decide) ?_
  refine g_istore K 15 #[.val (.ref ar), .val (.int (4 : Int32)), .val (.int (4 : Int32)), .val (.int (-1756908920 : Int32)), .val (.int (0 : Int32)), .unset] d1_15 rfl ?_
  refine g_iload K 17 d1_17 rfl ?_
  refine g_iloadN K 19 d1_19 rfl ?_
  refine g_ii_ge K 20 115 d1_20 (by decide) (by decide) ?_ ?_
  · intro c1
    exact absurd c1 (by decide)
  · intro c1
    refine g_aloadN K 23 d1_23 rfl rfl ?_
    refine g_iload K 24 d1_24 rfl ?_
    refine g_baload K 26 b0 d1_26 A0 (by decide) (by rw [show (0 : Int32).toNatClampNeg = 0 from by decide]; rfl) ?_
    refine g_sipush K 27 (255 : Int32) d1_27 (by decide) ?_
    refine g_iand K 30 d1_30 ?_
    refine g_aloadN K 31 d1_31 rfl rfl ?_
    refine g_iload K 32 d1_32 rfl ?_
    refine g_iconst K 34 (1 : Int32) d1_34 (by decide) ?_
    refine g_iadd K 35 d1_35 ?_
    rw [show ((0 : Int32) + (1 : Int32)) = (1 : Int32) from by decide]
    refine g_baload K 36 b1 d1_36 A0 (by decide) (by rw [show (1 : Int32).toNatClampNeg = 1 from by decide]; rfl) ?_
    refine g_sipush K 37 (255 : Int32) d1_37 (by decide) ?_
    refine g_iand K 40 d1_40 ?_
    refine g_bipush K 41 (8 : Int32) d1_41 (by decide) ?_
    refine g_ishl K 43 d1_43 ?_
    refine g_ior K 44 d1_44 ?_
    refine g_aloadN K 45 d1_45 rfl rfl ?_
    refine g_iload K 46 d1_46 rfl ?_
    refine g_iconst K 48 (2 : Int32) d1_48 (by decide) ?_
    refine g_iadd K 49 d1_49 ?_
    rw [show ((0 : Int32) + (2 : Int32)) = (2 : Int32) from by decide]
    refine g_baload K 50 b2 d1_50 A0 (by decide) (by rw [show (2 : Int32).toNatClampNeg = 2 from by decide]; rfl) ?_
    refine g_sipush K 51 (255 : Int32) d1_51 (by decide) ?_
    refine g_iand K 54 d1_54 ?_
    refine g_bipush K 55 (16 : Int32) d1_55 (by decide) ?_
    refine g_ishl K 57 d1_57 ?_
    refine g_ior K 58 d1_58 ?_
    refine g_aloadN K 59 d1_59 rfl rfl ?_
    refine g_iload K 60 d1_60 rfl ?_
    refine g_iconst K 62 (3 : Int32) d1_62 (by decide) ?_
    refine g_iadd K 63 d1_63 ?_
    rw [show ((0 : Int32) + (3 : Int32)) = (3 : Int32) from by decide]
    refine g_baload K 64 b3 d1_64 A0 (by decide) (by rw [show (3 : Int32).toNatClampNeg = 3 from by decide]; rfl) ?_
    refine g_sipush K 65 (255 : Int32) d1_65 (by decide) ?_
    refine g_iand K 68 d1_68 ?_
    refine g_bipush K 69 (24 : Int32) d1_69 (by decide) ?_
    refine g_ishl K 71 d1_71 ?_
    refine g_ior K 72 d1_72 ?_
    refine g_istore K 73 #[.val (.ref ar), .val (.int (4 : Int32)), .val (.int (4 : Int32)), .val (.int (-1756908920 : Int32)), .val (.int (0 : Int32)), .val (.int ((((b0 &&& (255 : Int32)) ||| ((b1 &&& (255 : Int32)) <<< ((8 : Int32) &&& 31))) ||| ((b2 &&& (255 : Int32)) <<< ((16 : Int32) &&& 31))) ||| ((b3 &&& (255 : Int32)) <<< ((24 : Int32) &&& 31))))] d1_73 rfl ?_
    refine g_iload K 75 d1_75 rfl ?_
    refine g_ldc K 77 (v := (1540483477 : Int32)) d1_77 (tw hw 8 rfl) ?_
    refine g_imul K 79 d1_79 ?_
    refine g_istore K 80 #[.val (.ref ar), .val (.int (4 : Int32)), .val (.int (4 : Int32)), .val (.int (-1756908920 : Int32)), .val (.int (0 : Int32)), .val (.int (((((b0 &&& (255 : Int32)) ||| ((b1 &&& (255 : Int32)) <<< ((8 : Int32) &&& 31))) ||| ((b2 &&& (255 : Int32)) <<< ((16 : Int32) &&& 31))) ||| ((b3 &&& (255 : Int32)) <<< ((24 : Int32) &&& 31))) * (1540483477 : Int32)))] d1_80 rfl ?_
    refine g_iload K 82 d1_82 rfl ?_
    refine g_iload K 84 d1_84 rfl ?_
    refine g_bipush K 86 (24 : Int32) d1_86 (by decide) ?_
    refine g_iushr K 88 d1_88 ?_
    refine g_ixor K 89 d1_89 ?_
    refine g_istore K 90 #[.val (.ref ar), .val (.int (4 : Int32)), .val (.int (4 : Int32)), .val (.int (-1756908920 : Int32)), .val (.int (0 : Int32)), .val (.int ((((((b0 &&& (255 : Int32)) ||| ((b1 &&& (255 : Int32)) <<< ((8 : Int32) &&& 31))) ||| ((b2 &&& (255 : Int32)) <<< ((16 : Int32) &&& 31))) ||| ((b3 &&& (255 : Int32)) <<< ((24 : Int32) &&& 31))) * (1540483477 : Int32)) ^^^ (XT.ushr (((((b0 &&& (255 : Int32)) ||| ((b1 &&& (255 : Int32)) <<< ((8 : Int32) &&& 31))) ||| ((b2 &&& (255 : Int32)) <<< ((16 : Int32) &&& 31))) ||| ((b3 &&& (255 : Int32)) <<< ((24 : Int32) &&& 31))) * (1540483477 : Int32)) (24 : Int32))))] d1_90 rfl ?_
    refine g_iload K 92 d1_92 rfl ?_
    refine g_ldc K 94 (v := (1540483477 : Int32)) d1_94 (tw hw 8 rfl) ?_
    refine g_imul K 96 d1_96 ?_
    refine g_istore K 97 #[.val (.ref ar), .val (.int (4 : Int32)), .val (.int (4 : Int32)), .val (.int (-1756908920 : Int32)), .val (.int (0 : Int32)), .val (.int (((((((b0 &&& (255 : Int32)) ||| ((b1 &&& (255 : Int32)) <<< ((8 : Int32) &&& 31))) ||| ((b2 &&& (255 : Int32)) <<< ((16 : Int32) &&& 31))) ||| ((b3 &&& (255 : Int32)) <<< ((24 : Int32) &&& 31))) * (1540483477 : Int32)) ^^^ (XT.ushr (((((b0 &&& (255 : Int32)) ||| ((b1 &&& (255 : Int32)) <<< ((8 : Int32) &&& 31))) ||| ((b2 &&& (255 : Int32)) <<< ((16 : Int32) &&& 31))) ||| ((b3 &&& (255 : Int32)) <<< ((24 : Int32) &&& 31))) * (1540483477 : Int32)) (24 : Int32))) * (1540483477 : Int32)))] d1_97 rfl ?_
    refine g_iloadN K 99 d1_99 rfl ?_
    refine g_ldc K 100 (v := (1540483477 : Int32)) d1_100 (tw hw 8 rfl) ?_
    refine g_imul K 102 d1_102 ?_
    rw [show ((-1756908920 : Int32) * (1540483477 : Int32)) = (1732292904 : Int32) from by decide]
    refine g_istoreN K 103 #[.val (.ref ar), .val (.int (4 : Int32)), .val (.int (4 : Int32)), .val (.int (1732292904 : Int32)), .val (.int (0 : Int32)), .val (.int (((((((b0 &&& (255 : Int32)) ||| ((b1 &&& (255 : Int32)) <<< ((8 : Int32) &&& 31))) ||| ((b2 &&& (255 : Int32)) <<< ((16 : Int32) &&& 31))) ||| ((b3 &&& (255 : Int32)) <<< ((24 : Int32) &&& 31))) * (1540483477 : Int32)) ^^^ (XT.ushr (((((b0 &&& (255 : Int32)) ||| ((b1 &&& (255 : Int32)) <<< ((8 : Int32) &&& 31))) ||| ((b2 &&& (255 : Int32)) <<< ((16 : Int32) &&& 31))) ||| ((b3 &&& (255 : Int32)) <<< ((24 : Int32) &&& 31))) * (1540483477 : Int32)) (24 : Int32))) * (1540483477 : Int32)))] d1_103 rfl ?_
    refine g_iloadN K 104 d1_104 rfl ?_
    refine g_iload K 105 d1_105 rfl ?_
    refine g_ixor K 107 d1_107 ?_
    refine g_istoreN K 108 #[.val (.ref ar), .val (.int (4 : Int32)), .val (.int (4 : Int32)), .val (.int ((1732292904 : Int32) ^^^ (((((((b0 &&& (255 : Int32)) ||| ((b1 &&& (255 : Int32)) <<< ((8 : Int32) &&& 31))) ||| ((b2 &&& (255 : Int32)) <<< ((16 : Int32) &&& 31))) ||| ((b3 &&& (255 : Int32)) <<< ((24 : Int32) &&& 31))) * (1540483477 : Int32)) ^^^ (XT.ushr (((((b0 &&& (255 : Int32)) ||| ((b1 &&& (255 : Int32)) <<< ((8 : Int32) &&& 31))) ||| ((b2 &&& (255 : Int32)) <<< ((16 : Int32) &&& 31))) ||| ((b3 &&& (255 : Int32)) <<< ((24 : Int32) &&& 31))) * (1540483477 : Int32)) (24 : Int32))) * (1540483477 : Int32)))), .val (.int (0 : Int32)), .val (.int (((((((b0 &&& (255 : Int32)) ||| ((b1 &&& (255 : Int32)) <<< ((8 : Int32) &&& 31))) ||| ((b2 &&& (255 : Int32)) <<< ((16 : Int32) &&& 31))) ||| ((b3 &&& (255 : Int32)) <<< ((24 : Int32) &&& 31))) * (1540483477 : Int32)) ^^^ (XT.ushr (((((b0 &&& (255 : Int32)) ||| ((b1 &&& (255 : Int32)) <<< ((8 : Int32) &&& 31))) ||| ((b2 &&& (255 : Int32)) <<< ((16 : Int32) &&& 31))) ||| ((b3 &&& (255 : Int32)) <<< ((24 : Int32) &&& 31))) * (1540483477 : Int32)) (24 : Int32))) * (1540483477 : Int32)))] d1_108 rfl ?_
    refine g_iinc K 109 (4 : Int32) #[.val (.ref ar), .val (.int (4 : Int32)), .val (.int (4 : Int32)), .val (.int ((1732292904 : Int32) ^^^ (((((((b0 &&& (255 : Int32)) ||| ((b1 &&& (255 : Int32)) <<< ((8 : Int32) &&& 31))) ||| ((b2 &&& (255 : Int32)) <<< ((16 : Int32) &&& 31))) ||| ((b3 &&& (255 : Int32)) <<< ((24 : Int32) &&& 31))) * (1540483477 : Int32)) ^^^ (XT.ushr (((((b0 &&& (255 : Int32)) ||| ((b1 &&& (255 : Int32)) <<< ((8 : Int32) &&& 31))) ||| ((b2 &&& (255 : Int32)) <<< ((16 : Int32) &&& 31))) ||| ((b3 &&& (255 : Int32)) <<< ((24 : Int32) &&& 31))) * (1540483477 : Int32)) (24 : Int32))) * (1540483477 : Int32)))), .val (.int ((0 : Int32) + (4 : Int32))), .val (.int (((((((b0 &&& (255 : Int32)) ||| ((b1 &&& (255 : Int32)) <<< ((8 : Int32) &&& 31))) ||| ((b2 &&& (255 : Int32)) <<< ((16 : Int32) &&& 31))) ||| ((b3 &&& (255 : Int32)) <<< ((24 : Int32) &&& 31))) * (1540483477 : Int32)) ^^^ (XT.ushr (((((b0 &&& (255 : Int32)) ||| ((b1 &&& (255 : Int32)) <<< ((8 : Int32) &&& 31))) ||| ((b2 &&& (255 : Int32)) <<< ((16 : Int32) &&& 31))) ||| ((b3 &&& (255 : Int32)) <<< ((24 : Int32) &&& 31))) * (1540483477 : Int32)) (24 : Int32))) * (1540483477 : Int32)))] d1_109 (by decide) rfl rfl ?_
    rw [show ((0 : Int32) + (4 : Int32)) = (4 : Int32) from by decide]
    refine g_goto K 112 17 d1_112 (by decide) (by decide) ?_
    refine g_iload K 17 d1_17 rfl ?_
    refine g_iloadN K 19 d1_19 rfl ?_
    refine g_ii_ge K 20 115 d1_20 (by decide) (by decide) ?_ ?_
    · intro c2
      refine g_iloadN K 115 d1_115 rfl ?_
      refine g_iloadN K 116 d1_116 rfl ?_
      refine g_isub K 117 d1_117 ?_
      rw [show ((4 : Int32) - (4 : Int32)) = (0 : Int32) from by decide]
      refine g_istore K 118 #[.val (.ref ar), .val (.int (4 : Int32)), .val (.int (4 : Int32)), .val (.int ((1732292904 : Int32) ^^^ (((((((b0 &&& (255 : Int32)) ||| ((b1 &&& (255 : Int32)) <<< ((8 : Int32) &&& 31))) ||| ((b2 &&& (255 : Int32)) <<< ((16 : Int32) &&& 31))) ||| ((b3 &&& (255 : Int32)) <<< ((24 : Int32) &&& 31))) * (1540483477 : Int32)) ^^^ (XT.ushr (((((b0 &&& (255 : Int32)) ||| ((b1 &&& (255 : Int32)) <<< ((8 : Int32) &&& 31))) ||| ((b2 &&& (255 : Int32)) <<< ((16 : Int32) &&& 31))) ||| ((b3 &&& (255 : Int32)) <<< ((24 : Int32) &&& 31))) * (1540483477 : Int32)) (24 : Int32))) * (1540483477 : Int32)))), .val (.int (0 : Int32)), .val (.int (((((((b0 &&& (255 : Int32)) ||| ((b1 &&& (255 : Int32)) <<< ((8 : Int32) &&& 31))) ||| ((b2 &&& (255 : Int32)) <<< ((16 : Int32) &&& 31))) ||| ((b3 &&& (255 : Int32)) <<< ((24 : Int32) &&& 31))) * (1540483477 : Int32)) ^^^ (XT.ushr (((((b0 &&& (255 : Int32)) ||| ((b1 &&& (255 : Int32)) <<< ((8 : Int32) &&& 31))) ||| ((b2 &&& (255 : Int32)) <<< ((16 : Int32) &&& 31))) ||| ((b3 &&& (255 : Int32)) <<< ((24 : Int32) &&& 31))) * (1540483477 : Int32)) (24 : Int32))) * (1540483477 : Int32)))] d1_118 rfl ?_
      refine g_iload K 120 d1_120 rfl ?_
      refine g_iconst K 122 (3 : Int32) d1_122 (by decide) ?_
      refine g_ii_ne K 123 141 d1_123 (by decide) (by decide) ?_ ?_
      · intro c3
        refine g_iload K 141 d1_141 rfl ?_
        refine g_iconst K 143 (2 : Int32) d1_143 (by decide) ?_
        refine g_ii_lt K 144 162 d1_144 (by decide) (by decide) ?_ ?_
        · intro c4
          refine g_iload K 162 d1_162 rfl ?_
          refine g_iconst K 164 (1 : Int32) d1_164 (by decide) ?_
          refine g_ii_lt K 165 183 d1_165 (by decide) (by decide) ?_ ?_
          · intro c5
            refine g_iloadN K 183 d1_183 rfl ?_
            refine g_iloadN K 184 d1_184 rfl ?_
            refine g_bipush K 185 (13 : Int32) d1_185 (by decide) ?_
            refine g_iushr K 187 d1_187 ?_
            refine g_ixor K 188 d1_188 ?_
            refine g_istoreN K 189 #[.val (.ref ar), .val (.int (4 : Int32)), .val (.int (4 : Int32)), .val (.int (((1732292904 : Int32) ^^^ (((((((b0 &&& (255 : Int32)) ||| ((b1 &&& (255 : Int32)) <<< ((8 : Int32) &&& 31))) ||| ((b2 &&& (255 : Int32)) <<< ((16 : Int32) &&& 31))) ||| ((b3 &&& (255 : Int32)) <<< ((24 : Int32) &&& 31))) * (1540483477 : Int32)) ^^^ (XT.ushr (((((b0 &&& (255 : Int32)) ||| ((b1 &&& (255 : Int32)) <<< ((8 : Int32) &&& 31))) ||| ((b2 &&& (255 : Int32)) <<< ((16 : Int32) &&& 31))) ||| ((b3 &&& (255 : Int32)) <<< ((24 : Int32) &&& 31))) * (1540483477 : Int32)) (24 : Int32))) * (1540483477 : Int32))) ^^^ (XT.ushr ((1732292904 : Int32) ^^^ (((((((b0 &&& (255 : Int32)) ||| ((b1 &&& (255 : Int32)) <<< ((8 : Int32) &&& 31))) ||| ((b2 &&& (255 : Int32)) <<< ((16 : Int32) &&& 31))) ||| ((b3 &&& (255 : Int32)) <<< ((24 : Int32) &&& 31))) * (1540483477 : Int32)) ^^^ (XT.ushr (((((b0 &&& (255 : Int32)) ||| ((b1 &&& (255 : Int32)) <<< ((8 : Int32) &&& 31))) ||| ((b2 &&& (255 : Int32)) <<< ((16 : Int32) &&& 31))) ||| ((b3 &&& (255 : Int32)) <<< ((24 : Int32) &&& 31))) * (1540483477 : Int32)) (24 : Int32))) * (1540483477 : Int32))) (13 : Int32)))), .val (.int (0 : Int32)), .val (.int (((((((b0 &&& (255 : Int32)) ||| ((b1 &&& (255 : Int32)) <<< ((8 : Int32) &&& 31))) ||| ((b2 &&& (255 : Int32)) <<< ((16 : Int32) &&& 31))) ||| ((b3 &&& (255 : Int32)) <<< ((24 : Int32) &&& 31))) * (1540483477 : Int32)) ^^^ (XT.ushr (((((b0 &&& (255 : Int32)) ||| ((b1 &&& (255 : Int32)) <<< ((8 : Int32) &&& 31))) ||| ((b2 &&& (255 : Int32)) <<< ((16 : Int32) &&& 31))) ||| ((b3 &&& (255 : Int32)) <<< ((24 : Int32) &&& 31))) * (1540483477 : Int32)) (24 : Int32))) * (1540483477 : Int32)))] d1_189 rfl ?_
            refine g_iloadN K 190 d1_190 rfl ?_
            refine g_ldc K 191 (v := (1540483477 : Int32)) d1_191 (tw hw 8 rfl) ?_
            refine g_imul K 193 d1_193 ?_
            refine g_istoreN K 194 #[.val (.ref ar), .val (.int (4 : Int32)), .val (.int (4 : Int32)), .val (.int ((((1732292904 : Int32) ^^^ (((((((b0 &&& (255 : Int32)) ||| ((b1 &&& (255 : Int32)) <<< ((8 : Int32) &&& 31))) ||| ((b2 &&& (255 : Int32)) <<< ((16 : Int32) &&& 31))) ||| ((b3 &&& (255 : Int32)) <<< ((24 : Int32) &&& 31))) * (1540483477 : Int32)) ^^^ (XT.ushr (((((b0 &&& (255 : Int32)) ||| ((b1 &&& (255 : Int32)) <<< ((8 : Int32) &&& 31))) ||| ((b2 &&& (255 : Int32)) <<< ((16 : Int32) &&& 31))) ||| ((b3 &&& (255 : Int32)) <<< ((24 : Int32) &&& 31))) * (1540483477 : Int32)) (24 : Int32))) * (1540483477 : Int32))) ^^^ (XT.ushr ((1732292904 : Int32) ^^^ (((((((b0 &&& (255 : Int32)) ||| ((b1 &&& (255 : Int32)) <<< ((8 : Int32) &&& 31))) ||| ((b2 &&& (255 : Int32)) <<< ((16 : Int32) &&& 31))) ||| ((b3 &&& (255 : Int32)) <<< ((24 : Int32) &&& 31))) * (1540483477 : Int32)) ^^^ (XT.ushr (((((b0 &&& (255 : Int32)) ||| ((b1 &&& (255 : Int32)) <<< ((8 : Int32) &&& 31))) ||| ((b2 &&& (255 : Int32)) <<< ((16 : Int32) &&& 31))) ||| ((b3 &&& (255 : Int32)) <<< ((24 : Int32) &&& 31))) * (1540483477 : Int32)) (24 : Int32))) * (1540483477 : Int32))) (13 : Int32))) * (1540483477 : Int32))), .val (.int (0 : Int32)), .val (.int (((((((b0 &&& (255 : Int32)) ||| ((b1 &&& (255 : Int32)) <<< ((8 : Int32) &&& 31))) ||| ((b2 &&& (255 : Int32)) <<< ((16 : Int32) &&& 31))) ||| ((b3 &&& (255 : Int32)) <<< ((24 : Int32) &&& 31))) * (1540483477 : Int32)) ^^^ (XT.ushr (((((b0 &&& (255 : Int32)) ||| ((b1 &&& (255 : Int32)) <<< ((8 : Int32) &&& 31))) ||| ((b2 &&& (255 : Int32)) <<< ((16 : Int32) &&& 31))) ||| ((b3 &&& (255 : Int32)) <<< ((24 : Int32) &&& 31))) * (1540483477 : Int32)) (24 : Int32))) * (1540483477 : Int32)))] d1_194 rfl ?_
            refine g_iloadN K 195 d1_195 rfl ?_
            refine g_iloadN K 196 d1_196 rfl ?_
            refine g_bipush K 197 (15 : Int32) d1_197 (by decide) ?_
            refine g_iushr K 199 d1_199 ?_
            refine g_ixor K 200 d1_200 ?_
            refine g_istoreN K 201 #[.val (.ref ar), .val (.int (4 : Int32)), .val (.int (4 : Int32)), .val (.int (((((1732292904 : Int32) ^^^ (((((((b0 &&& (255 : Int32)) ||| ((b1 &&& (255 : Int32)) <<< ((8 : Int32) &&& 31))) ||| ((b2 &&& (255 : Int32)) <<< ((16 : Int32) &&& 31))) ||| ((b3 &&& (255 : Int32)) <<< ((24 : Int32) &&& 31))) * (1540483477 : Int32)) ^^^ (XT.ushr (((((b0 &&& (255 : Int32)) ||| ((b1 &&& (255 : Int32)) <<< ((8 : Int32) &&& 31))) ||| ((b2 &&& (255 : Int32)) <<< ((16 : Int32) &&& 31))) ||| ((b3 &&& (255 : Int32)) <<< ((24 : Int32) &&& 31))) * (1540483477 : Int32)) (24 : Int32))) * (1540483477 : Int32))) ^^^ (XT.ushr ((1732292904 : Int32) ^^^ (((((((b0 &&& (255 : Int32)) ||| ((b1 &&& (255 : Int32)) <<< ((8 : Int32) &&& 31))) ||| ((b2 &&& (255 : Int32)) <<< ((16 : Int32) &&& 31))) ||| ((b3 &&& (255 : Int32)) <<< ((24 : Int32) &&& 31))) * (1540483477 : Int32)) ^^^ (XT.ushr (((((b0 &&& (255 : Int32)) ||| ((b1 &&& (255 : Int32)) <<< ((8 : Int32) &&& 31))) ||| ((b2 &&& (255 : Int32)) <<< ((16 : Int32) &&& 31))) ||| ((b3 &&& (255 : Int32)) <<< ((24 : Int32) &&& 31))) * (1540483477 : Int32)) (24 : Int32))) * (1540483477 : Int32))) (13 : Int32))) * (1540483477 : Int32)) ^^^ (XT.ushr ((((1732292904 : Int32) ^^^ (((((((b0 &&& (255 : Int32)) ||| ((b1 &&& (255 : Int32)) <<< ((8 : Int32) &&& 31))) ||| ((b2 &&& (255 : Int32)) <<< ((16 : Int32) &&& 31))) ||| ((b3 &&& (255 : Int32)) <<< ((24 : Int32) &&& 31))) * (1540483477 : Int32)) ^^^ (XT.ushr (((((b0 &&& (255 : Int32)) ||| ((b1 &&& (255 : Int32)) <<< ((8 : Int32) &&& 31))) ||| ((b2 &&& (255 : Int32)) <<< ((16 : Int32) &&& 31))) ||| ((b3 &&& (255 : Int32)) <<< ((24 : Int32) &&& 31))) * (1540483477 : Int32)) (24 : Int32))) * (1540483477 : Int32))) ^^^ (XT.ushr ((1732292904 : Int32) ^^^ (((((((b0 &&& (255 : Int32)) ||| ((b1 &&& (255 : Int32)) <<< ((8 : Int32) &&& 31))) ||| ((b2 &&& (255 : Int32)) <<< ((16 : Int32) &&& 31))) ||| ((b3 &&& (255 : Int32)) <<< ((24 : Int32) &&& 31))) * (1540483477 : Int32)) ^^^ (XT.ushr (((((b0 &&& (255 : Int32)) ||| ((b1 &&& (255 : Int32)) <<< ((8 : Int32) &&& 31))) ||| ((b2 &&& (255 : Int32)) <<< ((16 : Int32) &&& 31))) ||| ((b3 &&& (255 : Int32)) <<< ((24 : Int32) &&& 31))) * (1540483477 : Int32)) (24 : Int32))) * (1540483477 : Int32))) (13 : Int32))) * (1540483477 : Int32)) (15 : Int32)))), .val (.int (0 : Int32)), .val (.int (((((((b0 &&& (255 : Int32)) ||| ((b1 &&& (255 : Int32)) <<< ((8 : Int32) &&& 31))) ||| ((b2 &&& (255 : Int32)) <<< ((16 : Int32) &&& 31))) ||| ((b3 &&& (255 : Int32)) <<< ((24 : Int32) &&& 31))) * (1540483477 : Int32)) ^^^ (XT.ushr (((((b0 &&& (255 : Int32)) ||| ((b1 &&& (255 : Int32)) <<< ((8 : Int32) &&& 31))) ||| ((b2 &&& (255 : Int32)) <<< ((16 : Int32) &&& 31))) ||| ((b3 &&& (255 : Int32)) <<< ((24 : Int32) &&& 31))) * (1540483477 : Int32)) (24 : Int32))) * (1540483477 : Int32)))] d1_201 rfl ?_
            refine g_iloadN K 202 d1_202 rfl ?_
            refine g_ireturn K 203 d1_203 rfl (by decide) (by decide) ?_
            rw [hQ]
            refine ⟨?_, rfl⟩
            show some (Value.int _) = some (Value.int (f_mur4 b0 b1 b2 b3))
            unfold f_mur4
            rfl
          · intro c5
            exact absurd c5 (by decide)
        · intro c4
          exact absurd c4 (by decide)
      · intro c3
        exact absurd c3 (by decide)
    · intro c2
      exact absurd c2 (by decide)
def f_mur5 (b0 : Int32) (b1 : Int32) (b2 : Int32) (b3 : Int32) (b4 : Int32) : Int32 := (((((((-1022190915 : Int32) ^^^ (((((((b0 &&& (255 : Int32)) ||| ((b1 &&& (255 : Int32)) <<< ((8 : Int32) &&& 31))) ||| ((b2 &&& (255 : Int32)) <<< ((16 : Int32) &&& 31))) ||| ((b3 &&& (255 : Int32)) <<< ((24 : Int32) &&& 31))) * (1540483477 : Int32)) ^^^ (XT.ushr (((((b0 &&& (255 : Int32)) ||| ((b1 &&& (255 : Int32)) <<< ((8 : Int32) &&& 31))) ||| ((b2 &&& (255 : Int32)) <<< ((16 : Int32) &&& 31))) ||| ((b3 &&& (255 : Int32)) <<< ((24 : Int32) &&& 31))) * (1540483477 : Int32)) (24 : Int32))) * (1540483477 : Int32))) ^^^ (b4 &&& (255 : Int32))) * (1540483477 : Int32)) ^^^ (XT.ushr ((((-1022190915 : Int32) ^^^ (((((((b0 &&& (255 : Int32)) ||| ((b1 &&& (255 : Int32)) <<< ((8 : Int32) &&& 31))) ||| ((b2 &&& (255 : Int32)) <<< ((16 : Int32) &&& 31))) ||| ((b3 &&& (255 : Int32)) <<< ((24 : Int32) &&& 31))) * (1540483477 : Int32)) ^^^ (XT.ushr (((((b0 &&& (255 : Int32)) ||| ((b1 &&& (255 : Int32)) <<< ((8 : Int32) &&& 31))) ||| ((b2 &&& (255 : Int32)) <<< ((16 : Int32) &&& 31))) ||| ((b3 &&& (255 : Int32)) <<< ((24 : Int32) &&& 31))) * (1540483477 : Int32)) (24 : Int32))) * (1540483477 : Int32))) ^^^ (b4 &&& (255 : Int32))) * (1540483477 : Int32)) (13 : Int32))) * (1540483477 : Int32)) ^^^ (XT.ushr ((((((-1022190915 : Int32) ^^^ (((((((b0 &&& (255 : Int32)) ||| ((b1 &&& (255 : Int32)) <<< ((8 : Int32) &&& 31))) ||| ((b2 &&& (255 : Int32)) <<< ((16 : Int32) &&& 31))) ||| ((b3 &&& (255 : Int32)) <<< ((24 : Int32) &&& 31))) * (1540483477 : Int32)) ^^^ (XT.ushr (((((b0 &&& (255 : Int32)) ||| ((b1 &&& (255 : Int32)) <<< ((8 : Int32) &&& 31))) ||| ((b2 &&& (255 : Int32)) <<< ((16 : Int32) &&& 31))) ||| ((b3 &&& (255 : Int32)) <<< ((24 : Int32) &&& 31))) * (1540483477 : Int32)) (24 : Int32))) * (1540483477 : Int32))) ^^^ (b4 &&& (255 : Int32))) * (1540483477 : Int32)) ^^^ (XT.ushr ((((-1022190915 : Int32) ^^^ (((((((b0 &&& (255 : Int32)) ||| ((b1 &&& (255 : Int32)) <<< ((8 : Int32) &&& 31))) ||| ((b2 &&& (255 : Int32)) <<< ((16 : Int32) &&& 31))) ||| ((b3 &&& (255 : Int32)) <<< ((24 : Int32) &&& 31))) * (1540483477 : Int32)) ^^^ (XT.ushr (((((b0 &&& (255 : Int32)) ||| ((b1 &&& (255 : Int32)) <<< ((8 : Int32) &&& 31))) ||| ((b2 &&& (255 : Int32)) <<< ((16 : Int32) &&& 31))) ||| ((b3 &&& (255 : Int32)) <<< ((24 : Int32) &&& 31))) * (1540483477 : Int32)) (24 : Int32))) * (1540483477 : Int32))) ^^^ (b4 &&& (255 : Int32))) * (1540483477 : Int32)) (13 : Int32))) * (1540483477 : Int32)) (15 : Int32)))
set_option maxRecDepth 65536 in
set_option maxHeartbeats 40000000 in
theorem rm_mur5 (l : Launch) (Z : State) (a0 : Array Value) (hw : ∀ d ∈ tables_1, d.before a0 Z = true) (ar : Addr) (h0 : Heap) (n0 : Nat) (Z0 : n0 ≤ h0.size) (b0 : Int32) (b1 : Int32) (b2 : Int32) (b3 : Int32) (b4 : Int32) (A0 : IA Z h0 ar .byte [b0, b1, b2, b3, b4]) :
    Meets l (⟨"com/example/batchwright/batchwright/producer/Partitioner", "murmur2", "([B)I"⟩ : MethodName) prog_29_method_3_code 6 (some .int) ({ frames := 0, cells := 0, slots := 0, locals := 0 } : Room) Z #[(.ref ar)] h0 n0 (fun v h => v = some (Value.int (f_mur5 b0 b1 b2 b3 b4)) ∧ h = h0) := by
  refine meets_of (plainFor_of_name pn0) (Ls := #[.val (.ref ar), .unset, .unset, .unset, .unset, .unset]) (fun m => by first | (simp [entryFrame, mkF, argsToLocals, Value.category]; done) | rfl) ?_
  intro p e s m below meth c K
  replace K : Kx Z "com/example/batchwright/batchwright/producer/Partitioner" "murmur2" prog_29_method_3_code 6 (some .int) p s m meth c := K
  obtain ⟨Q, hQ⟩ : ∃ Q : Option Value → Heap → Prop, Q = (fun v h => v = some (Value.int (f_mur5 b0 b1 b2 b3 b4)) ∧ h = h0) := ⟨_, rfl⟩
  rw [← hQ]
  refine g_aloadN K 0 d1_0 rfl rfl ?_
  refine g_alen K 1 (5 : Int32) d1_1 A0 (show (5 : Nat).toInt32 = (5 : Int32) from by decide) ?_
  refine g_istoreN K 2 #[.val (.ref ar), .val (.int (5 : Int32)), .unset, .unset, .unset, .unset] d1_2 rfl ?_
  refine g_iloadN K 3 d1_3 rfl ?_
  refine g_iloadN K 4 d1_4 rfl ?_
  refine g_iconst K 5 (4 : Int32) d1_5 (by decide) ?_
  refine g_irem K 6 d1_6 (by decide) ?_
  rw [show ((5 : Int32) % (4 : Int32)) = (1 : Int32) from by decide]
  refine g_isub K 7 d1_7 ?_
  rw [show ((5 : Int32) - (1 : Int32)) = (4 : Int32) from by decide]
  refine g_istoreN K 8 #[.val (.ref ar), .val (.int (5 : Int32)), .val (.int (4 : Int32)), .unset, .unset, .unset] d1_8 rfl ?_
  refine g_ldc K 9 (v := (-1756908916 : Int32)) d1_9 (tw hw 7 rfl) ?_
  refine g_iloadN K 11 d1_11 rfl ?_
  refine g_ixor K 12 d1_12 ?_
  rw [show ((-1756908916 : Int32) ^^^ (5 : Int32)) = (-1756908919 : Int32) from by decide]
  refine g_istoreN K 13 #[.val (.ref ar), .val (.int (5 : Int32)), .val (.int (4 : Int32)), .val (.int (-1756908919 : Int32)), .unset, .unset] d1_13 rfl ?_
  refine g_iconst K 14 (0 : Int32) d1_14 (by decide) ?_
  refine g_istore K 15 #[.val (.ref ar), .val (.int (5 : Int32)), .val (.int (4 : Int32)), .val (.int (-1756908919 : Int32)), .val (.int (0 : Int32)), .unset] d1_15 rfl ?_
  refine g_iload K 17 d1_17 rfl ?_
  refine g_iloadN K 19 d1_19 rfl ?_
  refine g_ii_ge K 20 115 d1_20 (by decide) (by decide) ?_ ?_
  · intro c1
    exact absurd c1 (by decide)
  · intro c1
    refine g_aloadN K 23 d1_23 rfl rfl ?_
    refine g_iload K 24 d1_24 rfl ?_
    refine g_baload K 26 b0 d1_26 A0 (by decide) (by rw [show (0 : Int32).toNatClampNeg = 0 from by decide]; rfl) ?_
    refine g_sipush K 27 (255 : Int32) d1_27 (by decide) ?_
    refine g_iand K 30 d1_30 ?_
    refine g_aloadN K 31 d1_31 rfl rfl ?_
    refine g_iload K 32 d1_32 rfl ?_
    refine g_iconst K 34 (1 : Int32) d1_34 (by decide) ?_
    refine g_iadd K 35 d1_35 ?_
    rw [show ((0 : Int32) + (1 : Int32)) = (1 : Int32) from by decide]
    refine g_baload K 36 b1 d1_36 A0 (by decide) (by rw [show (1 : Int32).toNatClampNeg = 1 from by decide]; rfl) ?_
    refine g_sipush K 37 (255 : Int32) d1_37 (by decide) ?_
    refine g_iand K 40 d1_40 ?_
    refine g_bipush K 41 (8 : Int32) d1_41 (by decide) ?_
    refine g_ishl K 43 d1_43 ?_
    refine g_ior K 44 d1_44 ?_
    refine g_aloadN K 45 d1_45 rfl rfl ?_
    refine g_iload K 46 d1_46 rfl ?_
    refine g_iconst K 48 (2 : Int32) d1_48 (by decide) ?_
    refine g_iadd K 49 d1_49 ?_
    rw [show ((0 : Int32) + (2 : Int32)) = (2 : Int32) from by decide]
    refine g_baload K 50 b2 d1_50 A0 (by decide) (by rw [show (2 : Int32).toNatClampNeg = 2 from by decide]; rfl) ?_
    refine g_sipush K 51 (255 : Int32) d1_51 (by decide) ?_
    refine g_iand K 54 d1_54 ?_
    refine g_bipush K 55 (16 : Int32) d1_55 (by decide) ?_
    refine g_ishl K 57 d1_57 ?_
    refine g_ior K 58 d1_58 ?_
    refine g_aloadN K 59 d1_59 rfl rfl ?_
    refine g_iload K 60 d1_60 rfl ?_
    refine g_iconst K 62 (3 : Int32) d1_62 (by decide) ?_
    refine g_iadd K 63 d1_63 ?_
    rw [show ((0 : Int32) + (3 : Int32)) = (3 : Int32) from by decide]
    refine g_baload K 64 b3 d1_64 A0 (by decide) (by rw [show (3 : Int32).toNatClampNeg = 3 from by decide]; rfl) ?_
    refine g_sipush K 65 (255 : Int32) d1_65 (by decide) ?_
    refine g_iand K 68 d1_68 ?_
    refine g_bipush K 69 (24 : Int32) d1_69 (by decide) ?_
    refine g_ishl K 71 d1_71 ?_
    refine g_ior K 72 d1_72 ?_
    refine g_istore K 73 #[.val (.ref ar), .val (.int (5 : Int32)), .val (.int (4 : Int32)), .val (.int (-1756908919 : Int32)), .val (.int (0 : Int32)), .val (.int ((((b0 &&& (255 : Int32)) ||| ((b1 &&& (255 : Int32)) <<< ((8 : Int32) &&& 31))) ||| ((b2 &&& (255 : Int32)) <<< ((16 : Int32) &&& 31))) ||| ((b3 &&& (255 : Int32)) <<< ((24 : Int32) &&& 31))))] d1_73 rfl ?_
    refine g_iload K 75 d1_75 rfl ?_
    refine g_ldc K 77 (v := (1540483477 : Int32)) d1_77 (tw hw 8 rfl) ?_
    refine g_imul K 79 d1_79 ?_
    refine g_istore K 80 #[.val (.ref ar), .val (.int (5 : Int32)), .val (.int (4 : Int32)), .val (.int (-1756908919 : Int32)), .val (.int (0 : Int32)), .val (.int (((((b0 &&& (255 : Int32)) ||| ((b1 &&& (255 : Int32)) <<< ((8 : Int32) &&& 31))) ||| ((b2 &&& (255 : Int32)) <<< ((16 : Int32) &&& 31))) ||| ((b3 &&& (255 : Int32)) <<< ((24 : Int32) &&& 31))) * (1540483477 : Int32)))] d1_80 rfl ?_
    refine g_iload K 82 d1_82 rfl ?_
    refine g_iload K 84 d1_84 rfl ?_
    refine g_bipush K 86 (24 : Int32) d1_86 (by decide) ?_
    refine g_iushr K 88 d1_88 ?_
    refine g_ixor K 89 d1_89 ?_
    refine g_istore K 90 #[.val (.ref ar), .val (.int (5 : Int32)), .val (.int (4 : Int32)), .val (.int (-1756908919 : Int32)), .val (.int (0 : Int32)), .val (.int ((((((b0 &&& (255 : Int32)) ||| ((b1 &&& (255 : Int32)) <<< ((8 : Int32) &&& 31))) ||| ((b2 &&& (255 : Int32)) <<< ((16 : Int32) &&& 31))) ||| ((b3 &&& (255 : Int32)) <<< ((24 : Int32) &&& 31))) * (1540483477 : Int32)) ^^^ (XT.ushr (((((b0 &&& (255 : Int32)) ||| ((b1 &&& (255 : Int32)) <<< ((8 : Int32) &&& 31))) ||| ((b2 &&& (255 : Int32)) <<< ((16 : Int32) &&& 31))) ||| ((b3 &&& (255 : Int32)) <<< ((24 : Int32) &&& 31))) * (1540483477 : Int32)) (24 : Int32))))] d1_90 rfl ?_
    refine g_iload K 92 d1_92 rfl ?_
    refine g_ldc K 94 (v := (1540483477 : Int32)) d1_94 (tw hw 8 rfl) ?_
    refine g_imul K 96 d1_96 ?_
    refine g_istore K 97 #[.val (.ref ar), .val (.int (5 : Int32)), .val (.int (4 : Int32)), .val (.int (-1756908919 : Int32)), .val (.int (0 : Int32)), .val (.int (((((((b0 &&& (255 : Int32)) ||| ((b1 &&& (255 : Int32)) <<< ((8 : Int32) &&& 31))) ||| ((b2 &&& (255 : Int32)) <<< ((16 : Int32) &&& 31))) ||| ((b3 &&& (255 : Int32)) <<< ((24 : Int32) &&& 31))) * (1540483477 : Int32)) ^^^ (XT.ushr (((((b0 &&& (255 : Int32)) ||| ((b1 &&& (255 : Int32)) <<< ((8 : Int32) &&& 31))) ||| ((b2 &&& (255 : Int32)) <<< ((16 : Int32) &&& 31))) ||| ((b3 &&& (255 : Int32)) <<< ((24 : Int32) &&& 31))) * (1540483477 : Int32)) (24 : Int32))) * (1540483477 : Int32)))] d1_97 rfl ?_
    refine g_iloadN K 99 d1_99 rfl ?_
    refine g_ldc K 100 (v := (1540483477 : Int32)) d1_100 (tw hw 8 rfl) ?_
    refine g_imul K 102 d1_102 ?_
    rw [show ((-1756908919 : Int32) * (1540483477 : Int32)) = (-1022190915 : Int32) from by decide]
    refine g_istoreN K 103 #[.val (.ref ar), .val (.int (5 : Int32)), .val (.int (4 : Int32)), .val (.int (-1022190915 : Int32)), .val (.int (0 : Int32)), .val (.int (((((((b0 &&& (255 : Int32)) ||| ((b1 &&& (255 : Int32)) <<< ((8 : Int32) &&& 31))) ||| ((b2 &&& (255 : Int32)) <<< ((16 : Int32) &&& 31))) ||| ((b3 &&& (255 : Int32)) <<< ((24 : Int32) &&& 31))) * (1540483477 : Int32)) ^^^ (XT.ushr (((((b0 &&& (255 : Int32)) ||| ((b1 &&& (255 : Int32)) <<< ((8 : Int32) &&& 31))) ||| ((b2 &&& (255 : Int32)) <<< ((16 : Int32) &&& 31))) ||| ((b3 &&& (255 : Int32)) <<< ((24 : Int32) &&& 31))) * (1540483477 : Int32)) (24 : Int32))) * (1540483477 : Int32)))] d1_103 rfl ?_
    refine g_iloadN K 104 d1_104 rfl ?_
    refine g_iload K 105 d1_105 rfl ?_
    refine g_ixor K 107 d1_107 ?_
    refine g_istoreN K 108 #[.val (.ref ar), .val (.int (5 : Int32)), .val (.int (4 : Int32)), .val (.int ((-1022190915 : Int32) ^^^ (((((((b0 &&& (255 : Int32)) ||| ((b1 &&& (255 : Int32)) <<< ((8 : Int32) &&& 31))) ||| ((b2 &&& (255 : Int32)) <<< ((16 : Int32) &&& 31))) ||| ((b3 &&& (255 : Int32)) <<< ((24 : Int32) &&& 31))) * (1540483477 : Int32)) ^^^ (XT.ushr (((((b0 &&& (255 : Int32)) ||| ((b1 &&& (255 : Int32)) <<< ((8 : Int32) &&& 31))) ||| ((b2 &&& (255 : Int32)) <<< ((16 : Int32) &&& 31))) ||| ((b3 &&& (255 : Int32)) <<< ((24 : Int32) &&& 31))) * (1540483477 : Int32)) (24 : Int32))) * (1540483477 : Int32)))), .val (.int (0 : Int32)), .val (.int (((((((b0 &&& (255 : Int32)) ||| ((b1 &&& (255 : Int32)) <<< ((8 : Int32) &&& 31))) ||| ((b2 &&& (255 : Int32)) <<< ((16 : Int32) &&& 31))) ||| ((b3 &&& (255 : Int32)) <<< ((24 : Int32) &&& 31))) * (1540483477 : Int32)) ^^^ (XT.ushr (((((b0 &&& (255 : Int32)) ||| ((b1 &&& (255 : Int32)) <<< ((8 : Int32) &&& 31))) ||| ((b2 &&& (255 : Int32)) <<< ((16 : Int32) &&& 31))) ||| ((b3 &&& (255 : Int32)) <<< ((24 : Int32) &&& 31))) * (1540483477 : Int32)) (24 : Int32))) * (1540483477 : Int32)))] d1_108 rfl ?_
    refine g_iinc K 109 (4 : Int32) #[.val (.ref ar), .val (.int (5 : Int32)), .val (.int (4 : Int32)), .val (.int ((-1022190915 : Int32) ^^^ (((((((b0 &&& (255 : Int32)) ||| ((b1 &&& (255 : Int32)) <<< ((8 : Int32) &&& 31))) ||| ((b2 &&& (255 : Int32)) <<< ((16 : Int32) &&& 31))) ||| ((b3 &&& (255 : Int32)) <<< ((24 : Int32) &&& 31))) * (1540483477 : Int32)) ^^^ (XT.ushr (((((b0 &&& (255 : Int32)) ||| ((b1 &&& (255 : Int32)) <<< ((8 : Int32) &&& 31))) ||| ((b2 &&& (255 : Int32)) <<< ((16 : Int32) &&& 31))) ||| ((b3 &&& (255 : Int32)) <<< ((24 : Int32) &&& 31))) * (1540483477 : Int32)) (24 : Int32))) * (1540483477 : Int32)))), .val (.int ((0 : Int32) + (4 : Int32))), .val (.int (((((((b0 &&& (255 : Int32)) ||| ((b1 &&& (255 : Int32)) <<< ((8 : Int32) &&& 31))) ||| ((b2 &&& (255 : Int32)) <<< ((16 : Int32) &&& 31))) ||| ((b3 &&& (255 : Int32)) <<< ((24 : Int32) &&& 31))) * (1540483477 : Int32)) ^^^ (XT.ushr (((((b0 &&& (255 : Int32)) ||| ((b1 &&& (255 : Int32)) <<< ((8 : Int32) &&& 31))) ||| ((b2 &&& (255 : Int32)) <<< ((16 : Int32) &&& 31))) ||| ((b3 &&& (255 : Int32)) <<< ((24 : Int32) &&& 31))) * (1540483477 : Int32)) (24 : Int32))) * (1540483477 : Int32)))] d1_109 (by decide) rfl rfl ?_
    rw [show ((0 : Int32) + (4 : Int32)) = (4 : Int32) from by decide]
    refine g_goto K 112 17 d1_112 (by decide) (by decide) ?_
    refine g_iload K 17 d1_17 rfl ?_
    refine g_iloadN K 19 d1_19 rfl ?_
    refine g_ii_ge K 20 115 d1_20 (by decide) (by decide) ?_ ?_
    · intro c2
      refine g_iloadN K 115 d1_115 rfl ?_
      refine g_iloadN K 116 d1_116 rfl ?_
      refine g_isub K 117 d1_117 ?_
      rw [show ((5 : Int32) - (4 : Int32)) = (1 : Int32) from by decide]
      refine g_istore K 118 #[.val (.ref ar), .val (.int (5 : Int32)), .val (.int (4 : Int32)), .val (.int ((-1022190915 : Int32) ^^^ (((((((b0 &&& (255 : Int32)) ||| ((b1 &&& (255 : Int32)) <<< ((8 : Int32) &&& 31))) ||| ((b2 &&& (255 : Int32)) <<< ((16 : Int32) &&& 31))) ||| ((b3 &&& (255 : Int32)) <<< ((24 : Int32) &&& 31))) * (1540483477 : Int32)) ^^^ (XT.ushr (((((b0 &&& (255 : Int32)) ||| ((b1 &&& (255 : Int32)) <<< ((8 : Int32) &&& 31))) ||| ((b2 &&& (255 : Int32)) <<< ((16 : Int32) &&& 31))) ||| ((b3 &&& (255 : Int32)) <<< ((24 : Int32) &&& 31))) * (1540483477 : Int32)) (24 : Int32))) * (1540483477 : Int32)))), .val (.int (1 : Int32)), .val (.int (((((((b0 &&& (255 : Int32)) ||| ((b1 &&& (255 : Int32)) <<< ((8 : Int32) &&& 31))) ||| ((b2 &&& (255 : Int32)) <<< ((16 : Int32) &&& 31))) ||| ((b3 &&& (255 : Int32)) <<< ((24 : Int32) &&& 31))) * (1540483477 : Int32)) ^^^ (XT.ushr (((((b0 &&& (255 : Int32)) ||| ((b1 &&& (255 : Int32)) <<< ((8 : Int32) &&& 31))) ||| ((b2 &&& (255 : Int32)) <<< ((16 : Int32) &&& 31))) ||| ((b3 &&& (255 : Int32)) <<< ((24 : Int32) &&& 31))) * (1540483477 : Int32)) (24 : Int32))) * (1540483477 : Int32)))] d1_118 rfl ?_
      refine g_iload K 120 d1_120 rfl ?_
      refine g_iconst K 122 (3 : Int32) d1_122 (by decide) ?_
      refine g_ii_ne K 123 141 d1_123 (by decide) (by decide) ?_ ?_
      · intro c3
        refine g_iload K 141 d1_141 rfl ?_
        refine g_iconst K 143 (2 : Int32) d1_143 (by decide) ?_
        refine g_ii_lt K 144 162 d1_144 (by decide) (by decide) ?_ ?_
        · intro c4
          refine g_iload K 162 d1_162 rfl ?_
          refine g_iconst K 164 (1 : Int32) d1_164 (by decide) ?_
          refine g_ii_lt K 165 183 d1_165 (by decide) (by decide) ?_ ?_
          · intro c5
            exact absurd c5 (by decide)
          · intro c5
            refine g_iloadN K 168 d1_168 rfl ?_
            refine g_aloadN K 169 d1_169 rfl rfl ?_
            refine g_iloadN K 170 d1_170 rfl ?_
            refine g_baload K 171 b4 d1_171 A0 (by decide) (by rw [show (4 : Int32).toNatClampNeg = 4 from by decide]; rfl) ?_
            refine g_sipush K 172 (255 : Int32) d1_172 (by decide) ?_
            refine g_iand K 175 d1_175 ?_
            refine g_ixor K 176 d1_176 ?_
            refine g_istoreN K 177 #[.val (.ref ar), .val (.int (5 : Int32)), .val (.int (4 : Int32)), .val (.int (((-1022190915 : Int32) ^^^ (((((((b0 &&& (255 : Int32)) ||| ((b1 &&& (255 : Int32)) <<< ((8 : Int32) &&& 31))) ||| ((b2 &&& (255 : Int32)) <<< ((16 : Int32) &&& 31))) ||| ((b3 &&& (255 : Int32)) <<< ((24 : Int32) &&& 31))) * (1540483477 : Int32)) ^^^ (XT.ushr (((((b0 &&& (255 : Int32)) ||| ((b1 &&& (255 : Int32)) <<< ((8 : Int32) &&& 31))) ||| ((b2 &&& (255 : Int32)) <<< ((16 : Int32) &&& 31))) ||| ((b3 &&& (255 : Int32)) <<< ((24 : Int32) &&& 31))) * (1540483477 : Int32)) (24 : Int32))) * (1540483477 : Int32))) ^^^ (b4 &&& (255 : Int32)))), .val (.int (1 : Int32)), .val (.int (((((((b0 &&& (255 : Int32)) ||| ((b1 &&& (255 : Int32)) <<< ((8 : Int32) &&& 31))) ||| ((b2 &&& (255 : Int32)) <<< ((16 : Int32) &&& 31))) ||| ((b3 &&& (255 : Int32)) <<< ((24 : Int32) &&& 31))) * (1540483477 : Int32)) ^^^ (XT.ushr (((((b0 &&& (255 : Int32)) ||| ((b1 &&& (255 : Int32)) <<< ((8 : Int32) &&& 31))) ||| ((b2 &&& (255 : Int32)) <<< ((16 : Int32) &&& 31))) ||| ((b3 &&& (255 : Int32)) <<< ((24 : Int32) &&& 31))) * (1540483477 : Int32)) (24 : Int32))) * (1540483477 : Int32)))] d1_177 rfl ?_
            refine g_iloadN K 178 d1_178 rfl ?_
            refine g_ldc K 179 (v := (1540483477 : Int32)) d1_179 (tw hw 8 rfl) ?_
            refine g_imul K 181 d1_181 ?_
            refine g_istoreN K 182 #[.val (.ref ar), .val (.int (5 : Int32)), .val (.int (4 : Int32)), .val (.int ((((-1022190915 : Int32) ^^^ (((((((b0 &&& (255 : Int32)) ||| ((b1 &&& (255 : Int32)) <<< ((8 : Int32) &&& 31))) ||| ((b2 &&& (255 : Int32)) <<< ((16 : Int32) &&& 31))) ||| ((b3 &&& (255 : Int32)) <<< ((24 : Int32) &&& 31))) * (1540483477 : Int32)) ^^^ (XT.ushr (((((b0 &&& (255 : Int32)) ||| ((b1 &&& (255 : Int32)) <<< ((8 : Int32) &&& 31))) ||| ((b2 &&& (255 : Int32)) <<< ((16 : Int32) &&& 31))) ||| ((b3 &&& (255 : Int32)) <<< ((24 : Int32) &&& 31))) * (1540483477 : Int32)) (24 : Int32))) * (1540483477 : Int32))) ^^^ (b4 &&& (255 : Int32))) * (1540483477 : Int32))), .val (.int (1 : Int32)), .val (.int (((((((b0 &&& (255 : Int32)) ||| ((b1 &&& (255 : Int32)) <<< ((8 : Int32) &&& 31))) ||| ((b2 &&& (255 : Int32)) <<< ((16 : Int32) &&& 31))) ||| ((b3 &&& (255 : Int32)) <<< ((24 : Int32) &&& 31))) * (1540483477 : Int32)) ^^^ (XT.ushr (((((b0 &&& (255 : Int32)) ||| ((b1 &&& (255 : Int32)) <<< ((8 : Int32) &&& 31))) ||| ((b2 &&& (255 : Int32)) <<< ((16 : Int32) &&& 31))) ||| ((b3 &&& (255 : Int32)) <<< ((24 : Int32) &&& 31))) * (1540483477 : Int32)) (24 : Int32))) * (1540483477 : Int32)))] d1_182 rfl ?_
            refine g_iloadN K 183 d1_183 rfl ?_
            refine g_iloadN K 184 d1_184 rfl ?_
            refine g_bipush K 185 (13 : Int32) d1_185 (by decide) ?_
            refine g_iushr K 187 d1_187 ?_
            refine g_ixor K 188 d1_188 ?_
            refine g_istoreN K 189 #[.val (.ref ar), .val (.int (5 : Int32)), .val (.int (4 : Int32)), .val (.int (((((-1022190915 : Int32) ^^^ (((((((b0 &&& (255 : Int32)) ||| ((b1 &&& (255 : Int32)) <<< ((8 : Int32) &&& 31))) ||| ((b2 &&& (255 : Int32)) <<< ((16 : Int32) &&& 31))) ||| ((b3 &&& (255 : Int32)) <<< ((24 : Int32) &&& 31))) * (1540483477 : Int32)) ^^^ (XT.ushr (((((b0 &&& (255 : Int32)) ||| ((b1 &&& (255 : Int32)) <<< ((8 : Int32) &&& 31))) ||| ((b2 &&& (255 : Int32)) <<< ((16 : Int32) &&& 31))) ||| ((b3 &&& (255 : Int32)) <<< ((24 : Int32) &&& 31))) * (1540483477 : Int32)) (24 : Int32))) * (1540483477 : Int32))) ^^^ (b4 &&& (255 : Int32))) * (1540483477 : Int32)) ^^^ (XT.ushr ((((-1022190915 : Int32) ^^^ (((((((b0 &&& (255 : Int32)) ||| ((b1 &&& (255 : Int32)) <<< ((8 : Int32) &&& 31))) ||| ((b2 &&& (255 : Int32)) <<< ((16 : Int32) &&& 31))) ||| ((b3 &&& (255 : Int32)) <<< ((24 : Int32) &&& 31))) * (1540483477 : Int32)) ^^^ (XT.ushr (((((b0 &&& (255 : Int32)) ||| ((b1 &&& (255 : Int32)) <<< ((8 : Int32) &&& 31))) ||| ((b2 &&& (255 : Int32)) <<< ((16 : Int32) &&& 31))) ||| ((b3 &&& (255 : Int32)) <<< ((24 : Int32) &&& 31))) * (1540483477 : Int32)) (24 : Int32))) * (1540483477 : Int32))) ^^^ (b4 &&& (255 : Int32))) * (1540483477 : Int32)) (13 : Int32)))), .val (.int (1 : Int32)), .val (.int (((((((b0 &&& (255 : Int32)) ||| ((b1 &&& (255 : Int32)) <<< ((8 : Int32) &&& 31))) ||| ((b2 &&& (255 : Int32)) <<< ((16 : Int32) &&& 31))) ||| ((b3 &&& (255 : Int32)) <<< ((24 : Int32) &&& 31))) * (1540483477 : Int32)) ^^^ (XT.ushr (((((b0 &&& (255 : Int32)) ||| ((b1 &&& (255 : Int32)) <<< ((8 : Int32) &&& 31))) ||| ((b2 &&& (255 : Int32)) <<< ((16 : Int32) &&& 31))) ||| ((b3 &&& (255 : Int32)) <<< ((24 : Int32) &&& 31))) * (1540483477 : Int32)) (24 : Int32))) * (1540483477 : Int32)))] d1_189 rfl ?_
            refine g_iloadN K 190 d1_190 rfl ?_
            refine g_ldc K 191 (v := (1540483477 : Int32)) d1_191 (tw hw 8 rfl) ?_
            refine g_imul K 193 d1_193 ?_
            refine g_istoreN K 194 #[.val (.ref ar), .val (.int (5 : Int32)), .val (.int (4 : Int32)), .val (.int ((((((-1022190915 : Int32) ^^^ (((((((b0 &&& (255 : Int32)) ||| ((b1 &&& (255 : Int32)) <<< ((8 : Int32) &&& 31))) ||| ((b2 &&& (255 : Int32)) <<< ((16 : Int32) &&& 31))) ||| ((b3 &&& (255 : Int32)) <<< ((24 : Int32) &&& 31))) * (1540483477 : Int32)) ^^^ (XT.ushr (((((b0 &&& (255 : Int32)) ||| ((b1 &&& (255 : Int32)) <<< ((8 : Int32) &&& 31))) ||| ((b2 &&& (255 : Int32)) <<< ((16 : Int32) &&& 31))) ||| ((b3 &&& (255 : Int32)) <<< ((24 : Int32) &&& 31))) * (1540483477 : Int32)) (24 : Int32))) * (1540483477 : Int32))) ^^^ (b4 &&& (255 : Int32))) * (1540483477 : Int32)) ^^^ (XT.ushr ((((-1022190915 : Int32) ^^^ (((((((b0 &&& (255 : Int32)) ||| ((b1 &&& (255 : Int32)) <<< ((8 : Int32) &&& 31))) ||| ((b2 &&& (255 : Int32)) <<< ((16 : Int32) &&& 31))) ||| ((b3 &&& (255 : Int32)) <<< ((24 : Int32) &&& 31))) * (1540483477 : Int32)) ^^^ (XT.ushr (((((b0 &&& (255 : Int32)) ||| ((b1 &&& (255 : Int32)) <<< ((8 : Int32) &&& 31))) ||| ((b2 &&& (255 : Int32)) <<< ((16 : Int32) &&& 31))) ||| ((b3 &&& (255 : Int32)) <<< ((24 : Int32) &&& 31))) * (1540483477 : Int32)) (24 : Int32))) * (1540483477 : Int32))) ^^^ (b4 &&& (255 : Int32))) * (1540483477 : Int32)) (13 : Int32))) * (1540483477 : Int32))), .val (.int (1 : Int32)), .val (.int (((((((b0 &&& (255 : Int32)) ||| ((b1 &&& (255 : Int32)) <<< ((8 : Int32) &&& 31))) ||| ((b2 &&& (255 : Int32)) <<< ((16 : Int32) &&& 31))) ||| ((b3 &&& (255 : Int32)) <<< ((24 : Int32) &&& 31))) * (1540483477 : Int32)) ^^^ (XT.ushr (((((b0 &&& (255 : Int32)) ||| ((b1 &&& (255 : Int32)) <<< ((8 : Int32) &&& 31))) ||| ((b2 &&& (255 : Int32)) <<< ((16 : Int32) &&& 31))) ||| ((b3 &&& (255 : Int32)) <<< ((24 : Int32) &&& 31))) * (1540483477 : Int32)) (24 : Int32))) * (1540483477 : Int32)))] d1_194 rfl ?_
            refine g_iloadN K 195 d1_195 rfl ?_
            refine g_iloadN K 196 d1_196 rfl ?_
            refine g_bipush K 197 (15 : Int32) d1_197 (by decide) ?_
            refine g_iushr K 199 d1_199 ?_
            refine g_ixor K 200 d1_200 ?_
            refine g_istoreN K 201 #[.val (.ref ar), .val (.int (5 : Int32)), .val (.int (4 : Int32)), .val (.int (((((((-1022190915 : Int32) ^^^ (((((((b0 &&& (255 : Int32)) ||| ((b1 &&& (255 : Int32)) <<< ((8 : Int32) &&& 31))) ||| ((b2 &&& (255 : Int32)) <<< ((16 : Int32) &&& 31))) ||| ((b3 &&& (255 : Int32)) <<< ((24 : Int32) &&& 31))) * (1540483477 : Int32)) ^^^ (XT.ushr (((((b0 &&& (255 : Int32)) ||| ((b1 &&& (255 : Int32)) <<< ((8 : Int32) &&& 31))) ||| ((b2 &&& (255 : Int32)) <<< ((16 : Int32) &&& 31))) ||| ((b3 &&& (255 : Int32)) <<< ((24 : Int32) &&& 31))) * (1540483477 : Int32)) (24 : Int32))) * (1540483477 : Int32))) ^^^ (b4 &&& (255 : Int32))) * (1540483477 : Int32)) ^^^ (XT.ushr ((((-1022190915 : Int32) ^^^ (((((((b0 &&& (255 : Int32)) ||| ((b1 &&& (255 : Int32)) <<< ((8 : Int32) &&& 31))) ||| ((b2 &&& (255 : Int32)) <<< ((16 : Int32) &&& 31))) ||| ((b3 &&& (255 : Int32)) <<< ((24 : Int32) &&& 31))) * (1540483477 : Int32)) ^^^ (XT.ushr (((((b0 &&& (255 : Int32)) ||| ((b1 &&& (255 : Int32)) <<< ((8 : Int32) &&& 31))) ||| ((b2 &&& (255 : Int32)) <<< ((16 : Int32) &&& 31))) ||| ((b3 &&& (255 : Int32)) <<< ((24 : Int32) &&& 31))) * (1540483477 : Int32)) (24 : Int32))) * (1540483477 : Int32))) ^^^ (b4 &&& (255 : Int32))) * (1540483477 : Int32)) (13 : Int32))) * (1540483477 : Int32)) ^^^ (XT.ushr ((((((-1022190915 : Int32) ^^^ (((((((b0 &&& (255 : Int32)) ||| ((b1 &&& (255 : Int32)) <<< ((8 : Int32) &&& 31))) ||| ((b2 &&& (255 : Int32)) <<< ((16 : Int32) &&& 31))) ||| ((b3 &&& (255 : Int32)) <<< ((24 : Int32) &&& 31))) * (1540483477 : Int32)) ^^^ (XT.ushr (((((b0 &&& (255 : Int32)) ||| ((b1 &&& (255 : Int32)) <<< ((8 : Int32) &&& 31))) ||| ((b2 &&& (255 : Int32)) <<< ((16 : Int32) &&& 31))) ||| ((b3 &&& (255 : Int32)) <<< ((24 : Int32) &&& 31))) * (1540483477 : Int32)) (24 : Int32))) * (1540483477 : Int32))) ^^^ (b4 &&& (255 : Int32))) * (1540483477 : Int32)) ^^^ (XT.ushr ((((-1022190915 : Int32) ^^^ (((((((b0 &&& (255 : Int32)) ||| ((b1 &&& (255 : Int32)) <<< ((8 : Int32) &&& 31))) ||| ((b2 &&& (255 : Int32)) <<< ((16 : Int32) &&& 31))) ||| ((b3 &&& (255 : Int32)) <<< ((24 : Int32) &&& 31))) * (1540483477 : Int32)) ^^^ (XT.ushr (((((b0 &&& (255 : Int32)) ||| ((b1 &&& (255 : Int32)) <<< ((8 : Int32) &&& 31))) ||| ((b2 &&& (255 : Int32)) <<< ((16 : Int32) &&& 31))) ||| ((b3 &&& (255 : Int32)) <<< ((24 : Int32) &&& 31))) * (1540483477 : Int32)) (24 : Int32))) * (1540483477 : Int32))) ^^^ (b4 &&& (255 : Int32))) * (1540483477 : Int32)) (13 : Int32))) * (1540483477 : Int32)) (15 : Int32)))), .val (.int (1 : Int32)), .val (.int (((((((b0 &&& (255 : Int32)) ||| ((b1 &&& (255 : Int32)) <<< ((8 : Int32) &&& 31))) ||| ((b2 &&& (255 : Int32)) <<< ((16 : Int32) &&& 31))) ||| ((b3 &&& (255 : Int32)) <<< ((24 : Int32) &&& 31))) * (1540483477 : Int32)) ^^^ (XT.ushr (((((b0 &&& (255 : Int32)) ||| ((b1 &&& (255 : Int32)) <<< ((8 : Int32) &&& 31))) ||| ((b2 &&& (255 : Int32)) <<< ((16 : Int32) &&& 31))) ||| ((b3 &&& (255 : Int32)) <<< ((24 : Int32) &&& 31))) * (1540483477 : Int32)) (24 : Int32))) * (1540483477 : Int32)))] d1_201 rfl ?_
            refine g_iloadN K 202 d1_202 rfl ?_
            refine g_ireturn K 203 d1_203 rfl (by decide) (by decide) ?_
            rw [hQ]
            refine ⟨?_, rfl⟩
            show some (Value.int _) = some (Value.int (f_mur5 b0 b1 b2 b3 b4))
            unfold f_mur5
            rfl
        · intro c4
          exact absurd c4 (by decide)
      · intro c3
        exact absurd c3 (by decide)
    · intro c2
      exact absurd c2 (by decide)
def f_mur6 (b0 : Int32) (b1 : Int32) (b2 : Int32) (b3 : Int32) (b4 : Int32) (b5 : Int32) : Int32 := ((((((((518292562 : Int32) ^^^ (((((((b0 &&& (255 : Int32)) ||| ((b1 &&& (255 : Int32)) <<< ((8 : Int32) &&& 31))) ||| ((b2 &&& (255 : Int32)) <<< ((16 : Int32) &&& 31))) ||| ((b3 &&& (255 : Int32)) <<< ((24 : Int32) &&& 31))) * (1540483477 : Int32)) ^^^ (XT.ushr (((((b0 &&& (255 : Int32)) ||| ((b1 &&& (255 : Int32)) <<< ((8 : Int32) &&& 31))) ||| ((b2 &&& (255 : Int32)) <<< ((16 : Int32) &&& 31))) ||| ((b3 &&& (255 : Int32)) <<< ((24 : Int32) &&& 31))) * (1540483477 : Int32)) (24 : Int32))) * (1540483477 : Int32))) ^^^ ((b5 &&& (255 : Int32)) <<< ((8 : Int32) &&& 31))) ^^^ (b4 &&& (255 : Int32))) * (1540483477 : Int32)) ^^^ (XT.ushr (((((518292562 : Int32) ^^^ (((((((b0 &&& (255 : Int32)) ||| ((b1 &&& (255 : Int32)) <<< ((8 : Int32) &&& 31))) ||| ((b2 &&& (255 : Int32)) <<< ((16 : Int32) &&& 31))) ||| ((b3 &&& (255 : Int32)) <<< ((24 : Int32) &&& 31))) * (1540483477 : Int32)) ^^^ (XT.ushr (((((b0 &&& (255 : Int32)) ||| ((b1 &&& (255 : Int32)) <<< ((8 : Int32) &&& 31))) ||| ((b2 &&& (255 : Int32)) <<< ((16 : Int32) &&& 31))) ||| ((b3 &&& (255 : Int32)) <<< ((24 : Int32) &&& 31))) * (1540483477 : Int32)) (24 : Int32))) * (1540483477 : Int32))) ^^^ ((b5 &&& (255 : Int32)) <<< ((8 : Int32) &&& 31))) ^^^ (b4 &&& (255 : Int32))) * (1540483477 : Int32)) (13 : Int32))) * (1540483477 : Int32)) ^^^ (XT.ushr (((((((518292562 : Int32) ^^^ (((((((b0 &&& (255 : Int32)) ||| ((b1 &&& (255 : Int32)) <<< ((8 : Int32) &&& 31))) ||| ((b2 &&& (255 : Int32)) <<< ((16 : Int32) &&& 31))) ||| ((b3 &&& (255 : Int32)) <<< ((24 : Int32) &&& 31))) * (1540483477 : Int32)) ^^^ (XT.ushr (((((b0 &&& (255 : Int32)) ||| ((b1 &&& (255 : Int32)) <<< ((8 : Int32) &&& 31))) ||| ((b2 &&& (255 : Int32)) <<< ((16 : Int32) &&& 31))) ||| ((b3 &&& (255 : Int32)) <<< ((24 : Int32) &&& 31))) * (1540483477 : Int32)) (24 : Int32))) * (1540483477 : Int32))) ^^^ ((b5 &&& (255 : Int32)) <<< ((8 : Int32) &&& 31))) ^^^ (b4 &&& (255 : Int32))) * (1540483477 : Int32)) ^^^ (XT.ushr (((((518292562 : Int32) ^^^ (((((((b0 &&& (255 : Int32)) ||| ((b1 &&& (255 : Int32)) <<< ((8 : Int32) &&& 31))) ||| ((b2 &&& (255 : Int32)) <<< ((16 : Int32) &&& 31))) ||| ((b3 &&& (255 : Int32)) <<< ((24 : Int32) &&& 31))) * (1540483477 : Int32)) ^^^ (XT.ushr (((((b0 &&& (255 : Int32)) ||| ((b1 &&& (255 : Int32)) <<< ((8 : Int32) &&& 31))) ||| ((b2 &&& (255 : Int32)) <<< ((16 : Int32) &&& 31))) ||| ((b3 &&& (255 : Int32)) <<< ((24 : Int32) &&& 31))) * (1540483477 : Int32)) (24 : Int32))) * (1540483477 : Int32))) ^^^ ((b5 &&& (255 : Int32)) <<< ((8 : Int32) &&& 31))) ^^^ (b4 &&& (255 : Int32))) * (1540483477 : Int32)) (13 : Int32))) * (1540483477 : Int32)) (15 : Int32)))
set_option maxRecDepth 65536 in
set_option maxHeartbeats 40000000 in
theorem rm_mur6 (l : Launch) (Z : State) (a0 : Array Value) (hw : ∀ d ∈ tables_1, d.before a0 Z = true) (ar : Addr) (h0 : Heap) (n0 : Nat) (Z0 : n0 ≤ h0.size) (b0 : Int32) (b1 : Int32) (b2 : Int32) (b3 : Int32) (b4 : Int32) (b5 : Int32) (A0 : IA Z h0 ar .byte [b0, b1, b2, b3, b4, b5]) :
    Meets l (⟨"com/example/batchwright/batchwright/producer/Partitioner", "murmur2", "([B)I"⟩ : MethodName) prog_29_method_3_code 6 (some .int) ({ frames := 0, cells := 0, slots := 0, locals := 0 } : Room) Z #[(.ref ar)] h0 n0 (fun v h => v = some (Value.int (f_mur6 b0 b1 b2 b3 b4 b5)) ∧ h = h0) := by
  refine meets_of (plainFor_of_name pn0) (Ls := #[.val (.ref ar), .unset, .unset, .unset, .unset, .unset]) (fun m => by first | (simp [entryFrame, mkF, argsToLocals, Value.category]; done) | rfl) ?_
  intro p e s m below meth c K
  replace K : Kx Z "com/example/batchwright/batchwright/producer/Partitioner" "murmur2" prog_29_method_3_code 6 (some .int) p s m meth c := K
  obtain ⟨Q, hQ⟩ : ∃ Q : Option Value → Heap → Prop, Q = (fun v h => v = some (Value.int (f_mur6 b0 b1 b2 b3 b4 b5)) ∧ h = h0) := ⟨_, rfl⟩
  rw [← hQ]
  refine g_aloadN K 0 d1_0 rfl rfl ?_
  refine g_alen K 1 (6 : Int32) d1_1 A0 (show (6 : Nat).toInt32 = (6 : Int32) from by decide) ?_
  refine g_istoreN K 2 #[.val (.ref ar), .val (.int (6 : Int32)), .unset, .unset, .unset, .unset] d1_2 rfl ?_
  refine g_iloadN K 3 d1_3 rfl ?_
  refine g_iloadN K 4 d1_4 rfl ?_
  refine g_iconst K 5 (4 : Int32) d1_5 (by decide) ?_
  refine g_irem K 6 d1_6 (by decide) ?_
  rw [show ((6 : Int32) % (4 : Int32)) = (2 : Int32) from by decide]
  refine g_isub K 7 d1_7 ?_
  rw [show ((6 : Int32) - (2 : Int32)) = (4 : Int32) from by decide]
  refine g_istoreN K 8 #[.val (.ref ar), .val (.int (6 : Int32)), .val (.int (4 : Int32)), .unset, .unset, .unset] d1_8 rfl ?_
  refine g_ldc K 9 (v := (-1756908916 : Int32)) d1_9 (tw hw 7 rfl) ?_
  refine g_iloadN K 11 d1_11 rfl ?_
  refine g_ixor K 12 d1_12 ?_
  rw [show ((-1756908916 : Int32) ^^^ (6 : Int32)) = (-1756908918 : Int32) from by decide]
  refine g_istoreN K 13 #[.val (.ref ar), .val (.int (6 : Int32)), .val (.int (4 : Int32)), .val (.int (-1756908918 : Int32)), .unset, .unset] d1_13 rfl ?_
  refine g_iconst K 14 (0 : Int32) d1_14 (by decide) ?_
  refine g_istore K 15 #[.val (.ref ar), .val (.int (6 : Int32)), .val (.int (4 : Int32)), .val (.int (-1756908918 : Int32)), .val (.int (0 : Int32)), .unset] d1_15 rfl ?_
  refine g_iload K 17 d1_17 rfl ?_
  refine g_iloadN K 19 d1_19 rfl ?_
  refine g_ii_ge K 20 115 d1_20 (by decide) (by decide) ?_ ?_
  · intro c1
    exact absurd c1 (by decide)
  · intro c1
    refine g_aloadN K 23 d1_23 rfl rfl ?_
    refine g_iload K 24 d1_24 rfl ?_
    refine g_baload K 26 b0 d1_26 A0 (by decide) (by rw [show (0 : Int32).toNatClampNeg = 0 from by decide]; rfl) ?_
    refine g_sipush K 27 (255 : Int32) d1_27 (by decide) ?_
    refine g_iand K 30 d1_30 ?_
    refine g_aloadN K 31 d1_31 rfl rfl ?_
    refine g_iload K 32 d1_32 rfl ?_
    refine g_iconst K 34 (1 : Int32) d1_34 (by decide) ?_
    refine g_iadd K 35 d1_35 ?_
    rw [show ((0 : Int32) + (1 : Int32)) = (1 : Int32) from by decide]
    refine g_baload K 36 b1 d1_36 A0 (by decide) (by rw [show (1 : Int32).toNatClampNeg = 1 from by decide]; rfl) ?_
    refine g_sipush K 37 (255 : Int32) d1_37 (by decide) ?_
    refine g_iand K 40 d1_40 ?_
    refine g_bipush K 41 (8 : Int32) d1_41 (by decide) ?_
    refine g_ishl K 43 d1_43 ?_
    refine g_ior K 44 d1_44 ?_
    refine g_aloadN K 45 d1_45 rfl rfl ?_
    refine g_iload K 46 d1_46 rfl ?_
    refine g_iconst K 48 (2 : Int32) d1_48 (by decide) ?_
    refine g_iadd K 49 d1_49 ?_
    rw [show ((0 : Int32) + (2 : Int32)) = (2 : Int32) from by decide]
    refine g_baload K 50 b2 d1_50 A0 (by decide) (by rw [show (2 : Int32).toNatClampNeg = 2 from by decide]; rfl) ?_
    refine g_sipush K 51 (255 : Int32) d1_51 (by decide) ?_
    refine g_iand K 54 d1_54 ?_
    refine g_bipush K 55 (16 : Int32) d1_55 (by decide) ?_
    refine g_ishl K 57 d1_57 ?_
    refine g_ior K 58 d1_58 ?_
    refine g_aloadN K 59 d1_59 rfl rfl ?_
    refine g_iload K 60 d1_60 rfl ?_
    refine g_iconst K 62 (3 : Int32) d1_62 (by decide) ?_
    refine g_iadd K 63 d1_63 ?_
    rw [show ((0 : Int32) + (3 : Int32)) = (3 : Int32) from by decide]
    refine g_baload K 64 b3 d1_64 A0 (by decide) (by rw [show (3 : Int32).toNatClampNeg = 3 from by decide]; rfl) ?_
    refine g_sipush K 65 (255 : Int32) d1_65 (by decide) ?_
    refine g_iand K 68 d1_68 ?_
    refine g_bipush K 69 (24 : Int32) d1_69 (by decide) ?_
    refine g_ishl K 71 d1_71 ?_
    refine g_ior K 72 d1_72 ?_
    refine g_istore K 73 #[.val (.ref ar), .val (.int (6 : Int32)), .val (.int (4 : Int32)), .val (.int (-1756908918 : Int32)), .val (.int (0 : Int32)), .val (.int ((((b0 &&& (255 : Int32)) ||| ((b1 &&& (255 : Int32)) <<< ((8 : Int32) &&& 31))) ||| ((b2 &&& (255 : Int32)) <<< ((16 : Int32) &&& 31))) ||| ((b3 &&& (255 : Int32)) <<< ((24 : Int32) &&& 31))))] d1_73 rfl ?_
    refine g_iload K 75 d1_75 rfl ?_
    refine g_ldc K 77 (v := (1540483477 : Int32)) d1_77 (tw hw 8 rfl) ?_
    refine g_imul K 79 d1_79 ?_
    refine g_istore K 80 #[.val (.ref ar), .val (.int (6 : Int32)), .val (.int (4 : Int32)), .val (.int (-1756908918 : Int32)), .val (.int (0 : Int32)), .val (.int (((((b0 &&& (255 : Int32)) ||| ((b1 &&& (255 : Int32)) <<< ((8 : Int32) &&& 31))) ||| ((b2 &&& (255 : Int32)) <<< ((16 : Int32) &&& 31))) ||| ((b3 &&& (255 : Int32)) <<< ((24 : Int32) &&& 31))) * (1540483477 : Int32)))] d1_80 rfl ?_
    refine g_iload K 82 d1_82 rfl ?_
    refine g_iload K 84 d1_84 rfl ?_
    refine g_bipush K 86 (24 : Int32) d1_86 (by decide) ?_
    refine g_iushr K 88 d1_88 ?_
    refine g_ixor K 89 d1_89 ?_
    refine g_istore K 90 #[.val (.ref ar), .val (.int (6 : Int32)), .val (.int (4 : Int32)), .val (.int (-1756908918 : Int32)), .val (.int (0 : Int32)), .val (.int ((((((b0 &&& (255 : Int32)) ||| ((b1 &&& (255 : Int32)) <<< ((8 : Int32) &&& 31))) ||| ((b2 &&& (255 : Int32)) <<< ((16 : Int32) &&& 31))) ||| ((b3 &&& (255 : Int32)) <<< ((24 : Int32) &&& 31))) * (1540483477 : Int32)) ^^^ (XT.ushr (((((b0 &&& (255 : Int32)) ||| ((b1 &&& (255 : Int32)) <<< ((8 : Int32) &&& 31))) ||| ((b2 &&& (255 : Int32)) <<< ((16 : Int32) &&& 31))) ||| ((b3 &&& (255 : Int32)) <<< ((24 : Int32) &&& 31))) * (1540483477 : Int32)) (24 : Int32))))] d1_90 rfl ?_
    refine g_iload K 92 d1_92 rfl ?_
    refine g_ldc K 94 (v := (1540483477 : Int32)) d1_94 (tw hw 8 rfl) ?_
    refine g_imul K 96 d1_96 ?_
    refine g_istore K 97 #[.val (.ref ar), .val (.int (6 : Int32)), .val (.int (4 : Int32)), .val (.int (-1756908918 : Int32)), .val (.int (0 : Int32)), .val (.int (((((((b0 &&& (255 : Int32)) ||| ((b1 &&& (255 : Int32)) <<< ((8 : Int32) &&& 31))) ||| ((b2 &&& (255 : Int32)) <<< ((16 : Int32) &&& 31))) ||| ((b3 &&& (255 : Int32)) <<< ((24 : Int32) &&& 31))) * (1540483477 : Int32)) ^^^ (XT.ushr (((((b0 &&& (255 : Int32)) ||| ((b1 &&& (255 : Int32)) <<< ((8 : Int32) &&& 31))) ||| ((b2 &&& (255 : Int32)) <<< ((16 : Int32) &&& 31))) ||| ((b3 &&& (255 : Int32)) <<< ((24 : Int32) &&& 31))) * (1540483477 : Int32)) (24 : Int32))) * (1540483477 : Int32)))] d1_97 rfl ?_
    refine g_iloadN K 99 d1_99 rfl ?_
    refine g_ldc K 100 (v := (1540483477 : Int32)) d1_100 (tw hw 8 rfl) ?_
    refine g_imul K 102 d1_102 ?_
    rw [show ((-1756908918 : Int32) * (1540483477 : Int32)) = (518292562 : Int32) from by decide]
    refine g_istoreN K 103 #[.val (.ref ar), .val (.int (6 : Int32)), .val (.int (4 : Int32)), .val (.int (518292562 : Int32)), .val (.int (0 : Int32)), .val (.int (((((((b0 &&& (255 : Int32)) ||| ((b1 &&& (255 : Int32)) <<< ((8 : Int32) &&& 31))) ||| ((b2 &&& (255 : Int32)) <<< ((16 : Int32) &&& 31))) ||| ((b3 &&& (255 : Int32)) <<< ((24 : Int32) &&& 31))) * (1540483477 : Int32)) ^^^ (XT.ushr (((((b0 &&& (255 : Int32)) ||| ((b1 &&& (255 : Int32)) <<< ((8 : Int32) &&& 31))) ||| ((b2 &&& (255 : Int32)) <<< ((16 : Int32) &&& 31))) ||| ((b3 &&& (255 : Int32)) <<< ((24 : Int32) &&& 31))) * (1540483477 : Int32)) (24 : Int32))) * (1540483477 : Int32)))] d1_103 rfl ?_
    refine g_iloadN K 104 d1_104 rfl ?_
    refine g_iload K 105 d1_105 rfl ?_
    refine g_ixor K 107 d1_107 ?_
    refine g_istoreN K 108 #[.val (.ref ar), .val (.int (6 : Int32)), .val (.int (4 : Int32)), .val (.int ((518292562 : Int32) ^^^ (((((((b0 &&& (255 : Int32)) ||| ((b1 &&& (255 : Int32)) <<< ((8 : Int32) &&& 31))) ||| ((b2 &&& (255 : Int32)) <<< ((16 : Int32) &&& 31))) ||| ((b3 &&& (255 : Int32)) <<< ((24 : Int32) &&& 31))) * (1540483477 : Int32)) ^^^ (XT.ushr (((((b0 &&& (255 : Int32)) ||| ((b1 &&& (255 : Int32)) <<< ((8 : Int32) &&& 31))) ||| ((b2 &&& (255 : Int32)) <<< ((16 : Int32) &&& 31))) ||| ((b3 &&& (255 : Int32)) <<< ((24 : Int32) &&& 31))) * (1540483477 : Int32)) (24 : Int32))) * (1540483477 : Int32)))), .val (.int (0 : Int32)), .val (.int (((((((b0 &&& (255 : Int32)) ||| ((b1 &&& (255 : Int32)) <<< ((8 : Int32) &&& 31))) ||| ((b2 &&& (255 : Int32)) <<< ((16 : Int32) &&& 31))) ||| ((b3 &&& (255 : Int32)) <<< ((24 : Int32) &&& 31))) * (1540483477 : Int32)) ^^^ (XT.ushr (((((b0 &&& (255 : Int32)) ||| ((b1 &&& (255 : Int32)) <<< ((8 : Int32) &&& 31))) ||| ((b2 &&& (255 : Int32)) <<< ((16 : Int32) &&& 31))) ||| ((b3 &&& (255 : Int32)) <<< ((24 : Int32) &&& 31))) * (1540483477 : Int32)) (24 : Int32))) * (1540483477 : Int32)))] d1_108 rfl ?_
    refine g_iinc K 109 (4 : Int32) #[.val (.ref ar), .val (.int (6 : Int32)), .val (.int (4 : Int32)), .val (.int ((518292562 : Int32) ^^^ (((((((b0 &&& (255 : Int32)) ||| ((b1 &&& (255 : Int32)) <<< ((8 : Int32) &&& 31))) ||| ((b2 &&& (255 : Int32)) <<< ((16 : Int32) &&& 31))) ||| ((b3 &&& (255 : Int32)) <<< ((24 : Int32) &&& 31))) * (1540483477 : Int32)) ^^^ (XT.ushr (((((b0 &&& (255 : Int32)) ||| ((b1 &&& (255 : Int32)) <<< ((8 : Int32) &&& 31))) ||| ((b2 &&& (255 : Int32)) <<< ((16 : Int32) &&& 31))) ||| ((b3 &&& (255 : Int32)) <<< ((24 : Int32) &&& 31))) * (1540483477 : Int32)) (24 : Int32))) * (1540483477 : Int32)))), .val (.int ((0 : Int32) + (4 : Int32))), .val (.int (((((((b0 &&& (255 : Int32)) ||| ((b1 &&& (255 : Int32)) <<< ((8 : Int32) &&& 31))) ||| ((b2 &&& (255 : Int32)) <<< ((16 : Int32) &&& 31))) ||| ((b3 &&& (255 : Int32)) <<< ((24 : Int32) &&& 31))) * (1540483477 : Int32)) ^^^ (XT.ushr (((((b0 &&& (255 : Int32)) ||| ((b1 &&& (255 : Int32)) <<< ((8 : Int32) &&& 31))) ||| ((b2 &&& (255 : Int32)) <<< ((16 : Int32) &&& 31))) ||| ((b3 &&& (255 : Int32)) <<< ((24 : Int32) &&& 31))) * (1540483477 : Int32)) (24 : Int32))) * (1540483477 : Int32)))] d1_109 (by decide) rfl rfl ?_
    rw [show ((0 : Int32) + (4 : Int32)) = (4 : Int32) from by decide]
    refine g_goto K 112 17 d1_112 (by decide) (by decide) ?_
    refine g_iload K 17 d1_17 rfl ?_
    refine g_iloadN K 19 d1_19 rfl ?_
    refine g_ii_ge K 20 115 d1_20 (by decide) (by decide) ?_ ?_
    · intro c2
      refine g_iloadN K 115 d1_115 rfl ?_
      refine g_iloadN K 116 d1_116 rfl ?_
      refine g_isub K 117 d1_117 ?_
      rw [show ((6 : Int32) - (4 : Int32)) = (2 : Int32) from by decide]
      refine g_istore K 118 #[.val (.ref ar), .val (.int (6 : Int32)), .val (.int (4 : Int32)), .val (.int ((518292562 : Int32) ^^^ (((((((b0 &&& (255 : Int32)) ||| ((b1 &&& (255 : Int32)) <<< ((8 : Int32) &&& 31))) ||| ((b2 &&& (255 : Int32)) <<< ((16 : Int32) &&& 31))) ||| ((b3 &&& (255 : Int32)) <<< ((24 : Int32) &&& 31))) * (1540483477 : Int32)) ^^^ (XT.ushr (((((b0 &&& (255 : Int32)) ||| ((b1 &&& (255 : Int32)) <<< ((8 : Int32) &&& 31))) ||| ((b2 &&& (255 : Int32)) <<< ((16 : Int32) &&& 31))) ||| ((b3 &&& (255 : Int32)) <<< ((24 : Int32) &&& 31))) * (1540483477 : Int32)) (24 : Int32))) * (1540483477 : Int32)))), .val (.int (2 : Int32)), .val (.int (((((((b0 &&& (255 : Int32)) ||| ((b1 &&& (255 : Int32)) <<< ((8 : Int32) &&& 31))) ||| ((b2 &&& (255 : Int32)) <<< ((16 : Int32) &&& 31))) ||| ((b3 &&& (255 : Int32)) <<< ((24 : Int32) &&& 31))) * (1540483477 : Int32)) ^^^ (XT.ushr (((((b0 &&& (255 : Int32)) ||| ((b1 &&& (255 : Int32)) <<< ((8 : Int32) &&& 31))) ||| ((b2 &&& (255 : Int32)) <<< ((16 : Int32) &&& 31))) ||| ((b3 &&& (255 : Int32)) <<< ((24 : Int32) &&& 31))) * (1540483477 : Int32)) (24 : Int32))) * (1540483477 : Int32)))] d1_118 rfl ?_
      refine g_iload K 120 d1_120 rfl ?_
      refine g_iconst K 122 (3 : Int32) d1_122 (by decide) ?_
      refine g_ii_ne K 123 141 d1_123 (by decide) (by decide) ?_ ?_
      · intro c3
        refine g_iload K 141 d1_141 rfl ?_
        refine g_iconst K 143 (2 : Int32) d1_143 (by decide) ?_
        refine g_ii_lt K 144 162 d1_144 (by decide) (by decide) ?_ ?_
        · intro c4
          exact absurd c4 (by decide)
        · intro c4
          refine g_iloadN K 147 d1_147 rfl ?_
          refine g_aloadN K 148 d1_148 rfl rfl ?_
          refine g_iloadN K 149 d1_149 rfl ?_
          refine g_iconst K 150 (1 : Int32) d1_150 (by decide) ?_
          refine g_iadd K 151 d1_151 ?_
          rw [show ((4 : Int32) + (1 : Int32)) = (5 : Int32) from by decide]
          refine g_baload K 152 b5 d1_152 A0 (by decide) (by rw [show (5 : Int32).toNatClampNeg = 5 from by decide]; rfl) ?_
          refine g_sipush K 153 (255 : Int32) d1_153 (by decide) ?_
          refine g_iand K 156 d1_156 ?_
          refine g_bipush K 157 (8 : Int32) d1_157 (by decide) ?_
          refine g_ishl K 159 d1_159 ?_
          refine g_ixor K 160 d1_160 ?_
          refine g_istoreN K 161 #[.val (.ref ar), .val (.int (6 : Int32)), .val (.int (4 : Int32)), .val (.int (((518292562 : Int32) ^^^ (((((((b0 &&& (255 : Int32)) ||| ((b1 &&& (255 : Int32)) <<< ((8 : Int32) &&& 31))) ||| ((b2 &&& (255 : Int32)) <<< ((16 : Int32) &&& 31))) ||| ((b3 &&& (255 : Int32)) <<< ((24 : Int32) &&& 31))) * (1540483477 : Int32)) ^^^ (XT.ushr (((((b0 &&& (255 : Int32)) ||| ((b1 &&& (255 : Int32)) <<< ((8 : Int32) &&& 31))) ||| ((b2 &&& (255 : Int32)) <<< ((16 : Int32) &&& 31))) ||| ((b3 &&& (255 : Int32)) <<< ((24 : Int32) &&& 31))) * (1540483477 : Int32)) (24 : Int32))) * (1540483477 : Int32))) ^^^ ((b5 &&& (255 : Int32)) <<< ((8 : Int32) &&& 31)))), .val (.int (2 : Int32)), .val (.int (((((((b0 &&& (255 : Int32)) ||| ((b1 &&& (255 : Int32)) <<< ((8 : Int32) &&& 31))) ||| ((b2 &&& (255 : Int32)) <<< ((16 : Int32) &&& 31))) ||| ((b3 &&& (255 : Int32)) <<< ((24 : Int32) &&& 31))) * (1540483477 : Int32)) ^^^ (XT.ushr (((((b0 &&& (255 : Int32)) ||| ((b1 &&& (255 : Int32)) <<< ((8 : Int32) &&& 31))) ||| ((b2 &&& (255 : Int32)) <<< ((16 : Int32) &&& 31))) ||| ((b3 &&& (255 : Int32)) <<< ((24 : Int32) &&& 31))) * (1540483477 : Int32)) (24 : Int32))) * (1540483477 : Int32)))] d1_161 rfl ?_
          refine g_iload K 162 d1_162 rfl ?_
          refine g_iconst K 164 (1 : Int32) d1_164 (by decide) ?_
          refine g_ii_lt K 165 183 d1_165 (by decide) (by decide) ?_ ?_
          · intro c5
            exact absurd c5 (by decide)
          · intro c5
            refine g_iloadN K 168 d1_168 rfl ?_
            refine g_aloadN K 169 d1_169 rfl rfl ?_
            refine g_iloadN K 170 d1_170 rfl ?_
            refine g_baload K 171 b4 d1_171 A0 (by decide) (by rw [show (4 : Int32).toNatClampNeg = 4 from by decide]; rfl) ?_
            refine g_sipush K 172 (255 : Int32) d1_172 (by decide) ?_
            refine g_iand K 175 d1_175 ?_
            refine g_ixor K 176 d1_176 ?_
            refine g_istoreN K 177 #[.val (.ref ar), .val (.int (6 : Int32)), .val (.int (4 : Int32)), .val (.int ((((518292562 : Int32) ^^^ (((((((b0 &&& (255 : Int32)) ||| ((b1 &&& (255 : Int32)) <<< ((8 : Int32) &&& 31))) ||| ((b2 &&& (255 : Int32)) <<< ((16 : Int32) &&& 31))) ||| ((b3 &&& (255 : Int32)) <<< ((24 : Int32) &&& 31))) * (1540483477 : Int32)) ^^^ (XT.ushr (((((b0 &&& (255 : Int32)) ||| ((b1 &&& (255 : Int32)) <<< ((8 : Int32) &&& 31))) ||| ((b2 &&& (255 : Int32)) <<< ((16 : Int32) &&& 31))) ||| ((b3 &&& (255 : Int32)) <<< ((24 : Int32) &&& 31))) * (1540483477 : Int32)) (24 : Int32))) * (1540483477 : Int32))) ^^^ ((b5 &&& (255 : Int32)) <<< ((8 : Int32) &&& 31))) ^^^ (b4 &&& (255 : Int32)))), .val (.int (2 : Int32)), .val (.int (((((((b0 &&& (255 : Int32)) ||| ((b1 &&& (255 : Int32)) <<< ((8 : Int32) &&& 31))) ||| ((b2 &&& (255 : Int32)) <<< ((16 : Int32) &&& 31))) ||| ((b3 &&& (255 : Int32)) <<< ((24 : Int32) &&& 31))) * (1540483477 : Int32)) ^^^ (XT.ushr (((((b0 &&& (255 : Int32)) ||| ((b1 &&& (255 : Int32)) <<< ((8 : Int32) &&& 31))) ||| ((b2 &&& (255 : Int32)) <<< ((16 : Int32) &&& 31))) ||| ((b3 &&& (255 : Int32)) <<< ((24 : Int32) &&& 31))) * (1540483477 : Int32)) (24 : Int32))) * (1540483477 : Int32)))] d1_177 rfl ?_
            refine g_iloadN K 178 d1_178 rfl ?_
            refine g_ldc K 179 (v := (1540483477 : Int32)) d1_179 (tw hw 8 rfl) ?_
            refine g_imul K 181 d1_181 ?_
            refine g_istoreN K 182 #[.val (.ref ar), .val (.int (6 : Int32)), .val (.int (4 : Int32)), .val (.int (((((518292562 : Int32) ^^^ (((((((b0 &&& (255 : Int32)) ||| ((b1 &&& (255 : Int32)) <<< ((8 : Int32) &&& 31))) ||| ((b2 &&& (255 : Int32)) <<< ((16 : Int32) &&& 31))) ||| ((b3 &&& (255 : Int32)) <<< ((24 : Int32) &&& 31))) * (1540483477 : Int32)) ^^^ (XT.ushr (((((b0 &&& (255 : Int32)) ||| ((b1 &&& (255 : Int32)) <<< ((8 : Int32) &&& 31))) ||| ((b2 &&& (255 : Int32)) <<< ((16 : Int32) &&& 31))) ||| ((b3 &&& (255 : Int32)) <<< ((24 : Int32) &&& 31))) * (1540483477 : Int32)) (24 : Int32))) * (1540483477 : Int32))) ^^^ ((b5 &&& (255 : Int32)) <<< ((8 : Int32) &&& 31))) ^^^ (b4 &&& (255 : Int32))) * (1540483477 : Int32))), .val (.int (2 : Int32)), .val (.int (((((((b0 &&& (255 : Int32)) ||| ((b1 &&& (255 : Int32)) <<< ((8 : Int32) &&& 31))) ||| ((b2 &&& (255 : Int32)) <<< ((16 : Int32) &&& 31))) ||| ((b3 &&& (255 : Int32)) <<< ((24 : Int32) &&& 31))) * (1540483477 : Int32)) ^^^ (XT.ushr (((((b0 &&& (255 : Int32)) ||| ((b1 &&& (255 : Int32)) <<< ((8 : Int32) &&& 31))) ||| ((b2 &&& (255 : Int32)) <<< ((16 : Int32) &&& 31))) ||| ((b3 &&& (255 : Int32)) <<< ((24 : Int32) &&& 31))) * (1540483477 : Int32)) (24 : Int32))) * (1540483477 : Int32)))] d1_182 rfl ?_
            refine g_iloadN K 183 d1_183 rfl ?_
            refine g_iloadN K 184 d1_184 rfl ?_
            refine g_bipush K 185 (13 : Int32) d1_185 (by decide) ?_
            refine g_iushr K 187 d1_187 ?_
            refine g_ixor K 188 d1_188 ?_
            refine g_istoreN K 189 #[.val (.ref ar), .val (.int (6 : Int32)), .val (.int (4 : Int32)), .val (.int ((((((518292562 : Int32) ^^^ (((((((b0 &&& (255 : Int32)) ||| ((b1 &&& (255 : Int32)) <<< ((8 : Int32) &&& 31))) ||| ((b2 &&& (255 : Int32)) <<< ((16 : Int32) &&& 31))) ||| ((b3 &&& (255 : Int32)) <<< ((24 : Int32) &&& 31))) * (1540483477 : Int32)) ^^^ (XT.ushr (((((b0 &&& (255 : Int32)) ||| ((b1 &&& (255 : Int32)) <<< ((8 : Int32) &&& 31))) ||| ((b2 &&& (255 : Int32)) <<< ((16 : Int32) &&& 31))) ||| ((b3 &&& (255 : Int32)) <<< ((24 : Int32) &&& 31))) * (1540483477 : Int32)) (24 : Int32))) * (1540483477 : Int32))) ^^^ ((b5 &&& (255 : Int32)) <<< ((8 : Int32) &&& 31))) ^^^ (b4 &&& (255 : Int32))) * (1540483477 : Int32)) ^^^ (XT.ushr (((((518292562 : Int32) ^^^ (((((((b0 &&& (255 : Int32)) ||| ((b1 &&& (255 : Int32)) <<< ((8 : Int32) &&& 31))) ||| ((b2 &&& (255 : Int32)) <<< ((16 : Int32) &&& 31))) ||| ((b3 &&& (255 : Int32)) <<< ((24 : Int32) &&& 31))) * (1540483477 : Int32)) ^^^ (XT.ushr (((((b0 &&& (255 : Int32)) ||| ((b1 &&& (255 : Int32)) <<< ((8 : Int32) &&& 31))) ||| ((b2 &&& (255 : Int32)) <<< ((16 : Int32) &&& 31))) ||| ((b3 &&& (255 : Int32)) <<< ((24 : Int32) &&& 31))) * (1540483477 : Int32)) (24 : Int32))) * (1540483477 : Int32))) ^^^ ((b5 &&& (255 : Int32)) <<< ((8 : Int32) &&& 31))) ^^^ (b4 &&& (255 : Int32))) * (1540483477 : Int32)) (13 : Int32)))), .val (.int (2 : Int32)), .val (.int (((((((b0 &&& (255 : Int32)) ||| ((b1 &&& (255 : Int32)) <<< ((8 : Int32) &&& 31))) ||| ((b2 &&& (255 : Int32)) <<< ((16 : Int32) &&& 31))) ||| ((b3 &&& (255 : Int32)) <<< ((24 : Int32) &&& 31))) * (1540483477 : Int32)) ^^^ (XT.ushr (((((b0 &&& (255 : Int32)) ||| ((b1 &&& (255 : Int32)) <<< ((8 : Int32) &&& 31))) ||| ((b2 &&& (255 : Int32)) <<< ((16 : Int32) &&& 31))) ||| ((b3 &&& (255 : Int32)) <<< ((24 : Int32) &&& 31))) * (1540483477 : Int32)) (24 : Int32))) * (1540483477 : Int32)))] d1_189 rfl ?_
            refine g_iloadN K 190 d1_190 rfl ?_
            refine g_ldc K 191 (v := (1540483477 : Int32)) d1_191 (tw hw 8 rfl) ?_
            refine g_imul K 193 d1_193 ?_
            refine g_istoreN K 194 #[.val (.ref ar), .val (.int (6 : Int32)), .val (.int (4 : Int32)), .val (.int (((((((518292562 : Int32) ^^^ (((((((b0 &&& (255 : Int32)) ||| ((b1 &&& (255 : Int32)) <<< ((8 : Int32) &&& 31))) ||| ((b2 &&& (255 : Int32)) <<< ((16 : Int32) &&& 31))) ||| ((b3 &&& (255 : Int32)) <<< ((24 : Int32) &&& 31))) * (1540483477 : Int32)) ^^^ (XT.ushr (((((b0 &&& (255 : Int32)) ||| ((b1 &&& (255 : Int32)) <<< ((8 : Int32) &&& 31))) ||| ((b2 &&& (255 : Int32)) <<< ((16 : Int32) &&& 31))) ||| ((b3 &&& (255 : Int32)) <<< ((24 : Int32) &&& 31))) * (1540483477 : Int32)) (24 : Int32))) * (1540483477 : Int32))) ^^^ ((b5 &&& (255 : Int32)) <<< ((8 : Int32) &&& 31))) ^^^ (b4 &&& (255 : Int32))) * (1540483477 : Int32)) ^^^ (XT.ushr (((((518292562 : Int32) ^^^ (((((((b0 &&& (255 : Int32)) ||| ((b1 &&& (255 : Int32)) <<< ((8 : Int32) &&& 31))) ||| ((b2 &&& (255 : Int32)) <<< ((16 : Int32) &&& 31))) ||| ((b3 &&& (255 : Int32)) <<< ((24 : Int32) &&& 31))) * (1540483477 : Int32)) ^^^ (XT.ushr (((((b0 &&& (255 : Int32)) ||| ((b1 &&& (255 : Int32)) <<< ((8 : Int32) &&& 31))) ||| ((b2 &&& (255 : Int32)) <<< ((16 : Int32) &&& 31))) ||| ((b3 &&& (255 : Int32)) <<< ((24 : Int32) &&& 31))) * (1540483477 : Int32)) (24 : Int32))) * (1540483477 : Int32))) ^^^ ((b5 &&& (255 : Int32)) <<< ((8 : Int32) &&& 31))) ^^^ (b4 &&& (255 : Int32))) * (1540483477 : Int32)) (13 : Int32))) * (1540483477 : Int32))), .val (.int (2 : Int32)), .val (.int (((((((b0 &&& (255 : Int32)) ||| ((b1 &&& (255 : Int32)) <<< ((8 : Int32) &&& 31))) ||| ((b2 &&& (255 : Int32)) <<< ((16 : Int32) &&& 31))) ||| ((b3 &&& (255 : Int32)) <<< ((24 : Int32) &&& 31))) * (1540483477 : Int32)) ^^^ (XT.ushr (((((b0 &&& (255 : Int32)) ||| ((b1 &&& (255 : Int32)) <<< ((8 : Int32) &&& 31))) ||| ((b2 &&& (255 : Int32)) <<< ((16 : Int32) &&& 31))) ||| ((b3 &&& (255 : Int32)) <<< ((24 : Int32) &&& 31))) * (1540483477 : Int32)) (24 : Int32))) * (1540483477 : Int32)))] d1_194 rfl ?_
            refine g_iloadN K 195 d1_195 rfl ?_
            refine g_iloadN K 196 d1_196 rfl ?_
            refine g_bipush K 197 (15 : Int32) d1_197 (by decide) ?_
            refine g_iushr K 199 d1_199 ?_
            refine g_ixor K 200 d1_200 ?_
            refine g_istoreN K 201 #[.val (.ref ar), .val (.int (6 : Int32)), .val (.int (4 : Int32)), .val (.int ((((((((518292562 : Int32) ^^^ (((((((b0 &&& (255 : Int32)) ||| ((b1 &&& (255 : Int32)) <<< ((8 : Int32) &&& 31))) ||| ((b2 &&& (255 : Int32)) <<< ((16 : Int32) &&& 31))) ||| ((b3 &&& (255 : Int32)) <<< ((24 : Int32) &&& 31))) * (1540483477 : Int32)) ^^^ (XT.ushr (((((b0 &&& (255 : Int32)) ||| ((b1 &&& (255 : Int32)) <<< ((8 : Int32) &&& 31))) ||| ((b2 &&& (255 : Int32)) <<< ((16 : Int32) &&& 31))) ||| ((b3 &&& (255 : Int32)) <<< ((24 : Int32) &&& 31))) * (1540483477 : Int32)) (24 : Int32))) * (1540483477 : Int32))) ^^^ ((b5 &&& (255 : Int32)) <<< ((8 : Int32) &&& 31))) ^^^ (b4 &&& (255 : Int32))) * (1540483477 : Int32)) ^^^ (XT.ushr (((((518292562 : Int32) ^^^ (((((((b0 &&& (255 : Int32)) ||| ((b1 &&& (255 : Int32)) <<< ((8 : Int32) &&& 31))) ||| ((b2 &&& (255 : Int32)) <<< ((16 : Int32) &&& 31))) ||| ((b3 &&& (255 : Int32)) <<< ((24 : Int32) &&& 31))) * (1540483477 : Int32)) ^^^ (XT.ushr (((((b0 &&& (255 : Int32)) ||| ((b1 &&& (255 : Int32)) <<< ((8 : Int32) &&& 31))) ||| ((b2 &&& (255 : Int32)) <<< ((16 : Int32) &&& 31))) ||| ((b3 &&& (255 : Int32)) <<< ((24 : Int32) &&& 31))) * (1540483477 : Int32)) (24 : Int32))) * (1540483477 : Int32))) ^^^ ((b5 &&& (255 : Int32)) <<< ((8 : Int32) &&& 31))) ^^^ (b4 &&& (255 : Int32))) * (1540483477 : Int32)) (13 : Int32))) * (1540483477 : Int32)) ^^^ (XT.ushr (((((((518292562 : Int32) ^^^ (((((((b0 &&& (255 : Int32)) ||| ((b1 &&& (255 : Int32)) <<< ((8 : Int32) &&& 31))) ||| ((b2 &&& (255 : Int32)) <<< ((16 : Int32) &&& 31))) ||| ((b3 &&& (255 : Int32)) <<< ((24 : Int32) &&& 31))) * (1540483477 : Int32)) ^^^ (XT.ushr (((((b0 &&& (255 : Int32)) ||| ((b1 &&& (255 : Int32)) <<< ((8 : Int32) &&& 31))) ||| ((b2 &&& (255 : Int32)) <<< ((16 : Int32) &&& 31))) ||| ((b3 &&& (255 : Int32)) <<< ((24 : Int32) &&& 31))) * (1540483477 : Int32)) (24 : Int32))) * (1540483477 : Int32))) ^^^ ((b5 &&& (255 : Int32)) <<< ((8 : Int32) &&& 31))) ^^^ (b4 &&& (255 : Int32))) * (1540483477 : Int32)) ^^^ (XT.ushr (((((518292562 : Int32) ^^^ (((((((b0 &&& (255 : Int32)) ||| ((b1 &&& (255 : Int32)) <<< ((8 : Int32) &&& 31))) ||| ((b2 &&& (255 : Int32)) <<< ((16 : Int32) &&& 31))) ||| ((b3 &&& (255 : Int32)) <<< ((24 : Int32) &&& 31))) * (1540483477 : Int32)) ^^^ (XT.ushr (((((b0 &&& (255 : Int32)) ||| ((b1 &&& (255 : Int32)) <<< ((8 : Int32) &&& 31))) ||| ((b2 &&& (255 : Int32)) <<< ((16 : Int32) &&& 31))) ||| ((b3 &&& (255 : Int32)) <<< ((24 : Int32) &&& 31))) * (1540483477 : Int32)) (24 : Int32))) * (1540483477 : Int32))) ^^^ ((b5 &&& (255 : Int32)) <<< ((8 : Int32) &&& 31))) ^^^ (b4 &&& (255 : Int32))) * (1540483477 : Int32)) (13 : Int32))) * (1540483477 : Int32)) (15 : Int32)))), .val (.int (2 : Int32)), .val (.int (((((((b0 &&& (255 : Int32)) ||| ((b1 &&& (255 : Int32)) <<< ((8 : Int32) &&& 31))) ||| ((b2 &&& (255 : Int32)) <<< ((16 : Int32) &&& 31))) ||| ((b3 &&& (255 : Int32)) <<< ((24 : Int32) &&& 31))) * (1540483477 : Int32)) ^^^ (XT.ushr (((((b0 &&& (255 : Int32)) ||| ((b1 &&& (255 : Int32)) <<< ((8 : Int32) &&& 31))) ||| ((b2 &&& (255 : Int32)) <<< ((16 : Int32) &&& 31))) ||| ((b3 &&& (255 : Int32)) <<< ((24 : Int32) &&& 31))) * (1540483477 : Int32)) (24 : Int32))) * (1540483477 : Int32)))] d1_201 rfl ?_
            refine g_iloadN K 202 d1_202 rfl ?_
            refine g_ireturn K 203 d1_203 rfl (by decide) (by decide) ?_
            rw [hQ]
            refine ⟨?_, rfl⟩
            show some (Value.int _) = some (Value.int (f_mur6 b0 b1 b2 b3 b4 b5))
            unfold f_mur6
            rfl
      · intro c3
        exact absurd c3 (by decide)
    · intro c2
      exact absurd c2 (by decide)
def f_mur7 (b0 : Int32) (b1 : Int32) (b2 : Int32) (b3 : Int32) (b4 : Int32) (b5 : Int32) (b6 : Int32) : Int32 := (((((((((2058776039 : Int32) ^^^ (((((((b0 &&& (255 : Int32)) ||| ((b1 &&& (255 : Int32)) <<< ((8 : Int32) &&& 31))) ||| ((b2 &&& (255 : Int32)) <<< ((16 : Int32) &&& 31))) ||| ((b3 &&& (255 : Int32)) <<< ((24 : Int32) &&& 31))) * (1540483477 : Int32)) ^^^ (XT.ushr (((((b0 &&& (255 : Int32)) ||| ((b1 &&& (255 : Int32)) <<< ((8 : Int32) &&& 31))) ||| ((b2 &&& (255 : Int32)) <<< ((16 : Int32) &&& 31))) ||| ((b3 &&& (255 : Int32)) <<< ((24 : Int32) &&& 31))) * (1540483477 : Int32)) (24 : Int32))) * (1540483477 : Int32))) ^^^ ((b6 &&& (255 : Int32)) <<< ((16 : Int32) &&& 31))) ^^^ ((b5 &&& (255 : Int32)) <<< ((8 : Int32) &&& 31))) ^^^ (b4 &&& (255 : Int32))) * (1540483477 : Int32)) ^^^ (XT.ushr ((((((2058776039 : Int32) ^^^ (((((((b0 &&& (255 : Int32)) ||| ((b1 &&& (255 : Int32)) <<< ((8 : Int32) &&& 31))) ||| ((b2 &&& (255 : Int32)) <<< ((16 : Int32) &&& 31))) ||| ((b3 &&& (255 : Int32)) <<< ((24 : Int32) &&& 31))) * (1540483477 : Int32)) ^^^ (XT.ushr (((((b0 &&& (255 : Int32)) ||| ((b1 &&& (255 : Int32)) <<< ((8 : Int32) &&& 31))) ||| ((b2 &&& (255 : Int32)) <<< ((16 : Int32) &&& 31))) ||| ((b3 &&& (255 : Int32)) <<< ((24 : Int32) &&& 31))) * (1540483477 : Int32)) (24 : Int32))) * (1540483477 : Int32))) ^^^ ((b6 &&& (255 : Int32)) <<< ((16 : Int32) &&& 31))) ^^^ ((b5 &&& (255 : Int32)) <<< ((8 : Int32) &&& 31))) ^^^ (b4 &&& (255 : Int32))) * (1540483477 : Int32)) (13 : Int32))) * (1540483477 : Int32)) ^^^ (XT.ushr ((((((((2058776039 : Int32) ^^^ (((((((b0 &&& (255 : Int32)) ||| ((b1 &&& (255 : Int32)) <<< ((8 : Int32) &&& 31))) ||| ((b2 &&& (255 : Int32)) <<< ((16 : Int32) &&& 31))) ||| ((b3 &&& (255 : Int32)) <<< ((24 : Int32) &&& 31))) * (1540483477 : Int32)) ^^^ (XT.ushr (((((b0 &&& (255 : Int32)) ||| ((b1 &&& (255 : Int32)) <<< ((8 : Int32) &&& 31))) ||| ((b2 &&& (255 : Int32)) <<< ((16 : Int32) &&& 31))) ||| ((b3 &&& (255 : Int32)) <<< ((24 : Int32) &&& 31))) * (1540483477 : Int32)) (24 : Int32))) * (1540483477 : Int32))) ^^^ ((b6 &&& (255 : Int32)) <<< ((16 : Int32) &&& 31))) ^^^ ((b5 &&& (255 : Int32)) <<< ((8 : Int32) &&& 31))) ^^^ (b4 &&& (255 : Int32))) * (1540483477 : Int32)) ^^^ (XT.ushr ((((((2058776039 : Int32) ^^^ (((((((b0 &&& (255 : Int32)) ||| ((b1 &&& (255 : Int32)) <<< ((8 : Int32) &&& 31))) ||| ((b2 &&& (255 : Int32)) <<< ((16 : Int32) &&& 31))) ||| ((b3 &&& (255 : Int32)) <<< ((24 : Int32) &&& 31))) * (1540483477 : Int32)) ^^^ (XT.ushr (((((b0 &&& (255 : Int32)) ||| ((b1 &&& (255 : Int32)) <<< ((8 : Int32) &&& 31))) ||| ((b2 &&& (255 : Int32)) <<< ((16 : Int32) &&& 31))) ||| ((b3 &&& (255 : Int32)) <<< ((24 : Int32) &&& 31))) * (1540483477 : Int32)) (24 : Int32))) * (1540483477 : Int32))) ^^^ ((b6 &&& (255 : Int32)) <<< ((16 : Int32) &&& 31))) ^^^ ((b5 &&& (255 : Int32)) <<< ((8 : Int32) &&& 31))) ^^^ (b4 &&& (255 : Int32))) * (1540483477 : Int32)) (13 : Int32))) * (1540483477 : Int32)) (15 : Int32)))
set_option maxRecDepth 65536 in
set_option maxHeartbeats 40000000 in
theorem rm_mur7 (l : Launch) (Z : State) (a0 : Array Value) (hw : ∀ d ∈ tables_1, d.before a0 Z = true) (ar : Addr) (h0 : Heap) (n0 : Nat) (Z0 : n0 ≤ h0.size) (b0 : Int32) (b1 : Int32) (b2 : Int32) (b3 : Int32) (b4 : Int32) (b5 : Int32) (b6 : Int32) (A0 : IA Z h0 ar .byte [b0, b1, b2, b3, b4, b5, b6]) :
    Meets l (⟨"com/example/batchwright/batchwright/producer/Partitioner", "murmur2", "([B)I"⟩ : MethodName) prog_29_method_3_code 6 (some .int) ({ frames := 0, cells := 0, slots := 0, locals := 0 } : Room) Z #[(.ref ar)] h0 n0 (fun v h => v = some (Value.int (f_mur7 b0 b1 b2 b3 b4 b5 b6)) ∧ h = h0) := by
  refine meets_of (plainFor_of_name pn0) (Ls := #[.val (.ref ar), .unset, .unset, .unset, .unset, .unset]) (fun m => by first | (simp [entryFrame, mkF, argsToLocals, Value.category]; done) | rfl) ?_
  intro p e s m below meth c K
  replace K : Kx Z "com/example/batchwright/batchwright/producer/Partitioner" "murmur2" prog_29_method_3_code 6 (some .int) p s m meth c := K
  obtain ⟨Q, hQ⟩ : ∃ Q : Option Value → Heap → Prop, Q = (fun v h => v = some (Value.int (f_mur7 b0 b1 b2 b3 b4 b5 b6)) ∧ h = h0) := ⟨_, rfl⟩
  rw [← hQ]
  refine g_aloadN K 0 d1_0 rfl rfl ?_
  refine g_alen K 1 (7 : Int32) d1_1 A0 (show (7 : Nat).toInt32 = (7 : Int32) from by decide) ?_
  refine g_istoreN K 2 #[.val (.ref ar), .val (.int (7 : Int32)), .unset, .unset, .unset, .unset] d1_2 rfl ?_
  refine g_iloadN K 3 d1_3 rfl ?_
  refine g_iloadN K 4 d1_4 rfl ?_
  refine g_iconst K 5 (4 : Int32) d1_5 (by decide) ?_
  refine g_irem K 6 d1_6 (by decide) ?_
  rw [show ((7 : Int32) % (4 : Int32)) = (3 : Int32) from by decide]
  refine g_isub K 7 d1_7 ?_
  rw [show ((7 : Int32) - (3 : Int32)) = (4 : Int32) from by decide]
  refine g_istoreN K 8 #[.val (.ref ar), .val (.int (7 : Int32)), .val (.int (4 : Int32)), .unset, .unset, .unset] d1_8 rfl ?_
  refine g_ldc K 9 (v := (-1756908916 : Int32)) d1_9 (tw hw 7 rfl) ?_
  refine g_iloadN K 11 d1_11 rfl ?_
  refine g_ixor K 12 d1_12 ?_
  rw [show ((-1756908916 : Int32) ^^^ (7 : Int32)) = (-1756908917 : Int32) from by decide]
  refine g_istoreN K 13 #[.val (.ref ar), .val (.int (7 : Int32)), .val (.int (4 : Int32)), .val (.int (-1756908917 : Int32)), .unset, .unset] d1_13 rfl ?_
  refine g_iconst K 14 (0 : Int32) d1_14 (by decide) ?_
  refine g_istore K 15 #[.val (.ref ar), .val (.int (7 : Int32)), .val (.int (4 : Int32)), .val (.int (-1756908917 : Int32)), .val (.int (0 : Int32)), .unset] d1_15 rfl ?_
  refine g_iload K 17 d1_17 rfl ?_
  refine g_iloadN K 19 d1_19 rfl ?_
  refine g_ii_ge K 20 115 d1_20 (by decide) (by decide) ?_ ?_
  · intro c1
    exact absurd c1 (by decide)
  · intro c1
    refine g_aloadN K 23 d1_23 rfl rfl ?_
    refine g_iload K 24 d1_24 rfl ?_
    refine g_baload K 26 b0 d1_26 A0 (by decide) (by rw [show (0 : Int32).toNatClampNeg = 0 from by decide]; rfl) ?_
    refine g_sipush K 27 (255 : Int32) d1_27 (by decide) ?_
    refine g_iand K 30 d1_30 ?_
    refine g_aloadN K 31 d1_31 rfl rfl ?_
    refine g_iload K 32 d1_32 rfl ?_
    refine g_iconst K 34 (1 : Int32) d1_34 (by decide) ?_
    refine g_iadd K 35 d1_35 ?_
    rw [show ((0 : Int32) + (1 : Int32)) = (1 : Int32) from by decide]
    refine g_baload K 36 b1 d1_36 A0 (by decide) (by rw [show (1 : Int32).toNatClampNeg = 1 from by decide]; rfl) ?_
    refine g_sipush K 37 (255 : Int32) d1_37 (by decide) ?_
    refine g_iand K 40 d1_40 ?_
    refine g_bipush K 41 (8 : Int32) d1_41 (by decide) ?_
    refine g_ishl K 43 d1_43 ?_
    refine g_ior K 44 d1_44 ?_
    refine g_aloadN K 45 d1_45 rfl rfl ?_
    refine g_iload K 46 d1_46 rfl ?_
    refine g_iconst K 48 (2 : Int32) d1_48 (by decide) ?_
    refine g_iadd K 49 d1_49 ?_
    rw [show ((0 : Int32) + (2 : Int32)) = (2 : Int32) from by decide]
    refine g_baload K 50 b2 d1_50 A0 (by decide) (by rw [show (2 : Int32).toNatClampNeg = 2 from by decide]; rfl) ?_
    refine g_sipush K 51 (255 : Int32) d1_51 (by decide) ?_
    refine g_iand K 54 d1_54 ?_
    refine g_bipush K 55 (16 : Int32) d1_55 (by decide) ?_
    refine g_ishl K 57 d1_57 ?_
    refine g_ior K 58 d1_58 ?_
    refine g_aloadN K 59 d1_59 rfl rfl ?_
    refine g_iload K 60 d1_60 rfl ?_
    refine g_iconst K 62 (3 : Int32) d1_62 (by decide) ?_
    refine g_iadd K 63 d1_63 ?_
    rw [show ((0 : Int32) + (3 : Int32)) = (3 : Int32) from by decide]
    refine g_baload K 64 b3 d1_64 A0 (by decide) (by rw [show (3 : Int32).toNatClampNeg = 3 from by decide]; rfl) ?_
    refine g_sipush K 65 (255 : Int32) d1_65 (by decide) ?_
    refine g_iand K 68 d1_68 ?_
    refine g_bipush K 69 (24 : Int32) d1_69 (by decide) ?_
    refine g_ishl K 71 d1_71 ?_
    refine g_ior K 72 d1_72 ?_
    refine g_istore K 73 #[.val (.ref ar), .val (.int (7 : Int32)), .val (.int (4 : Int32)), .val (.int (-1756908917 : Int32)), .val (.int (0 : Int32)), .val (.int ((((b0 &&& (255 : Int32)) ||| ((b1 &&& (255 : Int32)) <<< ((8 : Int32) &&& 31))) ||| ((b2 &&& (255 : Int32)) <<< ((16 : Int32) &&& 31))) ||| ((b3 &&& (255 : Int32)) <<< ((24 : Int32) &&& 31))))] d1_73 rfl ?_
    refine g_iload K 75 d1_75 rfl ?_
    refine g_ldc K 77 (v := (1540483477 : Int32)) d1_77 (tw hw 8 rfl) ?_
    refine g_imul K 79 d1_79 ?_
    refine g_istore K 80 #[.val (.ref ar), .val (.int (7 : Int32)), .val (.int (4 : Int32)), .val (.int (-1756908917 : Int32)), .val (.int (0 : Int32)), .val (.int (((((b0 &&& (255 : Int32)) ||| ((b1 &&& (255 : Int32)) <<< ((8 : Int32) &&& 31))) ||| ((b2 &&& (255 : Int32)) <<< ((16 : Int32) &&& 31))) ||| ((b3 &&& (255 : Int32)) <<< ((24 : Int32) &&& 31))) * (1540483477 : Int32)))] d1_80 rfl ?_
    refine g_iload K 82 d1_82 rfl ?_
    refine g_iload K 84 d1_84 rfl ?_
    refine g_bipush K 86 (24 : Int32) d1_86 (by decide) ?_
    refine g_iushr K 88 d1_88 ?_
    refine g_ixor K 89 d1_89 ?_
    refine g_istore K 90 #[.val (.ref ar), .val (.int (7 : Int32)), .val (.int (4 : Int32)), .val (.int (-1756908917 : Int32)), .val (.int (0 : Int32)), .val (.int ((((((b0 &&& (255 : Int32)) ||| ((b1 &&& (255 : Int32)) <<< ((8 : Int32) &&& 31))) ||| ((b2 &&& (255 : Int32)) <<< ((16 : Int32) &&& 31))) ||| ((b3 &&& (255 : Int32)) <<< ((24 : Int32) &&& 31))) * (1540483477 : Int32)) ^^^ (XT.ushr (((((b0 &&& (255 : Int32)) ||| ((b1 &&& (255 : Int32)) <<< ((8 : Int32) &&& 31))) ||| ((b2 &&& (255 : Int32)) <<< ((16 : Int32) &&& 31))) ||| ((b3 &&& (255 : Int32)) <<< ((24 : Int32) &&& 31))) * (1540483477 : Int32)) (24 : Int32))))] d1_90 rfl ?_
    refine g_iload K 92 d1_92 rfl ?_
    refine g_ldc K 94 (v := (1540483477 : Int32)) d1_94 (tw hw 8 rfl) ?_
    refine g_imul K 96 d1_96 ?_
    refine g_istore K 97 #[.val (.ref ar), .val (.int (7 : Int32)), .val (.int (4 : Int32)), .val (.int (-1756908917 : Int32)), .val (.int (0 : Int32)), .val (.int (((((((b0 &&& (255 : Int32)) ||| ((b1 &&& (255 : Int32)) <<< ((8 : Int32) &&& 31))) ||| ((b2 &&& (255 : Int32)) <<< ((16 : Int32) &&& 31))) ||| ((b3 &&& (255 : Int32)) <<< ((24 : Int32) &&& 31))) * (1540483477 : Int32)) ^^^ (XT.ushr (((((b0 &&& (255 : Int32)) ||| ((b1 &&& (255 : Int32)) <<< ((8 : Int32) &&& 31))) ||| ((b2 &&& (255 : Int32)) <<< ((16 : Int32) &&& 31))) ||| ((b3 &&& (255 : Int32)) <<< ((24 : Int32) &&& 31))) * (1540483477 : Int32)) (24 : Int32))) * (1540483477 : Int32)))] d1_97 rfl ?_
    refine g_iloadN K 99 d1_99 rfl ?_
    refine g_ldc K 100 (v := (1540483477 : Int32)) d1_100 (tw hw 8 rfl) ?_
    refine g_imul K 102 d1_102 ?_
    rw [show ((-1756908917 : Int32) * (1540483477 : Int32)) = (2058776039 : Int32) from by decide]
    refine g_istoreN K 103 #[.val (.ref ar), .val (.int (7 : Int32)), .val (.int (4 : Int32)), .val (.int (2058776039 : Int32)), .val (.int (0 : Int32)), .val (.int (((((((b0 &&& (255 : Int32)) ||| ((b1 &&& (255 : Int32)) <<< ((8 : Int32) &&& 31))) ||| ((b2 &&& (255 : Int32)) <<< ((16 : Int32) &&& 31))) ||| ((b3 &&& (255 : Int32)) <<< ((24 : Int32) &&& 31))) * (1540483477 : Int32)) ^^^ (XT.ushr (((((b0 &&& (255 : Int32)) ||| ((b1 &&& (255 : Int32)) <<< ((8 : Int32) &&& 31))) ||| ((b2 &&& (255 : Int32)) <<< ((16 : Int32) &&& 31))) ||| ((b3 &&& (255 : Int32)) <<< ((24 : Int32) &&& 31))) * (1540483477 : Int32)) (24 : Int32))) * (1540483477 : Int32)))] d1_103 rfl ?_
    refine g_iloadN K 104 d1_104 rfl ?_
    refine g_iload K 105 d1_105 rfl ?_
    refine g_ixor K 107 d1_107 ?_
    refine g_istoreN K 108 #[.val (.ref ar), .val (.int (7 : Int32)), .val (.int (4 : Int32)), .val (.int ((2058776039 : Int32) ^^^ (((((((b0 &&& (255 : Int32)) ||| ((b1 &&& (255 : Int32)) <<< ((8 : Int32) &&& 31))) ||| ((b2 &&& (255 : Int32)) <<< ((16 : Int32) &&& 31))) ||| ((b3 &&& (255 : Int32)) <<< ((24 : Int32) &&& 31))) * (1540483477 : Int32)) ^^^ (XT.ushr (((((b0 &&& (255 : Int32)) ||| ((b1 &&& (255 : Int32)) <<< ((8 : Int32) &&& 31))) ||| ((b2 &&& (255 : Int32)) <<< ((16 : Int32) &&& 31))) ||| ((b3 &&& (255 : Int32)) <<< ((24 : Int32) &&& 31))) * (1540483477 : Int32)) (24 : Int32))) * (1540483477 : Int32)))), .val (.int (0 : Int32)), .val (.int (((((((b0 &&& (255 : Int32)) ||| ((b1 &&& (255 : Int32)) <<< ((8 : Int32) &&& 31))) ||| ((b2 &&& (255 : Int32)) <<< ((16 : Int32) &&& 31))) ||| ((b3 &&& (255 : Int32)) <<< ((24 : Int32) &&& 31))) * (1540483477 : Int32)) ^^^ (XT.ushr (((((b0 &&& (255 : Int32)) ||| ((b1 &&& (255 : Int32)) <<< ((8 : Int32) &&& 31))) ||| ((b2 &&& (255 : Int32)) <<< ((16 : Int32) &&& 31))) ||| ((b3 &&& (255 : Int32)) <<< ((24 : Int32) &&& 31))) * (1540483477 : Int32)) (24 : Int32))) * (1540483477 : Int32)))] d1_108 rfl ?_
    refine g_iinc K 109 (4 : Int32) #[.val (.ref ar), .val (.int (7 : Int32)), .val (.int (4 : Int32)), .val (.int ((2058776039 : Int32) ^^^ (((((((b0 &&& (255 : Int32)) ||| ((b1 &&& (255 : Int32)) <<< ((8 : Int32) &&& 31))) ||| ((b2 &&& (255 : Int32)) <<< ((16 : Int32) &&& 31))) ||| ((b3 &&& (255 : Int32)) <<< ((24 : Int32) &&& 31))) * (1540483477 : Int32)) ^^^ (XT.ushr (((((b0 &&& (255 : Int32)) ||| ((b1 &&& (255 : Int32)) <<< ((8 : Int32) &&& 31))) ||| ((b2 &&& (255 : Int32)) <<< ((16 : Int32) &&& 31))) ||| ((b3 &&& (255 : Int32)) <<< ((24 : Int32) &&& 31))) * (1540483477 : Int32)) (24 : Int32))) * (1540483477 : Int32)))), .val (.int ((0 : Int32) + (4 : Int32))), .val (.int (((((((b0 &&& (255 : Int32)) ||| ((b1 &&& (255 : Int32)) <<< ((8 : Int32) &&& 31))) ||| ((b2 &&& (255 : Int32)) <<< ((16 : Int32) &&& 31))) ||| ((b3 &&& (255 : Int32)) <<< ((24 : Int32) &&& 31))) * (1540483477 : Int32)) ^^^ (XT.ushr (((((b0 &&& (255 : Int32)) ||| ((b1 &&& (255 : Int32)) <<< ((8 : Int32) &&& 31))) ||| ((b2 &&& (255 : Int32)) <<< ((16 : Int32) &&& 31))) ||| ((b3 &&& (255 : Int32)) <<< ((24 : Int32) &&& 31))) * (1540483477 : Int32)) (24 : Int32))) * (1540483477 : Int32)))] d1_109 (by decide) rfl rfl ?_
    rw [show ((0 : Int32) + (4 : Int32)) = (4 : Int32) from by decide]
    refine g_goto K 112 17 d1_112 (by decide) (by decide) ?_
    refine g_iload K 17 d1_17 rfl ?_
    refine g_iloadN K 19 d1_19 rfl ?_
    refine g_ii_ge K 20 115 d1_20 (by decide) (by decide) ?_ ?_
    · intro c2
      refine g_iloadN K 115 d1_115 rfl ?_
      refine g_iloadN K 116 d1_116 rfl ?_
      refine g_isub K 117 d1_117 ?_
      rw [show ((7 : Int32) - (4 : Int32)) = (3 : Int32) from by decide]
      refine g_istore K 118 #[.val (.ref ar), .val (.int (7 : Int32)), .val (.int (4 : Int32)), .val (.int ((2058776039 : Int32) ^^^ (((((((b0 &&& (255 : Int32)) ||| ((b1 &&& (255 : Int32)) <<< ((8 : Int32) &&& 31))) ||| ((b2 &&& (255 : Int32)) <<< ((16 : Int32) &&& 31))) ||| ((b3 &&& (255 : Int32)) <<< ((24 : Int32) &&& 31))) * (1540483477 : Int32)) ^^^ (XT.ushr (((((b0 &&& (255 : Int32)) ||| ((b1 &&& (255 : Int32)) <<< ((8 : Int32) &&& 31))) ||| ((b2 &&& (255 : Int32)) <<< ((16 : Int32) &&& 31))) ||| ((b3 &&& (255 : Int32)) <<< ((24 : Int32) &&& 31))) * (1540483477 : Int32)) (24 : Int32))) * (1540483477 : Int32)))), .val (.int (3 : Int32)), .val (.int (((((((b0 &&& (255 : Int32)) ||| ((b1 &&& (255 : Int32)) <<< ((8 : Int32) &&& 31))) ||| ((b2 &&& (255 : Int32)) <<< ((16 : Int32) &&& 31))) ||| ((b3 &&& (255 : Int32)) <<< ((24 : Int32) &&& 31))) * (1540483477 : Int32)) ^^^ (XT.ushr (((((b0 &&& (255 : Int32)) ||| ((b1 &&& (255 : Int32)) <<< ((8 : Int32) &&& 31))) ||| ((b2 &&& (255 : Int32)) <<< ((16 : Int32) &&& 31))) ||| ((b3 &&& (255 : Int32)) <<< ((24 : Int32) &&& 31))) * (1540483477 : Int32)) (24 : Int32))) * (1540483477 : Int32)))] d1_118 rfl ?_
      refine g_iload K 120 d1_120 rfl ?_
      refine g_iconst K 122 (3 : Int32) d1_122 (by decide) ?_
      refine g_ii_ne K 123 141 d1_123 (by decide) (by decide) ?_ ?_
      · intro c3
        exact absurd c3 (by decide)
      · intro c3
        refine g_iloadN K 126 d1_126 rfl ?_
        refine g_aloadN K 127 d1_127 rfl rfl ?_
        refine g_iloadN K 128 d1_128 rfl ?_
        refine g_iconst K 129 (2 : Int32) d1_129 (by decide) ?_
        refine g_iadd K 130 d1_130 ?_
        rw [show ((4 : Int32) + (2 : Int32)) = (6 : Int32) from by decide]
        refine g_baload K 131 b6 d1_131 A0 (by decide) (by rw [show (6 : Int32).toNatClampNeg = 6 from by decide]; rfl) ?_
        refine g_sipush K 132 (255 : Int32) d1_132 (by decide) ?_
        refine g_iand K 135 d1_135 ?_
        refine g_bipush K 136 (16 : Int32) d1_136 (by decide) ?_
        refine g_ishl K 138 d1_138 ?_
        refine g_ixor K 139 d1_139 ?_
        refine g_istoreN K 140 #[.val (.ref ar), .val (.int (7 : Int32)), .val (.int (4 : Int32)), .val (.int (((2058776039 : Int32) ^^^ (((((((b0 &&& (255 : Int32)) ||| ((b1 &&& (255 : Int32)) <<< ((8 : Int32) &&& 31))) ||| ((b2 &&& (255 : Int32)) <<< ((16 : Int32) &&& 31))) ||| ((b3 &&& (255 : Int32)) <<< ((24 : Int32) &&& 31))) * (1540483477 : Int32)) ^^^ (XT.ushr (((((b0 &&& (255 : Int32)) ||| ((b1 &&& (255 : Int32)) <<< ((8 : Int32) &&& 31))) ||| ((b2 &&& (255 : Int32)) <<< ((16 : Int32) &&& 31))) ||| ((b3 &&& (255 : Int32)) <<< ((24 : Int32) &&& 31))) * (1540483477 : Int32)) (24 : Int32))) * (1540483477 : Int32))) ^^^ ((b6 &&& (255 : Int32)) <<< ((16 : Int32) &&& 31)))), .val (.int (3 : Int32)), .val (.int (((((((b0 &&& (255 : Int32)) ||| ((b1 &&& (255 : Int32)) <<< ((8 : Int32) &&& 31))) ||| ((b2 &&& (255 : Int32)) <<< ((16 : Int32) &&& 31))) ||| ((b3 &&& (255 : Int32)) <<< ((24 : Int32) &&& 31))) * (1540483477 : Int32)) ^^^ (XT.ushr (((((b0 &&& (255 : Int32)) ||| ((b1 &&& (255 : Int32)) <<< ((8 : Int32) &&& 31))) ||| ((b2 &&& (255 : Int32)) <<< ((16 : Int32) &&& 31))) ||| ((b3 &&& (255 : Int32)) <<< ((24 : Int32) &&& 31))) * (1540483477 : Int32)) (24 : Int32))) * (1540483477 : Int32)))] d1_140 rfl ?_
        refine g_iload K 141 d1_141 rfl ?_
        refine g_iconst K 143 (2 : Int32) d1_143 (by decide) ?_
        refine g_ii_lt K 144 162 d1_144 (by decide) (by decide) ?_ ?_
        · intro c4
          exact absurd c4 (by decide)
        · intro c4
          refine g_iloadN K 147 d1_147 rfl ?_
          refine g_aloadN K 148 d1_148 rfl rfl ?_
          refine g_iloadN K 149 d1_149 rfl ?_
          refine g_iconst K 150 (1 : Int32) d1_150 (by decide) ?_
          refine g_iadd K 151 d1_151 ?_
          rw [show ((4 : Int32) + (1 : Int32)) = (5 : Int32) from by decide]
          refine g_baload K 152 b5 d1_152 A0 (by decide) (by rw [show (5 : Int32).toNatClampNeg = 5 from by decide]; rfl) ?_
          refine g_sipush K 153 (255 : Int32) d1_153 (by decide) ?_
          refine g_iand K 156 d1_156 ?_
          refine g_bipush K 157 (8 : Int32) d1_157 (by decide) ?_
          refine g_ishl K 159 d1_159 ?_
          refine g_ixor K 160 d1_160 ?_
          refine g_istoreN K 161 #[.val (.ref ar), .val (.int (7 : Int32)), .val (.int (4 : Int32)), .val (.int ((((2058776039 : Int32) ^^^ (((((((b0 &&& (255 : Int32)) ||| ((b1 &&& (255 : Int32)) <<< ((8 : Int32) &&& 31))) ||| ((b2 &&& (255 : Int32)) <<< ((16 : Int32) &&& 31))) ||| ((b3 &&& (255 : Int32)) <<< ((24 : Int32) &&& 31))) * (1540483477 : Int32)) ^^^ (XT.ushr (((((b0 &&& (255 : Int32)) ||| ((b1 &&& (255 : Int32)) <<< ((8 : Int32) &&& 31))) ||| ((b2 &&& (255 : Int32)) <<< ((16 : Int32) &&& 31))) ||| ((b3 &&& (255 : Int32)) <<< ((24 : Int32) &&& 31))) * (1540483477 : Int32)) (24 : Int32))) * (1540483477 : Int32))) ^^^ ((b6 &&& (255 : Int32)) <<< ((16 : Int32) &&& 31))) ^^^ ((b5 &&& (255 : Int32)) <<< ((8 : Int32) &&& 31)))), .val (.int (3 : Int32)), .val (.int (((((((b0 &&& (255 : Int32)) ||| ((b1 &&& (255 : Int32)) <<< ((8 : Int32) &&& 31))) ||| ((b2 &&& (255 : Int32)) <<< ((16 : Int32) &&& 31))) ||| ((b3 &&& (255 : Int32)) <<< ((24 : Int32) &&& 31))) * (1540483477 : Int32)) ^^^ (XT.ushr (((((b0 &&& (255 : Int32)) ||| ((b1 &&& (255 : Int32)) <<< ((8 : Int32) &&& 31))) ||| ((b2 &&& (255 : Int32)) <<< ((16 : Int32) &&& 31))) ||| ((b3 &&& (255 : Int32)) <<< ((24 : Int32) &&& 31))) * (1540483477 : Int32)) (24 : Int32))) * (1540483477 : Int32)))] d1_161 rfl ?_
          refine g_iload K 162 d1_162 rfl ?_
          refine g_iconst K 164 (1 : Int32) d1_164 (by decide) ?_
          refine g_ii_lt K 165 183 d1_165 (by decide) (by decide) ?_ ?_
          · intro c5
            exact absurd c5 (by decide)
          · intro c5
            refine g_iloadN K 168 d1_168 rfl ?_
            refine g_aloadN K 169 d1_169 rfl rfl ?_
            refine g_iloadN K 170 d1_170 rfl ?_
            refine g_baload K 171 b4 d1_171 A0 (by decide) (by rw [show (4 : Int32).toNatClampNeg = 4 from by decide]; rfl) ?_
            refine g_sipush K 172 (255 : Int32) d1_172 (by decide) ?_
            refine g_iand K 175 d1_175 ?_
            refine g_ixor K 176 d1_176 ?_
            refine g_istoreN K 177 #[.val (.ref ar), .val (.int (7 : Int32)), .val (.int (4 : Int32)), .val (.int (((((2058776039 : Int32) ^^^ (((((((b0 &&& (255 : Int32)) ||| ((b1 &&& (255 : Int32)) <<< ((8 : Int32) &&& 31))) ||| ((b2 &&& (255 : Int32)) <<< ((16 : Int32) &&& 31))) ||| ((b3 &&& (255 : Int32)) <<< ((24 : Int32) &&& 31))) * (1540483477 : Int32)) ^^^ (XT.ushr (((((b0 &&& (255 : Int32)) ||| ((b1 &&& (255 : Int32)) <<< ((8 : Int32) &&& 31))) ||| ((b2 &&& (255 : Int32)) <<< ((16 : Int32) &&& 31))) ||| ((b3 &&& (255 : Int32)) <<< ((24 : Int32) &&& 31))) * (1540483477 : Int32)) (24 : Int32))) * (1540483477 : Int32))) ^^^ ((b6 &&& (255 : Int32)) <<< ((16 : Int32) &&& 31))) ^^^ ((b5 &&& (255 : Int32)) <<< ((8 : Int32) &&& 31))) ^^^ (b4 &&& (255 : Int32)))), .val (.int (3 : Int32)), .val (.int (((((((b0 &&& (255 : Int32)) ||| ((b1 &&& (255 : Int32)) <<< ((8 : Int32) &&& 31))) ||| ((b2 &&& (255 : Int32)) <<< ((16 : Int32) &&& 31))) ||| ((b3 &&& (255 : Int32)) <<< ((24 : Int32) &&& 31))) * (1540483477 : Int32)) ^^^ (XT.ushr (((((b0 &&& (255 : Int32)) ||| ((b1 &&& (255 : Int32)) <<< ((8 : Int32) &&& 31))) ||| ((b2 &&& (255 : Int32)) <<< ((16 : Int32) &&& 31))) ||| ((b3 &&& (255 : Int32)) <<< ((24 : Int32) &&& 31))) * (1540483477 : Int32)) (24 : Int32))) * (1540483477 : Int32)))] d1_177 rfl ?_
            refine g_iloadN K 178 d1_178 rfl ?_
            refine g_ldc K 179 (v := (1540483477 : Int32)) d1_179 (tw hw 8 rfl) ?_
            refine g_imul K 181 d1_181 ?_
            refine g_istoreN K 182 #[.val (.ref ar), .val (.int (7 : Int32)), .val (.int (4 : Int32)), .val (.int ((((((2058776039 : Int32) ^^^ (((((((b0 &&& (255 : Int32)) ||| ((b1 &&& (255 : Int32)) <<< ((8 : Int32) &&& 31))) ||| ((b2 &&& (255 : Int32)) <<< ((16 : Int32) &&& 31))) ||| ((b3 &&& (255 : Int32)) <<< ((24 : Int32) &&& 31))) * (1540483477 : Int32)) ^^^ (XT.ushr (((((b0 &&& (255 : Int32)) ||| ((b1 &&& (255 : Int32)) <<< ((8 : Int32) &&& 31))) ||| ((b2 &&& (255 : Int32)) <<< ((16 : Int32) &&& 31))) ||| ((b3 &&& (255 : Int32)) <<< ((24 : Int32) &&& 31))) * (1540483477 : Int32)) (24 : Int32))) * (1540483477 : Int32))) ^^^ ((b6 &&& (255 : Int32)) <<< ((16 : Int32) &&& 31))) ^^^ ((b5 &&& (255 : Int32)) <<< ((8 : Int32) &&& 31))) ^^^ (b4 &&& (255 : Int32))) * (1540483477 : Int32))), .val (.int (3 : Int32)), .val (.int (((((((b0 &&& (255 : Int32)) ||| ((b1 &&& (255 : Int32)) <<< ((8 : Int32) &&& 31))) ||| ((b2 &&& (255 : Int32)) <<< ((16 : Int32) &&& 31))) ||| ((b3 &&& (255 : Int32)) <<< ((24 : Int32) &&& 31))) * (1540483477 : Int32)) ^^^ (XT.ushr (((((b0 &&& (255 : Int32)) ||| ((b1 &&& (255 : Int32)) <<< ((8 : Int32) &&& 31))) ||| ((b2 &&& (255 : Int32)) <<< ((16 : Int32) &&& 31))) ||| ((b3 &&& (255 : Int32)) <<< ((24 : Int32) &&& 31))) * (1540483477 : Int32)) (24 : Int32))) * (1540483477 : Int32)))] d1_182 rfl ?_
            refine g_iloadN K 183 d1_183 rfl ?_
            refine g_iloadN K 184 d1_184 rfl ?_
            refine g_bipush K 185 (13 : Int32) d1_185 (by decide) ?_
            refine g_iushr K 187 d1_187 ?_
            refine g_ixor K 188 d1_188 ?_
            refine g_istoreN K 189 #[.val (.ref ar), .val (.int (7 : Int32)), .val (.int (4 : Int32)), .val (.int (((((((2058776039 : Int32) ^^^ (((((((b0 &&& (255 : Int32)) ||| ((b1 &&& (255 : Int32)) <<< ((8 : Int32) &&& 31))) ||| ((b2 &&& (255 : Int32)) <<< ((16 : Int32) &&& 31))) ||| ((b3 &&& (255 : Int32)) <<< ((24 : Int32) &&& 31))) * (1540483477 : Int32)) ^^^ (XT.ushr (((((b0 &&& (255 : Int32)) ||| ((b1 &&& (255 : Int32)) <<< ((8 : Int32) &&& 31))) ||| ((b2 &&& (255 : Int32)) <<< ((16 : Int32) &&& 31))) ||| ((b3 &&& (255 : Int32)) <<< ((24 : Int32) &&& 31))) * (1540483477 : Int32)) (24 : Int32))) * (1540483477 : Int32))) ^^^ ((b6 &&& (255 : Int32)) <<< ((16 : Int32) &&& 31))) ^^^ ((b5 &&& (255 : Int32)) <<< ((8 : Int32) &&& 31))) ^^^ (b4 &&& (255 : Int32))) * (1540483477 : Int32)) ^^^ (XT.ushr ((((((2058776039 : Int32) ^^^ (((((((b0 &&& (255 : Int32)) ||| ((b1 &&& (255 : Int32)) <<< ((8 : Int32) &&& 31))) ||| ((b2 &&& (255 : Int32)) <<< ((16 : Int32) &&& 31))) ||| ((b3 &&& (255 : Int32)) <<< ((24 : Int32) &&& 31))) * (1540483477 : Int32)) ^^^ (XT.ushr (((((b0 &&& (255 : Int32)) ||| ((b1 &&& (255 : Int32)) <<< ((8 : Int32) &&& 31))) ||| ((b2 &&& (255 : Int32)) <<< ((16 : Int32) &&& 31))) ||| ((b3 &&& (255 : Int32)) <<< ((24 : Int32) &&& 31))) * (1540483477 : Int32)) (24 : Int32))) * (1540483477 : Int32))) ^^^ ((b6 &&& (255 : Int32)) <<< ((16 : Int32) &&& 31))) ^^^ ((b5 &&& (255 : Int32)) <<< ((8 : Int32) &&& 31))) ^^^ (b4 &&& (255 : Int32))) * (1540483477 : Int32)) (13 : Int32)))), .val (.int (3 : Int32)), .val (.int (((((((b0 &&& (255 : Int32)) ||| ((b1 &&& (255 : Int32)) <<< ((8 : Int32) &&& 31))) ||| ((b2 &&& (255 : Int32)) <<< ((16 : Int32) &&& 31))) ||| ((b3 &&& (255 : Int32)) <<< ((24 : Int32) &&& 31))) * (1540483477 : Int32)) ^^^ (XT.ushr (((((b0 &&& (255 : Int32)) ||| ((b1 &&& (255 : Int32)) <<< ((8 : Int32) &&& 31))) ||| ((b2 &&& (255 : Int32)) <<< ((16 : Int32) &&& 31))) ||| ((b3 &&& (255 : Int32)) <<< ((24 : Int32) &&& 31))) * (1540483477 : Int32)) (24 : Int32))) * (1540483477 : Int32)))] d1_189 rfl ?_
            refine g_iloadN K 190 d1_190 rfl ?_
            refine g_ldc K 191 (v := (1540483477 : Int32)) d1_191 (tw hw 8 rfl) ?_
            refine g_imul K 193 d1_193 ?_
            refine g_istoreN K 194 #[.val (.ref ar), .val (.int (7 : Int32)), .val (.int (4 : Int32)), .val (.int ((((((((2058776039 : Int32) ^^^ (((((((b0 &&& (255 : Int32)) ||| ((b1 &&& (255 : Int32)) <<< ((8 : Int32) &&& 31))) ||| ((b2 &&& (255 : Int32)) <<< ((16 : Int32) &&& 31))) ||| ((b3 &&& (255 : Int32)) <<< ((24 : Int32) &&& 31))) * (1540483477 : Int32)) ^^^ (XT.ushr (((((b0 &&& (255 : Int32)) ||| ((b1 &&& (255 : Int32)) <<< ((8 : Int32) &&& 31))) ||| ((b2 &&& (255 : Int32)) <<< ((16 : Int32) &&& 31))) ||| ((b3 &&& (255 : Int32)) <<< ((24 : Int32) &&& 31))) * (1540483477 : Int32)) (24 : Int32))) * (1540483477 : Int32))) ^^^ ((b6 &&& (255 : Int32)) <<< ((16 : Int32) &&& 31))) ^^^ ((b5 &&& (255 : Int32)) <<< ((8 : Int32) &&& 31))) ^^^ (b4 &&& (255 : Int32))) * (1540483477 : Int32)) ^^^ (XT.ushr ((((((2058776039 : Int32) ^^^ (((((((b0 &&& (255 : Int32)) ||| ((b1 &&& (255 : Int32)) <<< ((8 : Int32) &&& 31))) ||| ((b2 &&& (255 : Int32)) <<< ((16 : Int32) &&& 31))) ||| ((b3 &&& (255 : Int32)) <<< ((24 : Int32) &&& 31))) * (1540483477 : Int32)) ^^^ (XT.ushr (((((b0 &&& (255 : Int32)) ||| ((b1 &&& (255 : Int32)) <<< ((8 : Int32) &&& 31))) ||| ((b2 &&& (255 : Int32)) <<< ((16 : Int32) &&& 31))) ||| ((b3 &&& (255 : Int32)) <<< ((24 : Int32) &&& 31))) * (1540483477 : Int32)) (24 : Int32))) * (1540483477 : Int32))) ^^^ ((b6 &&& (255 : Int32)) <<< ((16 : Int32) &&& 31))) ^^^ ((b5 &&& (255 : Int32)) <<< ((8 : Int32) &&& 31))) ^^^ (b4 &&& (255 : Int32))) * (1540483477 : Int32)) (13 : Int32))) * (1540483477 : Int32))), .val (.int (3 : Int32)), .val (.int (((((((b0 &&& (255 : Int32)) ||| ((b1 &&& (255 : Int32)) <<< ((8 : Int32) &&& 31))) ||| ((b2 &&& (255 : Int32)) <<< ((16 : Int32) &&& 31))) ||| ((b3 &&& (255 : Int32)) <<< ((24 : Int32) &&& 31))) * (1540483477 : Int32)) ^^^ (XT.ushr (((((b0 &&& (255 : Int32)) ||| ((b1 &&& (255 : Int32)) <<< ((8 : Int32) &&& 31))) ||| ((b2 &&& (255 : Int32)) <<< ((16 : Int32) &&& 31))) ||| ((b3 &&& (255 : Int32)) <<< ((24 : Int32) &&& 31))) * (1540483477 : Int32)) (24 : Int32))) * (1540483477 : Int32)))] d1_194 rfl ?_
            refine g_iloadN K 195 d1_195 rfl ?_
            refine g_iloadN K 196 d1_196 rfl ?_
            refine g_bipush K 197 (15 : Int32) d1_197 (by decide) ?_
            refine g_iushr K 199 d1_199 ?_
            refine g_ixor K 200 d1_200 ?_
            refine g_istoreN K 201 #[.val (.ref ar), .val (.int (7 : Int32)), .val (.int (4 : Int32)), .val (.int (((((((((2058776039 : Int32) ^^^ (((((((b0 &&& (255 : Int32)) ||| ((b1 &&& (255 : Int32)) <<< ((8 : Int32) &&& 31))) ||| ((b2 &&& (255 : Int32)) <<< ((16 : Int32) &&& 31))) ||| ((b3 &&& (255 : Int32)) <<< ((24 : Int32) &&& 31))) * (1540483477 : Int32)) ^^^ (XT.ushr (((((b0 &&& (255 : Int32)) ||| ((b1 &&& (255 : Int32)) <<< ((8 : Int32) &&& 31))) ||| ((b2 &&& (255 : Int32)) <<< ((16 : Int32) &&& 31))) ||| ((b3 &&& (255 : Int32)) <<< ((24 : Int32) &&& 31))) * (1540483477 : Int32)) (24 : Int32))) * (1540483477 : Int32))) ^^^ ((b6 &&& (255 : Int32)) <<< ((16 : Int32) &&& 31))) ^^^ ((b5 &&& (255 : Int32)) <<< ((8 : Int32) &&& 31))) ^^^ (b4 &&& (255 : Int32))) * (1540483477 : Int32)) ^^^ (XT.ushr ((((((2058776039 : Int32) ^^^ (((((((b0 &&& (255 : Int32)) ||| ((b1 &&& (255 : Int32)) <<< ((8 : Int32) &&& 31))) ||| ((b2 &&& (255 : Int32)) <<< ((16 : Int32) &&& 31))) ||| ((b3 &&& (255 : Int32)) <<< ((24 : Int32) &&& 31))) * (1540483477 : Int32)) ^^^ (XT.ushr (((((b0 &&& (255 : Int32)) ||| ((b1 &&& (255 : Int32)) <<< ((8 : Int32) &&& 31))) ||| ((b2 &&& (255 : Int32)) <<< ((16 : Int32) &&& 31))) ||| ((b3 &&& (255 : Int32)) <<< ((24 : Int32) &&& 31))) * (1540483477 : Int32)) (24 : Int32))) * (1540483477 : Int32))) ^^^ ((b6 &&& (255 : Int32)) <<< ((16 : Int32) &&& 31))) ^^^ ((b5 &&& (255 : Int32)) <<< ((8 : Int32) &&& 31))) ^^^ (b4 &&& (255 : Int32))) * (1540483477 : Int32)) (13 : Int32))) * (1540483477 : Int32)) ^^^ (XT.ushr ((((((((2058776039 : Int32) ^^^ (((((((b0 &&& (255 : Int32)) ||| ((b1 &&& (255 : Int32)) <<< ((8 : Int32) &&& 31))) ||| ((b2 &&& (255 : Int32)) <<< ((16 : Int32) &&& 31))) ||| ((b3 &&& (255 : Int32)) <<< ((24 : Int32) &&& 31))) * (1540483477 : Int32)) ^^^ (XT.ushr (((((b0 &&& (255 : Int32)) ||| ((b1 &&& (255 : Int32)) <<< ((8 : Int32) &&& 31))) ||| ((b2 &&& (255 : Int32)) <<< ((16 : Int32) &&& 31))) ||| ((b3 &&& (255 : Int32)) <<< ((24 : Int32) &&& 31))) * (1540483477 : Int32)) (24 : Int32))) * (1540483477 : Int32))) ^^^ ((b6 &&& (255 : Int32)) <<< ((16 : Int32) &&& 31))) ^^^ ((b5 &&& (255 : Int32)) <<< ((8 : Int32) &&& 31))) ^^^ (b4 &&& (255 : Int32))) * (1540483477 : Int32)) ^^^ (XT.ushr ((((((2058776039 : Int32) ^^^ (((((((b0 &&& (255 : Int32)) ||| ((b1 &&& (255 : Int32)) <<< ((8 : Int32) &&& 31))) ||| ((b2 &&& (255 : Int32)) <<< ((16 : Int32) &&& 31))) ||| ((b3 &&& (255 : Int32)) <<< ((24 : Int32) &&& 31))) * (1540483477 : Int32)) ^^^ (XT.ushr (((((b0 &&& (255 : Int32)) ||| ((b1 &&& (255 : Int32)) <<< ((8 : Int32) &&& 31))) ||| ((b2 &&& (255 : Int32)) <<< ((16 : Int32) &&& 31))) ||| ((b3 &&& (255 : Int32)) <<< ((24 : Int32) &&& 31))) * (1540483477 : Int32)) (24 : Int32))) * (1540483477 : Int32))) ^^^ ((b6 &&& (255 : Int32)) <<< ((16 : Int32) &&& 31))) ^^^ ((b5 &&& (255 : Int32)) <<< ((8 : Int32) &&& 31))) ^^^ (b4 &&& (255 : Int32))) * (1540483477 : Int32)) (13 : Int32))) * (1540483477 : Int32)) (15 : Int32)))), .val (.int (3 : Int32)), .val (.int (((((((b0 &&& (255 : Int32)) ||| ((b1 &&& (255 : Int32)) <<< ((8 : Int32) &&& 31))) ||| ((b2 &&& (255 : Int32)) <<< ((16 : Int32) &&& 31))) ||| ((b3 &&& (255 : Int32)) <<< ((24 : Int32) &&& 31))) * (1540483477 : Int32)) ^^^ (XT.ushr (((((b0 &&& (255 : Int32)) ||| ((b1 &&& (255 : Int32)) <<< ((8 : Int32) &&& 31))) ||| ((b2 &&& (255 : Int32)) <<< ((16 : Int32) &&& 31))) ||| ((b3 &&& (255 : Int32)) <<< ((24 : Int32) &&& 31))) * (1540483477 : Int32)) (24 : Int32))) * (1540483477 : Int32)))] d1_201 rfl ?_
            refine g_iloadN K 202 d1_202 rfl ?_
            refine g_ireturn K 203 d1_203 rfl (by decide) (by decide) ?_
            rw [hQ]
            refine ⟨?_, rfl⟩
            show some (Value.int _) = some (Value.int (f_mur7 b0 b1 b2 b3 b4 b5 b6))
            unfold f_mur7
            rfl
    · intro c2
      exact absurd c2 (by decide)
def f_mur8 (b0 : Int32) (b1 : Int32) (b2 : Int32) (b3 : Int32) (b4 : Int32) (b5 : Int32) (b6 : Int32) (b7 : Int32) : Int32 := (((((((-134673708 : Int32) ^^^ (((((((b0 &&& (255 : Int32)) ||| ((b1 &&& (255 : Int32)) <<< ((8 : Int32) &&& 31))) ||| ((b2 &&& (255 : Int32)) <<< ((16 : Int32) &&& 31))) ||| ((b3 &&& (255 : Int32)) <<< ((24 : Int32) &&& 31))) * (1540483477 : Int32)) ^^^ (XT.ushr (((((b0 &&& (255 : Int32)) ||| ((b1 &&& (255 : Int32)) <<< ((8 : Int32) &&& 31))) ||| ((b2 &&& (255 : Int32)) <<< ((16 : Int32) &&& 31))) ||| ((b3 &&& (255 : Int32)) <<< ((24 : Int32) &&& 31))) * (1540483477 : Int32)) (24 : Int32))) * (1540483477 : Int32))) * (1540483477 : Int32)) ^^^ (((((((b4 &&& (255 : Int32)) ||| ((b5 &&& (255 : Int32)) <<< ((8 : Int32) &&& 31))) ||| ((b6 &&& (255 : Int32)) <<< ((16 : Int32) &&& 31))) ||| ((b7 &&& (255 : Int32)) <<< ((24 : Int32) &&& 31))) * (1540483477 : Int32)) ^^^ (XT.ushr (((((b4 &&& (255 : Int32)) ||| ((b5 &&& (255 : Int32)) <<< ((8 : Int32) &&& 31))) ||| ((b6 &&& (255 : Int32)) <<< ((16 : Int32) &&& 31))) ||| ((b7 &&& (255 : Int32)) <<< ((24 : Int32) &&& 31))) * (1540483477 : Int32)) (24 : Int32))) * (1540483477 : Int32))) ^^^ (XT.ushr ((((-134673708 : Int32) ^^^ (((((((b0 &&& (255 : Int32)) ||| ((b1 &&& (255 : Int32)) <<< ((8 : Int32) &&& 31))) ||| ((b2 &&& (255 : Int32)) <<< ((16 : Int32) &&& 31))) ||| ((b3 &&& (255 : Int32)) <<< ((24 : Int32) &&& 31))) * (1540483477 : Int32)) ^^^ (XT.ushr (((((b0 &&& (255 : Int32)) ||| ((b1 &&& (255 : Int32)) <<< ((8 : Int32) &&& 31))) ||| ((b2 &&& (255 : Int32)) <<< ((16 : Int32) &&& 31))) ||| ((b3 &&& (255 : Int32)) <<< ((24 : Int32) &&& 31))) * (1540483477 : Int32)) (24 : Int32))) * (1540483477 : Int32))) * (1540483477 : Int32)) ^^^ (((((((b4 &&& (255 : Int32)) ||| ((b5 &&& (255 : Int32)) <<< ((8 : Int32) &&& 31))) ||| ((b6 &&& (255 : Int32)) <<< ((16 : Int32) &&& 31))) ||| ((b7 &&& (255 : Int32)) <<< ((24 : Int32) &&& 31))) * (1540483477 : Int32)) ^^^ (XT.ushr (((((b4 &&& (255 : Int32)) ||| ((b5 &&& (255 : Int32)) <<< ((8 : Int32) &&& 31))) ||| ((b6 &&& (255 : Int32)) <<< ((16 : Int32) &&& 31))) ||| ((b7 &&& (255 : Int32)) <<< ((24 : Int32) &&& 31))) * (1540483477 : Int32)) (24 : Int32))) * (1540483477 : Int32))) (13 : Int32))) * (1540483477 : Int32)) ^^^ (XT.ushr ((((((-134673708 : Int32) ^^^ (((((((b0 &&& (255 : Int32)) ||| ((b1 &&& (255 : Int32)) <<< ((8 : Int32) &&& 31))) ||| ((b2 &&& (255 : Int32)) <<< ((16 : Int32) &&& 31))) ||| ((b3 &&& (255 : Int32)) <<< ((24 : Int32) &&& 31))) * (1540483477 : Int32)) ^^^ (XT.ushr (((((b0 &&& (255 : Int32)) ||| ((b1 &&& (255 : Int32)) <<< ((8 : Int32) &&& 31))) ||| ((b2 &&& (255 : Int32)) <<< ((16 : Int32) &&& 31))) ||| ((b3 &&& (255 : Int32)) <<< ((24 : Int32) &&& 31))) * (1540483477 : Int32)) (24 : Int32))) * (1540483477 : Int32))) * (1540483477 : Int32)) ^^^ (((((((b4 &&& (255 : Int32)) ||| ((b5 &&& (255 : Int32)) <<< ((8 : Int32) &&& 31))) ||| ((b6 &&& (255 : Int32)) <<< ((16 : Int32) &&& 31))) ||| ((b7 &&& (255 : Int32)) <<< ((24 : Int32) &&& 31))) * (1540483477 : Int32)) ^^^ (XT.ushr (((((b4 &&& (255 : Int32)) ||| ((b5 &&& (255 : Int32)) <<< ((8 : Int32) &&& 31))) ||| ((b6 &&& (255 : Int32)) <<< ((16 : Int32) &&& 31))) ||| ((b7 &&& (255 : Int32)) <<< ((24 : Int32) &&& 31))) * (1540483477 : Int32)) (24 : Int32))) * (1540483477 : Int32))) ^^^ (XT.ushr ((((-134673708 : Int32) ^^^ (((((((b0 &&& (255 : Int32)) ||| ((b1 &&& (255 : Int32)) <<< ((8 : Int32) &&& 31))) ||| ((b2 &&& (255 : Int32)) <<< ((16 : Int32) &&& 31))) ||| ((b3 &&& (255 : Int32)) <<< ((24 : Int32) &&& 31))) * (1540483477 : Int32)) ^^^ (XT.ushr (((((b0 &&& (255 : Int32)) ||| ((b1 &&& (255 : Int32)) <<< ((8 : Int32) &&& 31))) ||| ((b2 &&& (255 : Int32)) <<< ((16 : Int32) &&& 31))) ||| ((b3 &&& (255 : Int32)) <<< ((24 : Int32) &&& 31))) * (1540483477 : Int32)) (24 : Int32))) * (1540483477 : Int32))) * (1540483477 : Int32)) ^^^ (((((((b4 &&& (255 : Int32)) ||| ((b5 &&& (255 : Int32)) <<< ((8 : Int32) &&& 31))) ||| ((b6 &&& (255 : Int32)) <<< ((16 : Int32) &&& 31))) ||| ((b7 &&& (255 : Int32)) <<< ((24 : Int32) &&& 31))) * (1540483477 : Int32)) ^^^ (XT.ushr (((((b4 &&& (255 : Int32)) ||| ((b5 &&& (255 : Int32)) <<< ((8 : Int32) &&& 31))) ||| ((b6 &&& (255 : Int32)) <<< ((16 : Int32) &&& 31))) ||| ((b7 &&& (255 : Int32)) <<< ((24 : Int32) &&& 31))) * (1540483477 : Int32)) (24 : Int32))) * (1540483477 : Int32))) (13 : Int32))) * (1540483477 : Int32)) (15 : Int32)))
set_option maxRecDepth 65536 in
set_option maxHeartbeats 40000000 in
theorem rm_mur8 (l : Launch) (Z : State) (a0 : Array Value) (hw : ∀ d ∈ tables_1, d.before a0 Z = true) (ar : Addr) (h0 : Heap) (n0 : Nat) (Z0 : n0 ≤ h0.size) (b0 : Int32) (b1 : Int32) (b2 : Int32) (b3 : Int32) (b4 : Int32) (b5 : Int32) (b6 : Int32) (b7 : Int32) (A0 : IA Z h0 ar .byte [b0, b1, b2, b3, b4, b5, b6, b7]) :
    Meets l (⟨"com/example/batchwright/batchwright/producer/Partitioner", "murmur2", "([B)I"⟩ : MethodName) prog_29_method_3_code 6 (some .int) ({ frames := 0, cells := 0, slots := 0, locals := 0 } : Room) Z #[(.ref ar)] h0 n0 (fun v h => v = some (Value.int (f_mur8 b0 b1 b2 b3 b4 b5 b6 b7)) ∧ h = h0) := by
  refine meets_of (plainFor_of_name pn0) (Ls := #[.val (.ref ar), .unset, .unset, .unset, .unset, .unset]) (fun m => by first | (simp [entryFrame, mkF, argsToLocals, Value.category]; done) | rfl) ?_
  intro p e s m below meth c K
  replace K : Kx Z "com/example/batchwright/batchwright/producer/Partitioner" "murmur2" prog_29_method_3_code 6 (some .int) p s m meth c := K
  obtain ⟨Q, hQ⟩ : ∃ Q : Option Value → Heap → Prop, Q = (fun v h => v = some (Value.int (f_mur8 b0 b1 b2 b3 b4 b5 b6 b7)) ∧ h = h0) := ⟨_, rfl⟩
  rw [← hQ]
  refine g_aloadN K 0 d1_0 rfl rfl ?_
  refine g_alen K 1 (8 : Int32) d1_1 A0 (show (8 : Nat).toInt32 = (8 : Int32) from by decide) ?_
  refine g_istoreN K 2 #[.val (.ref ar), .val (.int (8 : Int32)), .unset, .unset, .unset, .unset] d1_2 rfl ?_
  refine g_iloadN K 3 d1_3 rfl ?_
  refine g_iloadN K 4 d1_4 rfl ?_
  refine g_iconst K 5 (4 : Int32) d1_5 (by decide) ?_
  refine g_irem K 6 d1_6 (by decide) ?_
  rw [show ((8 : Int32) % (4 : Int32)) = (0 : Int32) from by decide]
  refine g_isub K 7 d1_7 ?_
  rw [show ((8 : Int32) - (0 : Int32)) = (8 : Int32) from by decide]
  refine g_istoreN K 8 #[.val (.ref ar), .val (.int (8 : Int32)), .val (.int (8 : Int32)), .unset, .unset, .unset] d1_8 rfl ?_
  refine g_ldc K 9 (v := (-1756908916 : Int32)) d1_9 (tw hw 7 rfl) ?_
  refine g_iloadN K 11 d1_11 rfl ?_
  refine g_ixor K 12 d1_12 ?_
  rw [show ((-1756908916 : Int32) ^^^ (8 : Int32)) = (-1756908924 : Int32) from by decide]
  refine g_istoreN K 13 #[.val (.ref ar), .val (.int (8 : Int32)), .val (.int (8 : Int32)), .val (.int (-1756908924 : Int32)), .unset, .unset] d1_13 rfl ?_
  refine g_iconst K 14 (0 : Int32) d1_14 (by decide) ?_
  refine g_istore K 15 #[.val (.ref ar), .val (.int (8 : Int32)), .val (.int (8 : Int32)), .val (.int (-1756908924 : Int32)), .val (.int (0 : Int32)), .unset] d1_15 rfl ?_
  refine g_iload K 17 d1_17 rfl ?_
  refine g_iloadN K 19 d1_19 rfl ?_
  refine g_ii_ge K 20 115 d1_20 (by decide) (by decide) ?_ ?_
  · intro c1
    exact absurd c1 (by decide)
  · intro c1
    refine g_aloadN K 23 d1_23 rfl rfl ?_
    refine g_iload K 24 d1_24 rfl ?_
    refine g_baload K 26 b0 d1_26 A0 (by decide) (by rw [show (0 : Int32).toNatClampNeg = 0 from by decide]; rfl) ?_
    refine g_sipush K 27 (255 : Int32) d1_27 (by decide) ?_
    refine g_iand K 30 d1_30 ?_
    refine g_aloadN K 31 d1_31 rfl rfl ?_
    refine g_iload K 32 d1_32 rfl ?_
    refine g_iconst K 34 (1 : Int32) d1_34 (by decide) ?_
    refine g_iadd K 35 d1_35 ?_
    rw [show ((0 : Int32) + (1 : Int32)) = (1 : Int32) from by decide]
    refine g_baload K 36 b1 d1_36 A0 (by decide) (by rw [show (1 : Int32).toNatClampNeg = 1 from by decide]; rfl) ?_
    refine g_sipush K 37 (255 : Int32) d1_37 (by decide) ?_
    refine g_iand K 40 d1_40 ?_
    refine g_bipush K 41 (8 : Int32) d1_41 (by decide) ?_
    refine g_ishl K 43 d1_43 ?_
    refine g_ior K 44 d1_44 ?_
    refine g_aloadN K 45 d1_45 rfl rfl ?_
    refine g_iload K 46 d1_46 rfl ?_
    refine g_iconst K 48 (2 : Int32) d1_48 (by decide) ?_
    refine g_iadd K 49 d1_49 ?_
    rw [show ((0 : Int32) + (2 : Int32)) = (2 : Int32) from by decide]
    refine g_baload K 50 b2 d1_50 A0 (by decide) (by rw [show (2 : Int32).toNatClampNeg = 2 from by decide]; rfl) ?_
    refine g_sipush K 51 (255 : Int32) d1_51 (by decide) ?_
    refine g_iand K 54 d1_54 ?_
    refine g_bipush K 55 (16 : Int32) d1_55 (by decide) ?_
    refine g_ishl K 57 d1_57 ?_
    refine g_ior K 58 d1_58 ?_
    refine g_aloadN K 59 d1_59 rfl rfl ?_
    refine g_iload K 60 d1_60 rfl ?_
    refine g_iconst K 62 (3 : Int32) d1_62 (by decide) ?_
    refine g_iadd K 63 d1_63 ?_
    rw [show ((0 : Int32) + (3 : Int32)) = (3 : Int32) from by decide]
    refine g_baload K 64 b3 d1_64 A0 (by decide) (by rw [show (3 : Int32).toNatClampNeg = 3 from by decide]; rfl) ?_
    refine g_sipush K 65 (255 : Int32) d1_65 (by decide) ?_
    refine g_iand K 68 d1_68 ?_
    refine g_bipush K 69 (24 : Int32) d1_69 (by decide) ?_
    refine g_ishl K 71 d1_71 ?_
    refine g_ior K 72 d1_72 ?_
    refine g_istore K 73 #[.val (.ref ar), .val (.int (8 : Int32)), .val (.int (8 : Int32)), .val (.int (-1756908924 : Int32)), .val (.int (0 : Int32)), .val (.int ((((b0 &&& (255 : Int32)) ||| ((b1 &&& (255 : Int32)) <<< ((8 : Int32) &&& 31))) ||| ((b2 &&& (255 : Int32)) <<< ((16 : Int32) &&& 31))) ||| ((b3 &&& (255 : Int32)) <<< ((24 : Int32) &&& 31))))] d1_73 rfl ?_
    refine g_iload K 75 d1_75 rfl ?_
    refine g_ldc K 77 (v := (1540483477 : Int32)) d1_77 (tw hw 8 rfl) ?_
    refine g_imul K 79 d1_79 ?_
    refine g_istore K 80 #[.val (.ref ar), .val (.int (8 : Int32)), .val (.int (8 : Int32)), .val (.int (-1756908924 : Int32)), .val (.int (0 : Int32)), .val (.int (((((b0 &&& (255 : Int32)) ||| ((b1 &&& (255 : Int32)) <<< ((8 : Int32) &&& 31))) ||| ((b2 &&& (255 : Int32)) <<< ((16 : Int32) &&& 31))) ||| ((b3 &&& (255 : Int32)) <<< ((24 : Int32) &&& 31))) * (1540483477 : Int32)))] d1_80 rfl ?_
    refine g_iload K 82 d1_82 rfl ?_
    refine g_iload K 84 d1_84 rfl ?_
    refine g_bipush K 86 (24 : Int32) d1_86 (by decide) ?_
    refine g_iushr K 88 d1_88 ?_
    refine g_ixor K 89 d1_89 ?_
    refine g_istore K 90 #[.val (.ref ar), .val (.int (8 : Int32)), .val (.int (8 : Int32)), .val (.int (-1756908924 : Int32)), .val (.int (0 : Int32)), .val (.int ((((((b0 &&& (255 : Int32)) ||| ((b1 &&& (255 : Int32)) <<< ((8 : Int32) &&& 31))) ||| ((b2 &&& (255 : Int32)) <<< ((16 : Int32) &&& 31))) ||| ((b3 &&& (255 : Int32)) <<< ((24 : Int32) &&& 31))) * (1540483477 : Int32)) ^^^ (XT.ushr (((((b0 &&& (255 : Int32)) ||| ((b1 &&& (255 : Int32)) <<< ((8 : Int32) &&& 31))) ||| ((b2 &&& (255 : Int32)) <<< ((16 : Int32) &&& 31))) ||| ((b3 &&& (255 : Int32)) <<< ((24 : Int32) &&& 31))) * (1540483477 : Int32)) (24 : Int32))))] d1_90 rfl ?_
    refine g_iload K 92 d1_92 rfl ?_
    refine g_ldc K 94 (v := (1540483477 : Int32)) d1_94 (tw hw 8 rfl) ?_
    refine g_imul K 96 d1_96 ?_
    refine g_istore K 97 #[.val (.ref ar), .val (.int (8 : Int32)), .val (.int (8 : Int32)), .val (.int (-1756908924 : Int32)), .val (.int (0 : Int32)), .val (.int (((((((b0 &&& (255 : Int32)) ||| ((b1 &&& (255 : Int32)) <<< ((8 : Int32) &&& 31))) ||| ((b2 &&& (255 : Int32)) <<< ((16 : Int32) &&& 31))) ||| ((b3 &&& (255 : Int32)) <<< ((24 : Int32) &&& 31))) * (1540483477 : Int32)) ^^^ (XT.ushr (((((b0 &&& (255 : Int32)) ||| ((b1 &&& (255 : Int32)) <<< ((8 : Int32) &&& 31))) ||| ((b2 &&& (255 : Int32)) <<< ((16 : Int32) &&& 31))) ||| ((b3 &&& (255 : Int32)) <<< ((24 : Int32) &&& 31))) * (1540483477 : Int32)) (24 : Int32))) * (1540483477 : Int32)))] d1_97 rfl ?_
    refine g_iloadN K 99 d1_99 rfl ?_
    refine g_ldc K 100 (v := (1540483477 : Int32)) d1_100 (tw hw 8 rfl) ?_
    refine g_imul K 102 d1_102 ?_
    rw [show ((-1756908924 : Int32) * (1540483477 : Int32)) = (-134673708 : Int32) from by decide]
    refine g_istoreN K 103 #[.val (.ref ar), .val (.int (8 : Int32)), .val (.int (8 : Int32)), .val (.int (-134673708 : Int32)), .val (.int (0 : Int32)), .val (.int (((((((b0 &&& (255 : Int32)) ||| ((b1 &&& (255 : Int32)) <<< ((8 : Int32) &&& 31))) ||| ((b2 &&& (255 : Int32)) <<< ((16 : Int32) &&& 31))) ||| ((b3 &&& (255 : Int32)) <<< ((24 : Int32) &&& 31))) * (1540483477 : Int32)) ^^^ (XT.ushr (((((b0 &&& (255 : Int32)) ||| ((b1 &&& (255 : Int32)) <<< ((8 : Int32) &&& 31))) ||| ((b2 &&& (255 : Int32)) <<< ((16 : Int32) &&& 31))) ||| ((b3 &&& (255 : Int32)) <<< ((24 : Int32) &&& 31))) * (1540483477 : Int32)) (24 : Int32))) * (1540483477 : Int32)))] d1_103 rfl ?_
    refine g_iloadN K 104 d1_104 rfl ?_
    refine g_iload K 105 d1_105 rfl ?_
    refine g_ixor K 107 d1_107 ?_
    refine g_istoreN K 108 #[.val (.ref ar), .val (.int (8 : Int32)), .val (.int (8 : Int32)), .val (.int ((-134673708 : Int32) ^^^ (((((((b0 &&& (255 : Int32)) ||| ((b1 &&& (255 : Int32)) <<< ((8 : Int32) &&& 31))) ||| ((b2 &&& (255 : Int32)) <<< ((16 : Int32) &&& 31))) ||| ((b3 &&& (255 : Int32)) <<< ((24 : Int32) &&& 31))) * (1540483477 : Int32)) ^^^ (XT.ushr (((((b0 &&& (255 : Int32)) ||| ((b1 &&& (255 : Int32)) <<< ((8 : Int32) &&& 31))) ||| ((b2 &&& (255 : Int32)) <<< ((16 : Int32) &&& 31))) ||| ((b3 &&& (255 : Int32)) <<< ((24 : Int32) &&& 31))) * (1540483477 : Int32)) (24 : Int32))) * (1540483477 : Int32)))), .val (.int (0 : Int32)), .val (.int (((((((b0 &&& (255 : Int32)) ||| ((b1 &&& (255 : Int32)) <<< ((8 : Int32) &&& 31))) ||| ((b2 &&& (255 : Int32)) <<< ((16 : Int32) &&& 31))) ||| ((b3 &&& (255 : Int32)) <<< ((24 : Int32) &&& 31))) * (1540483477 : Int32)) ^^^ (XT.ushr (((((b0 &&& (255 : Int32)) ||| ((b1 &&& (255 : Int32)) <<< ((8 : Int32) &&& 31))) ||| ((b2 &&& (255 : Int32)) <<< ((16 : Int32) &&& 31))) ||| ((b3 &&& (255 : Int32)) <<< ((24 : Int32) &&& 31))) * (1540483477 : Int32)) (24 : Int32))) * (1540483477 : Int32)))] d1_108 rfl ?_
    refine g_iinc K 109 (4 : Int32) #[.val (.ref ar), .val (.int (8 : Int32)), .val (.int (8 : Int32)), .val (.int ((-134673708 : Int32) ^^^ (((((((b0 &&& (255 : Int32)) ||| ((b1 &&& (255 : Int32)) <<< ((8 : Int32) &&& 31))) ||| ((b2 &&& (255 : Int32)) <<< ((16 : Int32) &&& 31))) ||| ((b3 &&& (255 : Int32)) <<< ((24 : Int32) &&& 31))) * (1540483477 : Int32)) ^^^ (XT.ushr (((((b0 &&& (255 : Int32)) ||| ((b1 &&& (255 : Int32)) <<< ((8 : Int32) &&& 31))) ||| ((b2 &&& (255 : Int32)) <<< ((16 : Int32) &&& 31))) ||| ((b3 &&& (255 : Int32)) <<< ((24 : Int32) &&& 31))) * (1540483477 : Int32)) (24 : Int32))) * (1540483477 : Int32)))), .val (.int ((0 : Int32) + (4 : Int32))), .val (.int (((((((b0 &&& (255 : Int32)) ||| ((b1 &&& (255 : Int32)) <<< ((8 : Int32) &&& 31))) ||| ((b2 &&& (255 : Int32)) <<< ((16 : Int32) &&& 31))) ||| ((b3 &&& (255 : Int32)) <<< ((24 : Int32) &&& 31))) * (1540483477 : Int32)) ^^^ (XT.ushr (((((b0 &&& (255 : Int32)) ||| ((b1 &&& (255 : Int32)) <<< ((8 : Int32) &&& 31))) ||| ((b2 &&& (255 : Int32)) <<< ((16 : Int32) &&& 31))) ||| ((b3 &&& (255 : Int32)) <<< ((24 : Int32) &&& 31))) * (1540483477 : Int32)) (24 : Int32))) * (1540483477 : Int32)))] d1_109 (by decide) rfl rfl ?_
    rw [show ((0 : Int32) + (4 : Int32)) = (4 : Int32) from by decide]
    refine g_goto K 112 17 d1_112 (by decide) (by decide) ?_
    refine g_iload K 17 d1_17 rfl ?_
    refine g_iloadN K 19 d1_19 rfl ?_
    refine g_ii_ge K 20 115 d1_20 (by decide) (by decide) ?_ ?_
    · intro c2
      exact absurd c2 (by decide)
    · intro c2
      refine g_aloadN K 23 d1_23 rfl rfl ?_
      refine g_iload K 24 d1_24 rfl ?_
      refine g_baload K 26 b4 d1_26 A0 (by decide) (by rw [show (4 : Int32).toNatClampNeg = 4 from by decide]; rfl) ?_
      refine g_sipush K 27 (255 : Int32) d1_27 (by decide) ?_
      refine g_iand K 30 d1_30 ?_
      refine g_aloadN K 31 d1_31 rfl rfl ?_
      refine g_iload K 32 d1_32 rfl ?_
      refine g_iconst K 34 (1 : Int32) d1_34 (by decide) ?_
      refine g_iadd K 35 d1_35 ?_
      rw [show ((4 : Int32) + (1 : Int32)) = (5 : Int32) from by decide]
      refine g_baload K 36 b5 d1_36 A0 (by decide) (by rw [show (5 : Int32).toNatClampNeg = 5 from by decide]; rfl) ?_
      refine g_sipush K 37 (255 : Int32) d1_37 (by decide) ?_
      refine g_iand K 40 d1_40 ?_
      refine g_bipush K 41 (8 : Int32) d1_41 (by decide) ?_
      refine g_ishl K 43 d1_43 ?_
      refine g_ior K 44 d1_44 ?_
      refine g_aloadN K 45 d1_45 rfl rfl ?_
      refine g_iload K 46 d1_46 rfl ?_
      refine g_iconst K 48 (2 : Int32) d1_48 (by decide) ?_
      refine g_iadd K 49 d1_49 ?_
      rw [show ((4 : Int32) + (2 : Int32)) = (6 : Int32) from by decide]
      refine g_baload K 50 b6 d1_50 A0 (by decide) (by rw [show (6 : Int32).toNatClampNeg = 6 from by decide]; rfl) ?_
      refine g_sipush K 51 (255 : Int32) d1_51 (by decide) ?_
      refine g_iand K 54 d1_54 ?_
      refine g_bipush K 55 (16 : Int32) d1_55 (by decide) ?_
      refine g_ishl K 57 d1_57 ?_
      refine g_ior K 58 d1_58 ?_
      refine g_aloadN K 59 d1_59 rfl rfl ?_
      refine g_iload K 60 d1_60 rfl ?_
      refine g_iconst K 62 (3 : Int32) d1_62 (by decide) ?_
      refine g_iadd K 63 d1_63 ?_
      rw [show ((4 : Int32) + (3 : Int32)) = (7 : Int32) from by decide]
      refine g_baload K 64 b7 d1_64 A0 (by decide) (by rw [show (7 : Int32).toNatClampNeg = 7 from by decide]; rfl) ?_
      refine g_sipush K 65 (255 : Int32) d1_65 (by decide) ?_
      refine g_iand K 68 d1_68 ?_
      refine g_bipush K 69 (24 : Int32) d1_69 (by decide) ?_
      refine g_ishl K 71 d1_71 ?_
      refine g_ior K 72 d1_72 ?_
      refine g_istore K 73 #[.val (.ref ar), .val (.int (8 : Int32)), .val (.int (8 : Int32)), .val (.int ((-134673708 : Int32) ^^^ (((((((b0 &&& (255 : Int32)) ||| ((b1 &&& (255 : Int32)) <<< ((8 : Int32) &&& 31))) ||| ((b2 &&& (255 : Int32)) <<< ((16 : Int32) &&& 31))) ||| ((b3 &&& (255 : Int32)) <<< ((24 : Int32) &&& 31))) * (1540483477 : Int32)) ^^^ (XT.ushr (((((b0 &&& (255 : Int32)) ||| ((b1 &&& (255 : Int32)) <<< ((8 : Int32) &&& 31))) ||| ((b2 &&& (255 : Int32)) <<< ((16 : Int32) &&& 31))) ||| ((b3 &&& (255 : Int32)) <<< ((24 : Int32) &&& 31))) * (1540483477 : Int32)) (24 : Int32))) * (1540483477 : Int32)))), .val (.int (4 : Int32)), .val (.int ((((b4 &&& (255 : Int32)) ||| ((b5 &&& (255 : Int32)) <<< ((8 : Int32) &&& 31))) ||| ((b6 &&& (255 : Int32)) <<< ((16 : Int32) &&& 31))) ||| ((b7 &&& (255 : Int32)) <<< ((24 : Int32) &&& 31))))] d1_73 rfl ?_
      refine g_iload K 75 d1_75 rfl ?_
      refine g_ldc K 77 (v := (1540483477 : Int32)) d1_77 (tw hw 8 rfl) ?_
      refine g_imul K 79 d1_79 ?_
      refine g_istore K 80 #[.val (.ref ar), .val (.int (8 : Int32)), .val (.int (8 : Int32)), .val (.int ((-134673708 : Int32) ^^^ (((((((b0 &&& (255 : Int32)) ||| ((b1 &&& (255 : Int32)) <<< ((8 : Int32) &&& 31))) ||| ((b2 &&& (255 : Int32)) <<< ((16 : Int32) &&& 31))) ||| ((b3 &&& (255 : Int32)) <<< ((24 : Int32) &&& 31))) * (1540483477 : Int32)) ^^^ (XT.ushr (((((b0 &&& (255 : Int32)) ||| ((b1 &&& (255 : Int32)) <<< ((8 : Int32) &&& 31))) ||| ((b2 &&& (255 : Int32)) <<< ((16 : Int32) &&& 31))) ||| ((b3 &&& (255 : Int32)) <<< ((24 : Int32) &&& 31))) * (1540483477 : Int32)) (24 : Int32))) * (1540483477 : Int32)))), .val (.int (4 : Int32)), .val (.int (((((b4 &&& (255 : Int32)) ||| ((b5 &&& (255 : Int32)) <<< ((8 : Int32) &&& 31))) ||| ((b6 &&& (255 : Int32)) <<< ((16 : Int32) &&& 31))) ||| ((b7 &&& (255 : Int32)) <<< ((24 : Int32) &&& 31))) * (1540483477 : Int32)))] d1_80 rfl ?_
      refine g_iload K 82 d1_82 rfl ?_
      refine g_iload K 84 d1_84 rfl ?_
      refine g_bipush K 86 (24 : Int32) d1_86 (by decide) ?_
      refine g_iushr K 88 d1_88 ?_
      refine g_ixor K 89 d1_89 ?_
      refine g_istore K 90 #[.val (.ref ar), .val (.int (8 : Int32)), .val (.int (8 : Int32)), .val (.int ((-134673708 : Int32) ^^^ (((((((b0 &&& (255 : Int32)) ||| ((b1 &&& (255 : Int32)) <<< ((8 : Int32) &&& 31))) ||| ((b2 &&& (255 : Int32)) <<< ((16 : Int32) &&& 31))) ||| ((b3 &&& (255 : Int32)) <<< ((24 : Int32) &&& 31))) * (1540483477 : Int32)) ^^^ (XT.ushr (((((b0 &&& (255 : Int32)) ||| ((b1 &&& (255 : Int32)) <<< ((8 : Int32) &&& 31))) ||| ((b2 &&& (255 : Int32)) <<< ((16 : Int32) &&& 31))) ||| ((b3 &&& (255 : Int32)) <<< ((24 : Int32) &&& 31))) * (1540483477 : Int32)) (24 : Int32))) * (1540483477 : Int32)))), .val (.int (4 : Int32)), .val (.int ((((((b4 &&& (255 : Int32)) ||| ((b5 &&& (255 : Int32)) <<< ((8 : Int32) &&& 31))) ||| ((b6 &&& (255 : Int32)) <<< ((16 : Int32) &&& 31))) ||| ((b7 &&& (255 : Int32)) <<< ((24 : Int32) &&& 31))) * (1540483477 : Int32)) ^^^ (XT.ushr (((((b4 &&& (255 : Int32)) ||| ((b5 &&& (255 : Int32)) <<< ((8 : Int32) &&& 31))) ||| ((b6 &&& (255 : Int32)) <<< ((16 : Int32) &&& 31))) ||| ((b7 &&& (255 : Int32)) <<< ((24 : Int32) &&& 31))) * (1540483477 : Int32)) (24 : Int32))))] d1_90 rfl ?_
      refine g_iload K 92 d1_92 rfl ?_
      refine g_ldc K 94 (v := (1540483477 : Int32)) d1_94 (tw hw 8 rfl) ?_
      refine g_imul K 96 d1_96 ?_
      refine g_istore K 97 #[.val (.ref ar), .val (.int (8 : Int32)), .val (.int (8 : Int32)), .val (.int ((-134673708 : Int32) ^^^ (((((((b0 &&& (255 : Int32)) ||| ((b1 &&& (255 : Int32)) <<< ((8 : Int32) &&& 31))) ||| ((b2 &&& (255 : Int32)) <<< ((16 : Int32) &&& 31))) ||| ((b3 &&& (255 : Int32)) <<< ((24 : Int32) &&& 31))) * (1540483477 : Int32)) ^^^ (XT.ushr (((((b0 &&& (255 : Int32)) ||| ((b1 &&& (255 : Int32)) <<< ((8 : Int32) &&& 31))) ||| ((b2 &&& (255 : Int32)) <<< ((16 : Int32) &&& 31))) ||| ((b3 &&& (255 : Int32)) <<< ((24 : Int32) &&& 31))) * (1540483477 : Int32)) (24 : Int32))) * (1540483477 : Int32)))), .val (.int (4 : Int32)), .val (.int (((((((b4 &&& (255 : Int32)) ||| ((b5 &&& (255 : Int32)) <<< ((8 : Int32) &&& 31))) ||| ((b6 &&& (255 : Int32)) <<< ((16 : Int32) &&& 31))) ||| ((b7 &&& (255 : Int32)) <<< ((24 : Int32) &&& 31))) * (1540483477 : Int32)) ^^^ (XT.ushr (((((b4 &&& (255 : Int32)) ||| ((b5 &&& (255 : Int32)) <<< ((8 : Int32) &&& 31))) ||| ((b6 &&& (255 : Int32)) <<< ((16 : Int32) &&& 31))) ||| ((b7 &&& (255 : Int32)) <<< ((24 : Int32) &&& 31))) * (1540483477 : Int32)) (24 : Int32))) * (1540483477 : Int32)))] d1_97 rfl ?_
      refine g_iloadN K 99 d1_99 rfl ?_
      refine g_ldc K 100 (v := (1540483477 : Int32)) d1_100 (tw hw 8 rfl) ?_
      refine g_imul K 102 d1_102 ?_
      refine g_istoreN K 103 #[.val (.ref ar), .val (.int (8 : Int32)), .val (.int (8 : Int32)), .val (.int (((-134673708 : Int32) ^^^ (((((((b0 &&& (255 : Int32)) ||| ((b1 &&& (255 : Int32)) <<< ((8 : Int32) &&& 31))) ||| ((b2 &&& (255 : Int32)) <<< ((16 : Int32) &&& 31))) ||| ((b3 &&& (255 : Int32)) <<< ((24 : Int32) &&& 31))) * (1540483477 : Int32)) ^^^ (XT.ushr (((((b0 &&& (255 : Int32)) ||| ((b1 &&& (255 : Int32)) <<< ((8 : Int32) &&& 31))) ||| ((b2 &&& (255 : Int32)) <<< ((16 : Int32) &&& 31))) ||| ((b3 &&& (255 : Int32)) <<< ((24 : Int32) &&& 31))) * (1540483477 : Int32)) (24 : Int32))) * (1540483477 : Int32))) * (1540483477 : Int32))), .val (.int (4 : Int32)), .val (.int (((((((b4 &&& (255 : Int32)) ||| ((b5 &&& (255 : Int32)) <<< ((8 : Int32) &&& 31))) ||| ((b6 &&& (255 : Int32)) <<< ((16 : Int32) &&& 31))) ||| ((b7 &&& (255 : Int32)) <<< ((24 : Int32) &&& 31))) * (1540483477 : Int32)) ^^^ (XT.ushr (((((b4 &&& (255 : Int32)) ||| ((b5 &&& (255 : Int32)) <<< ((8 : Int32) &&& 31))) ||| ((b6 &&& (255 : Int32)) <<< ((16 : Int32) &&& 31))) ||| ((b7 &&& (255 : Int32)) <<< ((24 : Int32) &&& 31))) * (1540483477 : Int32)) (24 : Int32))) * (1540483477 : Int32)))] d1_103 rfl ?_
      refine g_iloadN K 104 d1_104 rfl ?_
      refine g_iload K 105 d1_105 rfl ?_
      refine g_ixor K 107 d1_107 ?_
      refine g_istoreN K 108 #[.val (.ref ar), .val (.int (8 : Int32)), .val (.int (8 : Int32)), .val (.int ((((-134673708 : Int32) ^^^ (((((((b0 &&& (255 : Int32)) ||| ((b1 &&& (255 : Int32)) <<< ((8 : Int32) &&& 31))) ||| ((b2 &&& (255 : Int32)) <<< ((16 : Int32) &&& 31))) ||| ((b3 &&& (255 : Int32)) <<< ((24 : Int32) &&& 31))) * (1540483477 : Int32)) ^^^ (XT.ushr (((((b0 &&& (255 : Int32)) ||| ((b1 &&& (255 : Int32)) <<< ((8 : Int32) &&& 31))) ||| ((b2 &&& (255 : Int32)) <<< ((16 : Int32) &&& 31))) ||| ((b3 &&& (255 : Int32)) <<< ((24 : Int32) &&& 31))) * (1540483477 : Int32)) (24 : Int32))) * (1540483477 : Int32))) * (1540483477 : Int32)) ^^^ (((((((b4 &&& (255 : Int32)) ||| ((b5 &&& (255 : Int32)) <<< ((8 : Int32) &&& 31))) ||| ((b6 &&& (255 : Int32)) <<< ((16 : Int32) &&& 31))) ||| ((b7 &&& (255 : Int32)) <<< ((24 : Int32) &&& 31))) * (1540483477 : Int32)) ^^^ (XT.ushr (((((b4 &&& (255 : Int32)) ||| ((b5 &&& (255 : Int32)) <<< ((8 : Int32) &&& 31))) ||| ((b6 &&& (255 : Int32)) <<< ((16 : Int32) &&& 31))) ||| ((b7 &&& (255 : Int32)) <<< ((24 : Int32) &&& 31))) * (1540483477 : Int32)) (24 : Int32))) * (1540483477 : Int32)))), .val (.int (4 : Int32)), .val (.int (((((((b4 &&& (255 : Int32)) ||| ((b5 &&& (255 : Int32)) <<< ((8 : Int32) &&& 31))) ||| ((b6 &&& (255 : Int32)) <<< ((16 : Int32) &&& 31))) ||| ((b7 &&& (255 : Int32)) <<< ((24 : Int32) &&& 31))) * (1540483477 : Int32)) ^^^ (XT.ushr (((((b4 &&& (255 : Int32)) ||| ((b5 &&& (255 : Int32)) <<< ((8 : Int32) &&& 31))) ||| ((b6 &&& (255 : Int32)) <<< ((16 : Int32) &&& 31))) ||| ((b7 &&& (255 : Int32)) <<< ((24 : Int32) &&& 31))) * (1540483477 : Int32)) (24 : Int32))) * (1540483477 : Int32)))] d1_108 rfl ?_
      refine g_iinc K 109 (4 : Int32) #[.val (.ref ar), .val (.int (8 : Int32)), .val (.int (8 : Int32)), .val (.int ((((-134673708 : Int32) ^^^ (((((((b0 &&& (255 : Int32)) ||| ((b1 &&& (255 : Int32)) <<< ((8 : Int32) &&& 31))) ||| ((b2 &&& (255 : Int32)) <<< ((16 : Int32) &&& 31))) ||| ((b3 &&& (255 : Int32)) <<< ((24 : Int32) &&& 31))) * (1540483477 : Int32)) ^^^ (XT.ushr (((((b0 &&& (255 : Int32)) ||| ((b1 &&& (255 : Int32)) <<< ((8 : Int32) &&& 31))) ||| ((b2 &&& (255 : Int32)) <<< ((16 : Int32) &&& 31))) ||| ((b3 &&& (255 : Int32)) <<< ((24 : Int32) &&& 31))) * (1540483477 : Int32)) (24 : Int32))) * (1540483477 : Int32))) * (1540483477 : Int32)) ^^^ (((((((b4 &&& (255 : Int32)) ||| ((b5 &&& (255 : Int32)) <<< ((8 : Int32) &&& 31))) ||| ((b6 &&& (255 : Int32)) <<< ((16 : Int32) &&& 31))) ||| ((b7 &&& (255 : Int32)) <<< ((24 : Int32) &&& 31))) * (1540483477 : Int32)) ^^^ (XT.ushr (((((b4 &&& (255 : Int32)) ||| ((b5 &&& (255 : Int32)) <<< ((8 : Int32) &&& 31))) ||| ((b6 &&& (255 : Int32)) <<< ((16 : Int32) &&& 31))) ||| ((b7 &&& (255 : Int32)) <<< ((24 : Int32) &&& 31))) * (1540483477 : Int32)) (24 : Int32))) * (1540483477 : Int32)))), .val (.int ((4 : Int32) + (4 : Int32))), .val (.int (((((((b4 &&& (255 : Int32)) ||| ((b5 &&& (255 : Int32)) <<< ((8 : Int32) &&& 31))) ||| ((b6 &&& (255 : Int32)) <<< ((16 : Int32) &&& 31))) ||| ((b7 &&& (255 : Int32)) <<< ((24 : Int32) &&& 31))) * (1540483477 : Int32)) ^^^ (XT.ushr (((((b4 &&& (255 : Int32)) ||| ((b5 &&& (255 : Int32)) <<< ((8 : Int32) &&& 31))) ||| ((b6 &&& (255 : Int32)) <<< ((16 : Int32) &&& 31))) ||| ((b7 &&& (255 : Int32)) <<< ((24 : Int32) &&& 31))) * (1540483477 : Int32)) (24 : Int32))) * (1540483477 : Int32)))] d1_109 (by decide) rfl rfl ?_
      rw [show ((4 : Int32) + (4 : Int32)) = (8 : Int32) from by decide]
      refine g_goto K 112 17 d1_112 (by decide) (by decide) ?_
      refine g_iload K 17 d1_17 rfl ?_
      refine g_iloadN K 19 d1_19 rfl ?_
      refine g_ii_ge K 20 115 d1_20 (by decide) (by decide) ?_ ?_
      · intro c3
        refine g_iloadN K 115 d1_115 rfl ?_
        refine g_iloadN K 116 d1_116 rfl ?_
        refine g_isub K 117 d1_117 ?_
        rw [show ((8 : Int32) - (8 : Int32)) = (0 : Int32) from by decide]
        refine g_istore K 118 #[.val (.ref ar), .val (.int (8 : Int32)), .val (.int (8 : Int32)), .val (.int ((((-134673708 : Int32) ^^^ (((((((b0 &&& (255 : Int32)) ||| ((b1 &&& (255 : Int32)) <<< ((8 : Int32) &&& 31))) ||| ((b2 &&& (255 : Int32)) <<< ((16 : Int32) &&& 31))) ||| ((b3 &&& (255 : Int32)) <<< ((24 : Int32) &&& 31))) * (1540483477 : Int32)) ^^^ (XT.ushr (((((b0 &&& (255 : Int32)) ||| ((b1 &&& (255 : Int32)) <<< ((8 : Int32) &&& 31))) ||| ((b2 &&& (255 : Int32)) <<< ((16 : Int32) &&& 31))) ||| ((b3 &&& (255 : Int32)) <<< ((24 : Int32) &&& 31))) * (1540483477 : Int32)) (24 : Int32))) * (1540483477 : Int32))) * (1540483477 : Int32)) ^^^ (((((((b4 &&& (255 : Int32)) ||| ((b5 &&& (255 : Int32)) <<< ((8 : Int32) &&& 31))) ||| ((b6 &&& (255 : Int32)) <<< ((16 : Int32) &&& 31))) ||| ((b7 &&& (255 : Int32)) <<< ((24 : Int32) &&& 31))) * (1540483477 : Int32)) ^^^ (XT.ushr (((((b4 &&& (255 : Int32)) ||| ((b5 &&& (255 : Int32)) <<< ((8 : Int32) &&& 31))) ||| ((b6 &&& (255 : Int32)) <<< ((16 : Int32) &&& 31))) ||| ((b7 &&& (255 : Int32)) <<< ((24 : Int32) &&& 31))) * (1540483477 : Int32)) (24 : Int32))) * (1540483477 : Int32)))), .val (.int (0 : Int32)), .val (.int (((((((b4 &&& (255 : Int32)) ||| ((b5 &&& (255 : Int32)) <<< ((8 : Int32) &&& 31))) ||| ((b6 &&& (255 : Int32)) <<< ((16 : Int32) &&& 31))) ||| ((b7 &&& (255 : Int32)) <<< ((24 : Int32) &&& 31))) * (1540483477 : Int32)) ^^^ (XT.ushr (((((b4 &&& (255 : Int32)) ||| ((b5 &&& (255 : Int32)) <<< ((8 : Int32) &&& 31))) ||| ((b6 &&& (255 : Int32)) <<< ((16 : Int32) &&& 31))) ||| ((b7 &&& (255 : Int32)) <<< ((24 : Int32) &&& 31))) * (1540483477 : Int32)) (24 : Int32))) * (1540483477 : Int32)))] d1_118 rfl ?_
        refine g_iload K 120 d1_120 rfl ?_
        refine g_iconst K 122 (3 : Int32) d1_122 (by decide) ?_
        refine g_ii_ne K 123 141 d1_123 (by decide) (by decide) ?_ ?_
        · intro c4
          refine g_iload K 141 d1_141 rfl ?_
          refine g_iconst K 143 (2 : Int32) d1_143 (by decide) ?_
          refine g_ii_lt K 144 162 d1_144 (by decide) (by decide) ?_ ?_
          · intro c5
            refine g_iload K 162 d1_162 rfl ?_
            refine g_iconst K 164 (1 : Int32) d1_164 (by decide) ?_
            refine g_ii_lt K 165 183 d1_165 (by decide) (by decide) ?_ ?_
            · intro c6
              refine g_iloadN K 183 d1_183 rfl ?_
              refine g_iloadN K 184 d1_184 rfl ?_
              refine g_bipush K 185 (13 : Int32) d1_185 (by decide) ?_
              refine g_iushr K 187 d1_187 ?_
              refine g_ixor K 188 d1_188 ?_
              refine g_istoreN K 189 #[.val (.ref ar), .val (.int (8 : Int32)), .val (.int (8 : Int32)), .val (.int (((((-134673708 : Int32) ^^^ (((((((b0 &&& (255 : Int32)) ||| ((b1 &&& (255 : Int32)) <<< ((8 : Int32) &&& 31))) ||| ((b2 &&& (255 : Int32)) <<< ((16 : Int32) &&& 31))) ||| ((b3 &&& (255 : Int32)) <<< ((24 : Int32) &&& 31))) * (1540483477 : Int32)) ^^^ (XT.ushr (((((b0 &&& (255 : Int32)) ||| ((b1 &&& (255 : Int32)) <<< ((8 : Int32) &&& 31))) ||| ((b2 &&& (255 : Int32)) <<< ((16 : Int32) &&& 31))) ||| ((b3 &&& (255 : Int32)) <<< ((24 : Int32) &&& 31))) * (1540483477 : Int32)) (24 : Int32))) * (1540483477 : Int32))) * (1540483477 : Int32)) ^^^ (((((((b4 &&& (255 : Int32)) ||| ((b5 &&& (255 : Int32)) <<< ((8 : Int32) &&& 31))) ||| ((b6 &&& (255 : Int32)) <<< ((16 : Int32) &&& 31))) ||| ((b7 &&& (255 : Int32)) <<< ((24 : Int32) &&& 31))) * (1540483477 : Int32)) ^^^ (XT.ushr (((((b4 &&& (255 : Int32)) ||| ((b5 &&& (255 : Int32)) <<< ((8 : Int32) &&& 31))) ||| ((b6 &&& (255 : Int32)) <<< ((16 : Int32) &&& 31))) ||| ((b7 &&& (255 : Int32)) <<< ((24 : Int32) &&& 31))) * (1540483477 : Int32)) (24 : Int32))) * (1540483477 : Int32))) ^^^ (XT.ushr ((((-134673708 : Int32) ^^^ (((((((b0 &&& (255 : Int32)) ||| ((b1 &&& (255 : Int32)) <<< ((8 : Int32) &&& 31))) ||| ((b2 &&& (255 : Int32)) <<< ((16 : Int32) &&& 31))) ||| ((b3 &&& (255 : Int32)) <<< ((24 : Int32) &&& 31))) * (1540483477 : Int32)) ^^^ (XT.ushr (((((b0 &&& (255 : Int32)) ||| ((b1 &&& (255 : Int32)) <<< ((8 : Int32) &&& 31))) ||| ((b2 &&& (255 : Int32)) <<< ((16 : Int32) &&& 31))) ||| ((b3 &&& (255 : Int32)) <<< ((24 : Int32) &&& 31))) * (1540483477 : Int32)) (24 : Int32))) * (1540483477 : Int32))) * (1540483477 : Int32)) ^^^ (((((((b4 &&& (255 : Int32)) ||| ((b5 &&& (255 : Int32)) <<< ((8 : Int32) &&& 31))) ||| ((b6 &&& (255 : Int32)) <<< ((16 : Int32) &&& 31))) ||| ((b7 &&& (255 : Int32)) <<< ((24 : Int32) &&& 31))) * (1540483477 : Int32)) ^^^ (XT.ushr (((((b4 &&& (255 : Int32)) ||| ((b5 &&& (255 : Int32)) <<< ((8 : Int32) &&& 31))) ||| ((b6 &&& (255 : Int32)) <<< ((16 : Int32) &&& 31))) ||| ((b7 &&& (255 : Int32)) <<< ((24 : Int32) &&& 31))) * (1540483477 : Int32)) (24 : Int32))) * (1540483477 : Int32))) (13 : Int32)))), .val (.int (0 : Int32)), .val (.int (((((((b4 &&& (255 : Int32)) ||| ((b5 &&& (255 : Int32)) <<< ((8 : Int32) &&& 31))) ||| ((b6 &&& (255 : Int32)) <<< ((16 : Int32) &&& 31))) ||| ((b7 &&& (255 : Int32)) <<< ((24 : Int32) &&& 31))) * (1540483477 : Int32)) ^^^ (XT.ushr (((((b4 &&& (255 : Int32)) ||| ((b5 &&& (255 : Int32)) <<< ((8 : Int32) &&& 31))) ||| ((b6 &&& (255 : Int32)) <<< ((16 : Int32) &&& 31))) ||| ((b7 &&& (255 : Int32)) <<< ((24 : Int32) &&& 31))) * (1540483477 : Int32)) (24 : Int32))) * (1540483477 : Int32)))] d1_189 rfl ?_
              refine g_iloadN K 190 d1_190 rfl ?_
              refine g_ldc K 191 (v := (1540483477 : Int32)) d1_191 (tw hw 8 rfl) ?_
              refine g_imul K 193 d1_193 ?_
              refine g_istoreN K 194 #[.val (.ref ar), .val (.int (8 : Int32)), .val (.int (8 : Int32)), .val (.int ((((((-134673708 : Int32) ^^^ (((((((b0 &&& (255 : Int32)) ||| ((b1 &&& (255 : Int32)) <<< ((8 : Int32) &&& 31))) ||| ((b2 &&& (255 : Int32)) <<< ((16 : Int32) &&& 31))) ||| ((b3 &&& (255 : Int32)) <<< ((24 : Int32) &&& 31))) * (1540483477 : Int32)) ^^^ (XT.ushr (((((b0 &&& (255 : Int32)) ||| ((b1 &&& (255 : Int32)) <<< ((8 : Int32) &&& 31))) ||| ((b2 &&& (255 : Int32)) <<< ((16 : Int32) &&& 31))) ||| ((b3 &&& (255 : Int32)) <<< ((24 : Int32) &&& 31))) * (1540483477 : Int32)) (24 : Int32))) * (1540483477 : Int32))) * (1540483477 : Int32)) ^^^ (((((((b4 &&& (255 : Int32)) ||| ((b5 &&& (255 : Int32)) <<< ((8 : Int32) &&& 31))) ||| ((b6 &&& (255 : Int32)) <<< ((16 : Int32) &&& 31))) ||| ((b7 &&& (255 : Int32)) <<< ((24 : Int32) &&& 31))) * (1540483477 : Int32)) ^^^ (XT.ushr (((((b4 &&& (255 : Int32)) ||| ((b5 &&& (255 : Int32)) <<< ((8 : Int32) &&& 31))) ||| ((b6 &&& (255 : Int32)) <<< ((16 : Int32) &&& 31))) ||| ((b7 &&& (255 : Int32)) <<< ((24 : Int32) &&& 31))) * (1540483477 : Int32)) (24 : Int32))) * (1540483477 : Int32))) ^^^ (XT.ushr ((((-134673708 : Int32) ^^^ (((((((b0 &&& (255 : Int32)) ||| ((b1 &&& (255 : Int32)) <<< ((8 : Int32) &&& 31))) ||| ((b2 &&& (255 : Int32)) <<< ((16 : Int32) &&& 31))) ||| ((b3 &&& (255 : Int32)) <<< ((24 : Int32) &&& 31))) * (1540483477 : Int32)) ^^^ (XT.ushr (((((b0 &&& (255 : Int32)) ||| ((b1 &&& (255 : Int32)) <<< ((8 : Int32) &&& 31))) ||| ((b2 &&& (255 : Int32)) <<< ((16 : Int32) &&& 31))) ||| ((b3 &&& (255 : Int32)) <<< ((24 : Int32) &&& 31))) * (1540483477 : Int32)) (24 : Int32))) * (1540483477 : Int32))) * (1540483477 : Int32)) ^^^ (((((((b4 &&& (255 : Int32)) ||| ((b5 &&& (255 : Int32)) <<< ((8 : Int32) &&& 31))) ||| ((b6 &&& (255 : Int32)) <<< ((16 : Int32) &&& 31))) ||| ((b7 &&& (255 : Int32)) <<< ((24 : Int32) &&& 31))) * (1540483477 : Int32)) ^^^ (XT.ushr (((((b4 &&& (255 : Int32)) ||| ((b5 &&& (255 : Int32)) <<< ((8 : Int32) &&& 31))) ||| ((b6 &&& (255 : Int32)) <<< ((16 : Int32) &&& 31))) ||| ((b7 &&& (255 : Int32)) <<< ((24 : Int32) &&& 31))) * (1540483477 : Int32)) (24 : Int32))) * (1540483477 : Int32))) (13 : Int32))) * (1540483477 : Int32))), .val (.int (0 : Int32)), .val (.int (((((((b4 &&& (255 : Int32)) ||| ((b5 &&& (255 : Int32)) <<< ((8 : Int32) &&& 31))) ||| ((b6 &&& (255 : Int32)) <<< ((16 : Int32) &&& 31))) ||| ((b7 &&& (255 : Int32)) <<< ((24 : Int32) &&& 31))) * (1540483477 : Int32)) ^^^ (XT.ushr (((((b4 &&& (255 : Int32)) ||| ((b5 &&& (255 : Int32)) <<< ((8 : Int32) &&& 31))) ||| ((b6 &&& (255 : Int32)) <<< ((16 : Int32) &&& 31))) ||| ((b7 &&& (255 : Int32)) <<< ((24 : Int32) &&& 31))) * (1540483477 : Int32)) (24 : Int32))) * (1540483477 : Int32)))] d1_194 rfl ?_
              refine g_iloadN K 195 d1_195 rfl ?_
              refine g_iloadN K 196 d1_196 rfl ?_
              refine g_bipush K 197 (15 : Int32) d1_197 (by decide) ?_
              refine g_iushr K 199 d1_199 ?_
              refine g_ixor K 200 d1_200 ?_
              refine g_istoreN K 201 #[.val (.ref ar), .val (.int (8 : Int32)), .val (.int (8 : Int32)), .val (.int (((((((-134673708 : Int32) ^^^ (((((((b0 &&& (255 : Int32)) ||| ((b1 &&& (255 : Int32)) <<< ((8 : Int32) &&& 31))) ||| ((b2 &&& (255 : Int32)) <<< ((16 : Int32) &&& 31))) ||| ((b3 &&& (255 : Int32)) <<< ((24 : Int32) &&& 31))) * (1540483477 : Int32)) ^^^ (XT.ushr (((((b0 &&& (255 : Int32)) ||| ((b1 &&& (255 : Int32)) <<< ((8 : Int32) &&& 31))) ||| ((b2 &&& (255 : Int32)) <<< ((16 : Int32) &&& 31))) ||| ((b3 &&& (255 : Int32)) <<< ((24 : Int32) &&& 31))) * (1540483477 : Int32)) (24 : Int32))) * (1540483477 : Int32))) * (1540483477 : Int32)) ^^^ (((((((b4 &&& (255 : Int32)) ||| ((b5 &&& (255 : Int32)) <<< ((8 : Int32) &&& 31))) ||| ((b6 &&& (255 : Int32)) <<< ((16 : Int32) &&& 31))) ||| ((b7 &&& (255 : Int32)) <<< ((24 : Int32) &&& 31))) * (1540483477 : Int32)) ^^^ (XT.ushr (((((b4 &&& (255 : Int32)) ||| ((b5 &&& (255 : Int32)) <<< ((8 : Int32) &&& 31))) ||| ((b6 &&& (255 : Int32)) <<< ((16 : Int32) &&& 31))) ||| ((b7 &&& (255 : Int32)) <<< ((24 : Int32) &&& 31))) * (1540483477 : Int32)) (24 : Int32))) * (1540483477 : Int32))) ^^^ (XT.ushr ((((-134673708 : Int32) ^^^ (((((((b0 &&& (255 : Int32)) ||| ((b1 &&& (255 : Int32)) <<< ((8 : Int32) &&& 31))) ||| ((b2 &&& (255 : Int32)) <<< ((16 : Int32) &&& 31))) ||| ((b3 &&& (255 : Int32)) <<< ((24 : Int32) &&& 31))) * (1540483477 : Int32)) ^^^ (XT.ushr (((((b0 &&& (255 : Int32)) ||| ((b1 &&& (255 : Int32)) <<< ((8 : Int32) &&& 31))) ||| ((b2 &&& (255 : Int32)) <<< ((16 : Int32) &&& 31))) ||| ((b3 &&& (255 : Int32)) <<< ((24 : Int32) &&& 31))) * (1540483477 : Int32)) (24 : Int32))) * (1540483477 : Int32))) * (1540483477 : Int32)) ^^^ (((((((b4 &&& (255 : Int32)) ||| ((b5 &&& (255 : Int32)) <<< ((8 : Int32) &&& 31))) ||| ((b6 &&& (255 : Int32)) <<< ((16 : Int32) &&& 31))) ||| ((b7 &&& (255 : Int32)) <<< ((24 : Int32) &&& 31))) * (1540483477 : Int32)) ^^^ (XT.ushr (((((b4 &&& (255 : Int32)) ||| ((b5 &&& (255 : Int32)) <<< ((8 : Int32) &&& 31))) ||| ((b6 &&& (255 : Int32)) <<< ((16 : Int32) &&& 31))) ||| ((b7 &&& (255 : Int32)) <<< ((24 : Int32) &&& 31))) * (1540483477 : Int32)) (24 : Int32))) * (1540483477 : Int32))) (13 : Int32))) * (1540483477 : Int32)) ^^^ (XT.ushr ((((((-134673708 : Int32) ^^^ (((((((b0 &&& (255 : Int32)) ||| ((b1 &&& (255 : Int32)) <<< ((8 : Int32) &&& 31))) ||| ((b2 &&& (255 : Int32)) <<< ((16 : Int32) &&& 31))) ||| ((b3 &&& (255 : Int32)) <<< ((24 : Int32) &&& 31))) * (1540483477 : Int32)) ^^^ (XT.ushr (((((b0 &&& (255 : Int32)) ||| ((b1 &&& (255 : Int32)) <<< ((8 : Int32) &&& 31))) ||| ((b2 &&& (255 : Int32)) <<< ((16 : Int32) &&& 31))) ||| ((b3 &&& (255 : Int32)) <<< ((24 : Int32) &&& 31))) * (1540483477 : Int32)) (24 : Int32))) * (1540483477 : Int32))) * (1540483477 : Int32)) ^^^ (((((((b4 &&& (255 : Int32)) ||| ((b5 &&& (255 : Int32)) <<< ((8 : Int32) &&& 31))) ||| ((b6 &&& (255 : Int32)) <<< ((16 : Int32) &&& 31))) ||| ((b7 &&& (255 : Int32)) <<< ((24 : Int32) &&& 31))) * (1540483477 : Int32)) ^^^ (XT.ushr (((((b4 &&& (255 : Int32)) ||| ((b5 &&& (255 : Int32)) <<< ((8 : Int32) &&& 31))) ||| ((b6 &&& (255 : Int32)) <<< ((16 : Int32) &&& 31))) ||| ((b7 &&& (255 : Int32)) <<< ((24 : Int32) &&& 31))) * (1540483477 : Int32)) (24 : Int32))) * (1540483477 : Int32))) ^^^ (XT.ushr ((((-134673708 : Int32) ^^^ (((((((b0 &&& (255 : Int32)) ||| ((b1 &&& (255 : Int32)) <<< ((8 : Int32) &&& 31))) ||| ((b2 &&& (255 : Int32)) <<< ((16 : Int32) &&& 31))) ||| ((b3 &&& (255 : Int32)) <<< ((24 : Int32) &&& 31))) * (1540483477 : Int32)) ^^^ (XT.ushr (((((b0 &&& (255 : Int32)) ||| ((b1 &&& (255 : Int32)) <<< ((8 : Int32) &&& 31))) ||| ((b2 &&& (255 : Int32)) <<< ((16 : Int32) &&& 31))) ||| ((b3 &&& (255 : Int32)) <<< ((24 : Int32) &&& 31))) * (1540483477 : Int32)) (24 : Int32))) * (1540483477 : Int32))) * (1540483477 : Int32)) ^^^ (((((((b4 &&& (255 : Int32)) ||| ((b5 &&& (255 : Int32)) <<< ((8 : Int32) &&& 31))) ||| ((b6 &&& (255 : Int32)) <<< ((16 : Int32) &&& 31))) ||| ((b7 &&& (255 : Int32)) <<< ((24 : Int32) &&& 31))) * (1540483477 : Int32)) ^^^ (XT.ushr (((((b4 &&& (255 : Int32)) ||| ((b5 &&& (255 : Int32)) <<< ((8 : Int32) &&& 31))) ||| ((b6 &&& (255 : Int32)) <<< ((16 : Int32) &&& 31))) ||| ((b7 &&& (255 : Int32)) <<< ((24 : Int32) &&& 31))) * (1540483477 : Int32)) (24 : Int32))) * (1540483477 : Int32))) (13 : Int32))) * (1540483477 : Int32)) (15 : Int32)))), .val (.int (0 : Int32)), .val (.int (((((((b4 &&& (255 : Int32)) ||| ((b5 &&& (255 : Int32)) <<< ((8 : Int32) &&& 31))) ||| ((b6 &&& (255 : Int32)) <<< ((16 : Int32) &&& 31))) ||| ((b7 &&& (255 : Int32)) <<< ((24 : Int32) &&& 31))) * (1540483477 : Int32)) ^^^ (XT.ushr (((((b4 &&& (255 : Int32)) ||| ((b5 &&& (255 : Int32)) <<< ((8 : Int32) &&& 31))) ||| ((b6 &&& (255 : Int32)) <<< ((16 : Int32) &&& 31))) ||| ((b7 &&& (255 : Int32)) <<< ((24 : Int32) &&& 31))) * (1540483477 : Int32)) (24 : Int32))) * (1540483477 : Int32)))] d1_201 rfl ?_
              refine g_iloadN K 202 d1_202 rfl ?_
              refine g_ireturn K 203 d1_203 rfl (by decide) (by decide) ?_
              rw [hQ]
              refine ⟨?_, rfl⟩
              show some (Value.int _) = some (Value.int (f_mur8 b0 b1 b2 b3 b4 b5 b6 b7))
              unfold f_mur8
              rfl
            · intro c6
              exact absurd c6 (by decide)
          · intro c5
            exact absurd c5 (by decide)
        · intro c4
          exact absurd c4 (by decide)
      · intro c3
        exact absurd c3 (by decide)
def f_mur9 (b0 : Int32) (b1 : Int32) (b2 : Int32) (b3 : Int32) (b4 : Int32) (b5 : Int32) (b6 : Int32) (b7 : Int32) (b8 : Int32) : Int32 := (((((((((1405809769 : Int32) ^^^ (((((((b0 &&& (255 : Int32)) ||| ((b1 &&& (255 : Int32)) <<< ((8 : Int32) &&& 31))) ||| ((b2 &&& (255 : Int32)) <<< ((16 : Int32) &&& 31))) ||| ((b3 &&& (255 : Int32)) <<< ((24 : Int32) &&& 31))) * (1540483477 : Int32)) ^^^ (XT.ushr (((((b0 &&& (255 : Int32)) ||| ((b1 &&& (255 : Int32)) <<< ((8 : Int32) &&& 31))) ||| ((b2 &&& (255 : Int32)) <<< ((16 : Int32) &&& 31))) ||| ((b3 &&& (255 : Int32)) <<< ((24 : Int32) &&& 31))) * (1540483477 : Int32)) (24 : Int32))) * (1540483477 : Int32))) * (1540483477 : Int32)) ^^^ (((((((b4 &&& (255 : Int32)) ||| ((b5 &&& (255 : Int32)) <<< ((8 : Int32) &&& 31))) ||| ((b6 &&& (255 : Int32)) <<< ((16 : Int32) &&& 31))) ||| ((b7 &&& (255 : Int32)) <<< ((24 : Int32) &&& 31))) * (1540483477 : Int32)) ^^^ (XT.ushr (((((b4 &&& (255 : Int32)) ||| ((b5 &&& (255 : Int32)) <<< ((8 : Int32) &&& 31))) ||| ((b6 &&& (255 : Int32)) <<< ((16 : Int32) &&& 31))) ||| ((b7 &&& (255 : Int32)) <<< ((24 : Int32) &&& 31))) * (1540483477 : Int32)) (24 : Int32))) * (1540483477 : Int32))) ^^^ (b8 &&& (255 : Int32))) * (1540483477 : Int32)) ^^^ (XT.ushr ((((((1405809769 : Int32) ^^^ (((((((b0 &&& (255 : Int32)) ||| ((b1 &&& (255 : Int32)) <<< ((8 : Int32) &&& 31))) ||| ((b2 &&& (255 : Int32)) <<< ((16 : Int32) &&& 31))) ||| ((b3 &&& (255 : Int32)) <<< ((24 : Int32) &&& 31))) * (1540483477 : Int32)) ^^^ (XT.ushr (((((b0 &&& (255 : Int32)) ||| ((b1 &&& (255 : Int32)) <<< ((8 : Int32) &&& 31))) ||| ((b2 &&& (255 : Int32)) <<< ((16 : Int32) &&& 31))) ||| ((b3 &&& (255 : Int32)) <<< ((24 : Int32) &&& 31))) * (1540483477 : Int32)) (24 : Int32))) * (1540483477 : Int32))) * (1540483477 : Int32)) ^^^ (((((((b4 &&& (255 : Int32)) ||| ((b5 &&& (255 : Int32)) <<< ((8 : Int32) &&& 31))) ||| ((b6 &&& (255 : Int32)) <<< ((16 : Int32) &&& 31))) ||| ((b7 &&& (255 : Int32)) <<< ((24 : Int32) &&& 31))) * (1540483477 : Int32)) ^^^ (XT.ushr (((((b4 &&& (255 : Int32)) ||| ((b5 &&& (255 : Int32)) <<< ((8 : Int32) &&& 31))) ||| ((b6 &&& (255 : Int32)) <<< ((16 : Int32) &&& 31))) ||| ((b7 &&& (255 : Int32)) <<< ((24 : Int32) &&& 31))) * (1540483477 : Int32)) (24 : Int32))) * (1540483477 : Int32))) ^^^ (b8 &&& (255 : Int32))) * (1540483477 : Int32)) (13 : Int32))) * (1540483477 : Int32)) ^^^ (XT.ushr ((((((((1405809769 : Int32) ^^^ (((((((b0 &&& (255 : Int32)) ||| ((b1 &&& (255 : Int32)) <<< ((8 : Int32) &&& 31))) ||| ((b2 &&& (255 : Int32)) <<< ((16 : Int32) &&& 31))) ||| ((b3 &&& (255 : Int32)) <<< ((24 : Int32) &&& 31))) * (1540483477 : Int32)) ^^^ (XT.ushr (((((b0 &&& (255 : Int32)) ||| ((b1 &&& (255 : Int32)) <<< ((8 : Int32) &&& 31))) ||| ((b2 &&& (255 : Int32)) <<< ((16 : Int32) &&& 31))) ||| ((b3 &&& (255 : Int32)) <<< ((24 : Int32) &&& 31))) * (1540483477 : Int32)) (24 : Int32))) * (1540483477 : Int32))) * (1540483477 : Int32)) ^^^ (((((((b4 &&& (255 : Int32)) ||| ((b5 &&& (255 : Int32)) <<< ((8 : Int32) &&& 31))) ||| ((b6 &&& (255 : Int32)) <<< ((16 : Int32) &&& 31))) ||| ((b7 &&& (255 : Int32)) <<< ((24 : Int32) &&& 31))) * (1540483477 : Int32)) ^^^ (XT.ushr (((((b4 &&& (255 : Int32)) ||| ((b5 &&& (255 : Int32)) <<< ((8 : Int32) &&& 31))) ||| ((b6 &&& (255 : Int32)) <<< ((16 : Int32) &&& 31))) ||| ((b7 &&& (255 : Int32)) <<< ((24 : Int32) &&& 31))) * (1540483477 : Int32)) (24 : Int32))) * (1540483477 : Int32))) ^^^ (b8 &&& (255 : Int32))) * (1540483477 : Int32)) ^^^ (XT.ushr ((((((1405809769 : Int32) ^^^ (((((((b0 &&& (255 : Int32)) ||| ((b1 &&& (255 : Int32)) <<< ((8 : Int32) &&& 31))) ||| ((b2 &&& (255 : Int32)) <<< ((16 : Int32) &&& 31))) ||| ((b3 &&& (255 : Int32)) <<< ((24 : Int32) &&& 31))) * (1540483477 : Int32)) ^^^ (XT.ushr (((((b0 &&& (255 : Int32)) ||| ((b1 &&& (255 : Int32)) <<< ((8 : Int32) &&& 31))) ||| ((b2 &&& (255 : Int32)) <<< ((16 : Int32) &&& 31))) ||| ((b3 &&& (255 : Int32)) <<< ((24 : Int32) &&& 31))) * (1540483477 : Int32)) (24 : Int32))) * (1540483477 : Int32))) * (1540483477 : Int32)) ^^^ (((((((b4 &&& (255 : Int32)) ||| ((b5 &&& (255 : Int32)) <<< ((8 : Int32) &&& 31))) ||| ((b6 &&& (255 : Int32)) <<< ((16 : Int32) &&& 31))) ||| ((b7 &&& (255 : Int32)) <<< ((24 : Int32) &&& 31))) * (1540483477 : Int32)) ^^^ (XT.ushr (((((b4 &&& (255 : Int32)) ||| ((b5 &&& (255 : Int32)) <<< ((8 : Int32) &&& 31))) ||| ((b6 &&& (255 : Int32)) <<< ((16 : Int32) &&& 31))) ||| ((b7 &&& (255 : Int32)) <<< ((24 : Int32) &&& 31))) * (1540483477 : Int32)) (24 : Int32))) * (1540483477 : Int32))) ^^^ (b8 &&& (255 : Int32))) * (1540483477 : Int32)) (13 : Int32))) * (1540483477 : Int32)) (15 : Int32)))
set_option maxRecDepth 65536 in
set_option maxHeartbeats 40000000 in
theorem rm_mur9 (l : Launch) (Z : State) (a0 : Array Value) (hw : ∀ d ∈ tables_1, d.before a0 Z = true) (ar : Addr) (h0 : Heap) (n0 : Nat) (Z0 : n0 ≤ h0.size) (b0 : Int32) (b1 : Int32) (b2 : Int32) (b3 : Int32) (b4 : Int32) (b5 : Int32) (b6 : Int32) (b7 : Int32) (b8 : Int32) (A0 : IA Z h0 ar .byte [b0, b1, b2, b3, b4, b5, b6, b7, b8]) :
    Meets l (⟨"com/example/batchwright/batchwright/producer/Partitioner", "murmur2", "([B)I"⟩ : MethodName) prog_29_method_3_code 6 (some .int) ({ frames := 0, cells := 0, slots := 0, locals := 0 } : Room) Z #[(.ref ar)] h0 n0 (fun v h => v = some (Value.int (f_mur9 b0 b1 b2 b3 b4 b5 b6 b7 b8)) ∧ h = h0) := by
  refine meets_of (plainFor_of_name pn0) (Ls := #[.val (.ref ar), .unset, .unset, .unset, .unset, .unset]) (fun m => by first | (simp [entryFrame, mkF, argsToLocals, Value.category]; done) | rfl) ?_
  intro p e s m below meth c K
  replace K : Kx Z "com/example/batchwright/batchwright/producer/Partitioner" "murmur2" prog_29_method_3_code 6 (some .int) p s m meth c := K
  obtain ⟨Q, hQ⟩ : ∃ Q : Option Value → Heap → Prop, Q = (fun v h => v = some (Value.int (f_mur9 b0 b1 b2 b3 b4 b5 b6 b7 b8)) ∧ h = h0) := ⟨_, rfl⟩
  rw [← hQ]
  refine g_aloadN K 0 d1_0 rfl rfl ?_
  refine g_alen K 1 (9 : Int32) d1_1 A0 (show (9 : Nat).toInt32 = (9 : Int32) from by decide) ?_
  refine g_istoreN K 2 #[.val (.ref ar), .val (.int (9 : Int32)), .unset, .unset, .unset, .unset] d1_2 rfl ?_
  refine g_iloadN K 3 d1_3 rfl ?_
  refine g_iloadN K 4 d1_4 rfl ?_
  refine g_iconst K 5 (4 : Int32) d1_5 (by decide) ?_
  refine g_irem K 6 d1_6 (by decide) ?_
  rw [show ((9 : Int32) % (4 : Int32)) = (1 : Int32) from by decide]
  refine g_isub K 7 d1_7 ?_
  rw [show ((9 : Int32) - (1 : Int32)) = (8 : Int32) from by decide]
  refine g_istoreN K 8 #[.val (.ref ar), .val (.int (9 : Int32)), .val (.int (8 : Int32)), .unset, .unset, .unset] d1_8 rfl ?_
  refine g_ldc K 9 (v := (-1756908916 : Int32)) d1_9 (tw hw 7 rfl) ?_
  refine g_iloadN K 11 d1_11 rfl ?_
  refine g_ixor K 12 d1_12 ?_
  rw [show ((-1756908916 : Int32) ^^^ (9 : Int32)) = (-1756908923 : Int32) from by decide]
  refine g_istoreN K 13 #[.val (.ref ar), .val (.int (9 : Int32)), .val (.int (8 : Int32)), .val (.int (-1756908923 : Int32)), .unset, .unset] d1_13 rfl ?_
  refine g_iconst K 14 (0 : Int32) d1_14 (by decide) ?_
  refine g_istore K 15 #[.val (.ref ar), .val (.int (9 : Int32)), .val (.int (8 : Int32)), .val (.int (-1756908923 : Int32)), .val (.int (0 : Int32)), .unset] d1_15 rfl ?_
  refine g_iload K 17 d1_17 rfl ?_
  refine g_iloadN K 19 d1_19 rfl ?_
  refine g_ii_ge K 20 115 d1_20 (by decide) (by decide) ?_ ?_
  · intro c1
    exact absurd c1 (by decide)
  · intro c1
    refine g_aloadN K 23 d1_23 rfl rfl ?_
    refine g_iload K 24 d1_24 rfl ?_
    refine g_baload K 26 b0 d1_26 A0 (by decide) (by rw [show (0 : Int32).toNatClampNeg = 0 from by decide]; rfl) ?_
    refine g_sipush K 27 (255 : Int32) d1_27 (by decide) ?_
    refine g_iand K 30 d1_30 ?_
    refine g_aloadN K 31 d1_31 rfl rfl ?_
    refine g_iload K 32 d1_32 rfl ?_
    refine g_iconst K 34 (1 : Int32) d1_34 (by decide) ?_
    refine g_iadd K 35 d1_35 ?_
    rw [show ((0 : Int32) + (1 : Int32)) = (1 : Int32) from by decide]
    refine g_baload K 36 b1 d1_36 A0 (by decide) (by rw [show (1 : Int32).toNatClampNeg = 1 from by decide]; rfl) ?_
    refine g_sipush K 37 (255 : Int32) d1_37 (by decide) ?_
    refine g_iand K 40 d1_40 ?_
    refine g_bipush K 41 (8 : Int32) d1_41 (by decide) ?_
    refine g_ishl K 43 d1_43 ?_
    refine g_ior K 44 d1_44 ?_
    refine g_aloadN K 45 d1_45 rfl rfl ?_
    refine g_iload K 46 d1_46 rfl ?_
    refine g_iconst K 48 (2 : Int32) d1_48 (by decide) ?_
    refine g_iadd K 49 d1_49 ?_
    rw [show ((0 : Int32) + (2 : Int32)) = (2 : Int32) from by decide]
    refine g_baload K 50 b2 d1_50 A0 (by decide) (by rw [show (2 : Int32).toNatClampNeg = 2 from by decide]; rfl) ?_
    refine g_sipush K 51 (255 : Int32) d1_51 (by decide) ?_
    refine g_iand K 54 d1_54 ?_
    refine g_bipush K 55 (16 : Int32) d1_55 (by decide) ?_
    refine g_ishl K 57 d1_57 ?_
    refine g_ior K 58 d1_58 ?_
    refine g_aloadN K 59 d1_59 rfl rfl ?_
    refine g_iload K 60 d1_60 rfl ?_
    refine g_iconst K 62 (3 : Int32) d1_62 (by decide) ?_
    refine g_iadd K 63 d1_63 ?_
    rw [show ((0 : Int32) + (3 : Int32)) = (3 : Int32) from by decide]
    refine g_baload K 64 b3 d1_64 A0 (by decide) (by rw [show (3 : Int32).toNatClampNeg = 3 from by decide]; rfl) ?_
    refine g_sipush K 65 (255 : Int32) d1_65 (by decide) ?_
    refine g_iand K 68 d1_68 ?_
    refine g_bipush K 69 (24 : Int32) d1_69 (by decide) ?_
    refine g_ishl K 71 d1_71 ?_
    refine g_ior K 72 d1_72 ?_
    refine g_istore K 73 #[.val (.ref ar), .val (.int (9 : Int32)), .val (.int (8 : Int32)), .val (.int (-1756908923 : Int32)), .val (.int (0 : Int32)), .val (.int ((((b0 &&& (255 : Int32)) ||| ((b1 &&& (255 : Int32)) <<< ((8 : Int32) &&& 31))) ||| ((b2 &&& (255 : Int32)) <<< ((16 : Int32) &&& 31))) ||| ((b3 &&& (255 : Int32)) <<< ((24 : Int32) &&& 31))))] d1_73 rfl ?_
    refine g_iload K 75 d1_75 rfl ?_
    refine g_ldc K 77 (v := (1540483477 : Int32)) d1_77 (tw hw 8 rfl) ?_
    refine g_imul K 79 d1_79 ?_
    refine g_istore K 80 #[.val (.ref ar), .val (.int (9 : Int32)), .val (.int (8 : Int32)), .val (.int (-1756908923 : Int32)), .val (.int (0 : Int32)), .val (.int (((((b0 &&& (255 : Int32)) ||| ((b1 &&& (255 : Int32)) <<< ((8 : Int32) &&& 31))) ||| ((b2 &&& (255 : Int32)) <<< ((16 : Int32) &&& 31))) ||| ((b3 &&& (255 : Int32)) <<< ((24 : Int32) &&& 31))) * (1540483477 : Int32)))] d1_80 rfl ?_
    refine g_iload K 82 d1_82 rfl ?_
    refine g_iload K 84 d1_84 rfl ?_
    refine g_bipush K 86 (24 : Int32) d1_86 (by decide) ?_
    refine g_iushr K 88 d1_88 ?_
    refine g_ixor K 89 d1_89 ?_
    refine g_istore K 90 #[.val (.ref ar), .val (.int (9 : Int32)), .val (.int (8 : Int32)), .val (.int (-1756908923 : Int32)), .val (.int (0 : Int32)), .val (.int ((((((b0 &&& (255 : Int32)) ||| ((b1 &&& (255 : Int32)) <<< ((8 : Int32) &&& 31))) ||| ((b2 &&& (255 : Int32)) <<< ((16 : Int32) &&& 31))) ||| ((b3 &&& (255 : Int32)) <<< ((24 : Int32) &&& 31))) * (1540483477 : Int32)) ^^^ (XT.ushr (((((b0 &&& (255 : Int32)) ||| ((b1 &&& (255 : Int32)) <<< ((8 : Int32) &&& 31))) ||| ((b2 &&& (255 : Int32)) <<< ((16 : Int32) &&& 31))) ||| ((b3 &&& (255 : Int32)) <<< ((24 : Int32) &&& 31))) * (1540483477 : Int32)) (24 : Int32))))] d1_90 rfl ?_
    refine g_iload K 92 d1_92 rfl ?_
    refine g_ldc K 94 (v := (1540483477 : Int32)) d1_94 (tw hw 8 rfl) ?_
    refine g_imul K 96 d1_96 ?_
    refine g_istore K 97 #[.val (.ref ar), .val (.int (9 : Int32)), .val (.int (8 : Int32)), .val (.int (-1756908923 : Int32)), .val (.int (0 : Int32)), .val (.int (((((((b0 &&& (255 : Int32)) ||| ((b1 &&& (255 : Int32)) <<< ((8 : Int32) &&& 31))) ||| ((b2 &&& (255 : Int32)) <<< ((16 : Int32) &&& 31))) ||| ((b3 &&& (255 : Int32)) <<< ((24 : Int32) &&& 31))) * (1540483477 : Int32)) ^^^ (XT.ushr (((((b0 &&& (255 : Int32)) ||| ((b1 &&& (255 : Int32)) <<< ((8 : Int32) &&& 31))) ||| ((b2 &&& (255 : Int32)) <<< ((16 : Int32) &&& 31))) ||| ((b3 &&& (255 : Int32)) <<< ((24 : Int32) &&& 31))) * (1540483477 : Int32)) (24 : Int32))) * (1540483477 : Int32)))] d1_97 rfl ?_
    refine g_iloadN K 99 d1_99 rfl ?_
    refine g_ldc K 100 (v := (1540483477 : Int32)) d1_100 (tw hw 8 rfl) ?_
    refine g_imul K 102 d1_102 ?_
    rw [show ((-1756908923 : Int32) * (1540483477 : Int32)) = (1405809769 : Int32) from by decide]
    refine g_istoreN K 103 #[.val (.ref ar), .val (.int (9 : Int32)), .val (.int (8 : Int32)), .val (.int (1405809769 : Int32)), .val (.int (0 : Int32)), .val (.int (((((((b0 &&& (255 : Int32)) ||| ((b1 &&& (255 : Int32)) <<< ((8 : Int32) &&& 31))) ||| ((b2 &&& (255 : Int32)) <<< ((16 : Int32) &&& 31))) ||| ((b3 &&& (255 : Int32)) <<< ((24 : Int32) &&& 31))) * (1540483477 : Int32)) ^^^ (XT.ushr (((((b0 &&& (255 : Int32)) ||| ((b1 &&& (255 : Int32)) <<< ((8 : Int32) &&& 31))) ||| ((b2 &&& (255 : Int32)) <<< ((16 : Int32) &&& 31))) ||| ((b3 &&& (255 : Int32)) <<< ((24 : Int32) &&& 31))) * (1540483477 : Int32)) (24 : Int32))) * (1540483477 : Int32)))] d1_103 rfl ?_
    refine g_iloadN K 104 d1_104 rfl ?_
    refine g_iload K 105 d1_105 rfl ?_
    refine g_ixor K 107 d1_107 ?_
    refine g_istoreN K 108 #[.val (.ref ar), .val (.int (9 : Int32)), .val (.int (8 : Int32)), .val (.int ((1405809769 : Int32) ^^^ (((((((b0 &&& (255 : Int32)) ||| ((b1 &&& (255 : Int32)) <<< ((8 : Int32) &&& 31))) ||| ((b2 &&& (255 : Int32)) <<< ((16 : Int32) &&& 31))) ||| ((b3 &&& (255 : Int32)) <<< ((24 : Int32) &&& 31))) * (1540483477 : Int32)) ^^^ (XT.ushr (((((b0 &&& (255 : Int32)) ||| ((b1 &&& (255 : Int32)) <<< ((8 : Int32) &&& 31))) ||| ((b2 &&& (255 : Int32)) <<< ((16 : Int32) &&& 31))) ||| ((b3 &&& (255 : Int32)) <<< ((24 : Int32) &&& 31))) * (1540483477 : Int32)) (24 : Int32))) * (1540483477 : Int32)))), .val (.int (0 : Int32)), .val (.int (((((((b0 &&& (255 : Int32)) ||| ((b1 &&& (255 : Int32)) <<< ((8 : Int32) &&& 31))) ||| ((b2 &&& (255 : Int32)) <<< ((16 : Int32) &&& 31))) ||| ((b3 &&& (255 : Int32)) <<< ((24 : Int32) &&& 31))) * (1540483477 : Int32)) ^^^ (XT.ushr (((((b0 &&& (255 : Int32)) ||| ((b1 &&& (255 : Int32)) <<< ((8 : Int32) &&& 31))) ||| ((b2 &&& (255 : Int32)) <<< ((16 : Int32) &&& 31))) ||| ((b3 &&& (255 : Int32)) <<< ((24 : Int32) &&& 31))) * (1540483477 : Int32)) (24 : Int32))) * (1540483477 : Int32)))] d1_108 rfl ?_
    refine g_iinc K 109 (4 : Int32) #[.val (.ref ar), .val (.int (9 : Int32)), .val (.int (8 : Int32)), .val (.int ((1405809769 : Int32) ^^^ (((((((b0 &&& (255 : Int32)) ||| ((b1 &&& (255 : Int32)) <<< ((8 : Int32) &&& 31))) ||| ((b2 &&& (255 : Int32)) <<< ((16 : Int32) &&& 31))) ||| ((b3 &&& (255 : Int32)) <<< ((24 : Int32) &&& 31))) * (1540483477 : Int32)) ^^^ (XT.ushr (((((b0 &&& (255 : Int32)) ||| ((b1 &&& (255 : Int32)) <<< ((8 : Int32) &&& 31))) ||| ((b2 &&& (255 : Int32)) <<< ((16 : Int32) &&& 31))) ||| ((b3 &&& (255 : Int32)) <<< ((24 : Int32) &&& 31))) * (1540483477 : Int32)) (24 : Int32))) * (1540483477 : Int32)))), .val (.int ((0 : Int32) + (4 : Int32))), .val (.int (((((((b0 &&& (255 : Int32)) ||| ((b1 &&& (255 : Int32)) <<< ((8 : Int32) &&& 31))) ||| ((b2 &&& (255 : Int32)) <<< ((16 : Int32) &&& 31))) ||| ((b3 &&& (255 : Int32)) <<< ((24 : Int32) &&& 31))) * (1540483477 : Int32)) ^^^ (XT.ushr (((((b0 &&& (255 : Int32)) ||| ((b1 &&& (255 : Int32)) <<< ((8 : Int32) &&& 31))) ||| ((b2 &&& (255 : Int32)) <<< ((16 : Int32) &&& 31))) ||| ((b3 &&& (255 : Int32)) <<< ((24 : Int32) &&& 31))) * (1540483477 : Int32)) (24 : Int32))) * (1540483477 : Int32)))] d1_109 (by decide) rfl rfl ?_
    rw [show ((0 : Int32) + (4 : Int32)) = (4 : Int32) from by decide]
    refine g_goto K 112 17 d1_112 (by decide) (by decide) ?_
    refine g_iload K 17 d1_17 rfl ?_
    refine g_iloadN K 19 d1_19 rfl ?_
    refine g_ii_ge K 20 115 d1_20 (by decide) (by decide) ?_ ?_
    · intro c2
      exact absurd c2 (by decide)
    · intro c2
      refine g_aloadN K 23 d1_23 rfl rfl ?_
      refine g_iload K 24 d1_24 rfl ?_
      refine g_baload K 26 b4 d1_26 A0 (by decide) (by rw [show (4 : Int32).toNatClampNeg = 4 from by decide]; rfl) ?_
      refine g_sipush K 27 (255 : Int32) d1_27 (by decide) ?_
      refine g_iand K 30 d1_30 ?_
      refine g_aloadN K 31 d1_31 rfl rfl ?_
      refine g_iload K 32 d1_32 rfl ?_
      refine g_iconst K 34 (1 : Int32) d1_34 (by decide) ?_
      refine g_iadd K 35 d1_35 ?_
      rw [show ((4 : Int32) + (1 : Int32)) = (5 : Int32) from by decide]
      refine g_baload K 36 b5 d1_36 A0 (by decide) (by rw [show (5 : Int32).toNatClampNeg = 5 from by decide]; rfl) ?_
      refine g_sipush K 37 (255 : Int32) d1_37 (by decide) ?_
      refine g_iand K 40 d1_40 ?_
      refine g_bipush K 41 (8 : Int32) d1_41 (by decide) ?_
      refine g_ishl K 43 d1_43 ?_
      refine g_ior K 44 d1_44 ?_
      refine g_aloadN K 45 d1_45 rfl rfl ?_
      refine g_iload K 46 d1_46 rfl ?_
      refine g_iconst K 48 (2 : Int32) d1_48 (by decide) ?_
      refine g_iadd K 49 d1_49 ?_
      rw [show ((4 : Int32) + (2 : Int32)) = (6 : Int32) from by decide]
      refine g_baload K 50 b6 d1_50 A0 (by decide) (by rw [show (6 : Int32).toNatClampNeg = 6 from by decide]; rfl) ?_
      refine g_sipush K 51 (255 : Int32) d1_51 (by decide) ?_
      refine g_iand K 54 d1_54 ?_
      refine g_bipush K 55 (16 : Int32) d1_55 (by decide) ?_
      refine g_ishl K 57 d1_57 ?_
      refine g_ior K 58 d1_58 ?_
      refine g_aloadN K 59 d1_59 rfl rfl ?_
      refine g_iload K 60 d1_60 rfl ?_
      refine g_iconst K 62 (3 : Int32) d1_62 (by decide) ?_
      refine g_iadd K 63 d1_63 ?_
      rw [show ((4 : Int32) + (3 : Int32)) = (7 : Int32) from by decide]
      refine g_baload K 64 b7 d1_64 A0 (by decide) (by rw [show (7 : Int32).toNatClampNeg = 7 from by decide]; rfl) ?_
      refine g_sipush K 65 (255 : Int32) d1_65 (by decide) ?_
      refine g_iand K 68 d1_68 ?_
      refine g_bipush K 69 (24 : Int32) d1_69 (by decide) ?_
      refine g_ishl K 71 d1_71 ?_
      refine g_ior K 72 d1_72 ?_
      refine g_istore K 73 #[.val (.ref ar), .val (.int (9 : Int32)), .val (.int (8 : Int32)), .val (.int ((1405809769 : Int32) ^^^ (((((((b0 &&& (255 : Int32)) ||| ((b1 &&& (255 : Int32)) <<< ((8 : Int32) &&& 31))) ||| ((b2 &&& (255 : Int32)) <<< ((16 : Int32) &&& 31))) ||| ((b3 &&& (255 : Int32)) <<< ((24 : Int32) &&& 31))) * (1540483477 : Int32)) ^^^ (XT.ushr (((((b0 &&& (255 : Int32)) ||| ((b1 &&& (255 : Int32)) <<< ((8 : Int32) &&& 31))) ||| ((b2 &&& (255 : Int32)) <<< ((16 : Int32) &&& 31))) ||| ((b3 &&& (255 : Int32)) <<< ((24 : Int32) &&& 31))) * (1540483477 : Int32)) (24 : Int32))) * (1540483477 : Int32)))), .val (.int (4 : Int32)), .val (.int ((((b4 &&& (255 : Int32)) ||| ((b5 &&& (255 : Int32)) <<< ((8 : Int32) &&& 31))) ||| ((b6 &&& (255 : Int32)) <<< ((16 : Int32) &&& 31))) ||| ((b7 &&& (255 : Int32)) <<< ((24 : Int32) &&& 31))))] d1_73 rfl ?_
      refine g_iload K 75 d1_75 rfl ?_
      refine g_ldc K 77 (v := (1540483477 : Int32)) d1_77 (tw hw 8 rfl) ?_
      refine g_imul K 79 d1_79 ?_
      refine g_istore K 80 #[.val (.ref ar), .val (.int (9 : Int32)), .val (.int (8 : Int32)), .val (.int ((1405809769 : Int32) ^^^ (((((((b0 &&& (255 : Int32)) ||| ((b1 &&& (255 : Int32)) <<< ((8 : Int32) &&& 31))) ||| ((b2 &&& (255 : Int32)) <<< ((16 : Int32) &&& 31))) ||| ((b3 &&& (255 : Int32)) <<< ((24 : Int32) &&& 31))) * (1540483477 : Int32)) ^^^ (XT.ushr (((((b0 &&& (255 : Int32)) ||| ((b1 &&& (255 : Int32)) <<< ((8 : Int32) &&& 31))) ||| ((b2 &&& (255 : Int32)) <<< ((16 : Int32) &&& 31))) ||| ((b3 &&& (255 : Int32)) <<< ((24 : Int32) &&& 31))) * (1540483477 : Int32)) (24 : Int32))) * (1540483477 : Int32)))), .val (.int (4 : Int32)), .val (.int (((((b4 &&& (255 : Int32)) ||| ((b5 &&& (255 : Int32)) <<< ((8 : Int32) &&& 31))) ||| ((b6 &&& (255 : Int32)) <<< ((16 : Int32) &&& 31))) ||| ((b7 &&& (255 : Int32)) <<< ((24 : Int32) &&& 31))) * (1540483477 : Int32)))] d1_80 rfl ?_
      refine g_iload K 82 d1_82 rfl ?_
      refine g_iload K 84 d1_84 rfl ?_
      refine g_bipush K 86 (24 : Int32) d1_86 (by decide) ?_
      refine g_iushr K 88 d1_88 ?_
      refine g_ixor K 89 d1_89 ?_
      refine g_istore K 90 #[.val (.ref ar), .val (.int (9 : Int32)), .val (.int (8 : Int32)), .val (.int ((1405809769 : Int32) ^^^ (((((((b0 &&& (255 : Int32)) ||| ((b1 &&& (255 : Int32)) <<< ((8 : Int32) &&& 31))) ||| ((b2 &&& (255 : Int32)) <<< ((16 : Int32) &&& 31))) ||| ((b3 &&& (255 : Int32)) <<< ((24 : Int32) &&& 31))) * (1540483477 : Int32)) ^^^ (XT.ushr (((((b0 &&& (255 : Int32)) ||| ((b1 &&& (255 : Int32)) <<< ((8 : Int32) &&& 31))) ||| ((b2 &&& (255 : Int32)) <<< ((16 : Int32) &&& 31))) ||| ((b3 &&& (255 : Int32)) <<< ((24 : Int32) &&& 31))) * (1540483477 : Int32)) (24 : Int32))) * (1540483477 : Int32)))), .val (.int (4 : Int32)), .val (.int ((((((b4 &&& (255 : Int32)) ||| ((b5 &&& (255 : Int32)) <<< ((8 : Int32) &&& 31))) ||| ((b6 &&& (255 : Int32)) <<< ((16 : Int32) &&& 31))) ||| ((b7 &&& (255 : Int32)) <<< ((24 : Int32) &&& 31))) * (1540483477 : Int32)) ^^^ (XT.ushr (((((b4 &&& (255 : Int32)) ||| ((b5 &&& (255 : Int32)) <<< ((8 : Int32) &&& 31))) ||| ((b6 &&& (255 : Int32)) <<< ((16 : Int32) &&& 31))) ||| ((b7 &&& (255 : Int32)) <<< ((24 : Int32) &&& 31))) * (1540483477 : Int32)) (24 : Int32))))] d1_90 rfl ?_
      refine g_iload K 92 d1_92 rfl ?_
      refine g_ldc K 94 (v := (1540483477 : Int32)) d1_94 (tw hw 8 rfl) ?_
      refine g_imul K 96 d1_96 ?_
      refine g_istore K 97 #[.val (.ref ar), .val (.int (9 : Int32)), .val (.int (8 : Int32)), .val (.int ((1405809769 : Int32) ^^^ (((((((b0 &&& (255 : Int32)) ||| ((b1 &&& (255 : Int32)) <<< ((8 : Int32) &&& 31))) ||| ((b2 &&& (255 : Int32)) <<< ((16 : Int32) &&& 31))) ||| ((b3 &&& (255 : Int32)) <<< ((24 : Int32) &&& 31))) * (1540483477 : Int32)) ^^^ (XT.ushr (((((b0 &&& (255 : Int32)) ||| ((b1 &&& (255 : Int32)) <<< ((8 : Int32) &&& 31))) ||| ((b2 &&& (255 : Int32)) <<< ((16 : Int32) &&& 31))) ||| ((b3 &&& (255 : Int32)) <<< ((24 : Int32) &&& 31))) * (1540483477 : Int32)) (24 : Int32))) * (1540483477 : Int32)))), .val (.int (4 : Int32)), .val (.int (((((((b4 &&& (255 : Int32)) ||| ((b5 &&& (255 : Int32)) <<< ((8 : Int32) &&& 31))) ||| ((b6 &&& (255 : Int32)) <<< ((16 : Int32) &&& 31))) ||| ((b7 &&& (255 : Int32)) <<< ((24 : Int32) &&& 31))) * (1540483477 : Int32)) ^^^ (XT.ushr (((((b4 &&& (255 : Int32)) ||| ((b5 &&& (255 : Int32)) <<< ((8 : Int32) &&& 31))) ||| ((b6 &&& (255 : Int32)) <<< ((16 : Int32) &&& 31))) ||| ((b7 &&& (255 : Int32)) <<< ((24 : Int32) &&& 31))) * (1540483477 : Int32)) (24 : Int32))) * (1540483477 : Int32)))] d1_97 rfl ?_
      refine g_iloadN K 99 d1_99 rfl ?_
      refine g_ldc K 100 (v := (1540483477 : Int32)) d1_100 (tw hw 8 rfl) ?_
      refine g_imul K 102 d1_102 ?_
      refine g_istoreN K 103 #[.val (.ref ar), .val (.int (9 : Int32)), .val (.int (8 : Int32)), .val (.int (((1405809769 : Int32) ^^^ (((((((b0 &&& (255 : Int32)) ||| ((b1 &&& (255 : Int32)) <<< ((8 : Int32) &&& 31))) ||| ((b2 &&& (255 : Int32)) <<< ((16 : Int32) &&& 31))) ||| ((b3 &&& (255 : Int32)) <<< ((24 : Int32) &&& 31))) * (1540483477 : Int32)) ^^^ (XT.ushr (((((b0 &&& (255 : Int32)) ||| ((b1 &&& (255 : Int32)) <<< ((8 : Int32) &&& 31))) ||| ((b2 &&& (255 : Int32)) <<< ((16 : Int32) &&& 31))) ||| ((b3 &&& (255 : Int32)) <<< ((24 : Int32) &&& 31))) * (1540483477 : Int32)) (24 : Int32))) * (1540483477 : Int32))) * (1540483477 : Int32))), .val (.int (4 : Int32)), .val (.int (((((((b4 &&& (255 : Int32)) ||| ((b5 &&& (255 : Int32)) <<< ((8 : Int32) &&& 31))) ||| ((b6 &&& (255 : Int32)) <<< ((16 : Int32) &&& 31))) ||| ((b7 &&& (255 : Int32)) <<< ((24 : Int32) &&& 31))) * (1540483477 : Int32)) ^^^ (XT.ushr (((((b4 &&& (255 : Int32)) ||| ((b5 &&& (255 : Int32)) <<< ((8 : Int32) &&& 31))) ||| ((b6 &&& (255 : Int32)) <<< ((16 : Int32) &&& 31))) ||| ((b7 &&& (255 : Int32)) <<< ((24 : Int32) &&& 31))) * (1540483477 : Int32)) (24 : Int32))) * (1540483477 : Int32)))] d1_103 rfl ?_
      refine g_iloadN K 104 d1_104 rfl ?_
      refine g_iload K 105 d1_105 rfl ?_
      refine g_ixor K 107 d1_107 ?_
      refine g_istoreN K 108 #[.val (.ref ar), .val (.int (9 : Int32)), .val (.int (8 : Int32)), .val (.int ((((1405809769 : Int32) ^^^ (((((((b0 &&& (255 : Int32)) ||| ((b1 &&& (255 : Int32)) <<< ((8 : Int32) &&& 31))) ||| ((b2 &&& (255 : Int32)) <<< ((16 : Int32) &&& 31))) ||| ((b3 &&& (255 : Int32)) <<< ((24 : Int32) &&& 31))) * (1540483477 : Int32)) ^^^ (XT.ushr (((((b0 &&& (255 : Int32)) ||| ((b1 &&& (255 : Int32)) <<< ((8 : Int32) &&& 31))) ||| ((b2 &&& (255 : Int32)) <<< ((16 : Int32) &&& 31))) ||| ((b3 &&& (255 : Int32)) <<< ((24 : Int32) &&& 31))) * (1540483477 : Int32)) (24 : Int32))) * (1540483477 : Int32))) * (1540483477 : Int32)) ^^^ (((((((b4 &&& (255 : Int32)) ||| ((b5 &&& (255 : Int32)) <<< ((8 : Int32) &&& 31))) ||| ((b6 &&& (255 : Int32)) <<< ((16 : Int32) &&& 31))) ||| ((b7 &&& (255 : Int32)) <<< ((24 : Int32) &&& 31))) * (1540483477 : Int32)) ^^^ (XT.ushr (((((b4 &&& (255 : Int32)) ||| ((b5 &&& (255 : Int32)) <<< ((8 : Int32) &&& 31))) ||| ((b6 &&& (255 : Int32)) <<< ((16 : Int32) &&& 31))) ||| ((b7 &&& (255 : Int32)) <<< ((24 : Int32) &&& 31))) * (1540483477 : Int32)) (24 : Int32))) * (1540483477 : Int32)))), .val (.int (4 : Int32)), .val (.int (((((((b4 &&& (255 : Int32)) ||| ((b5 &&& (255 : Int32)) <<< ((8 : Int32) &&& 31))) ||| ((b6 &&& (255 : Int32)) <<< ((16 : Int32) &&& 31))) ||| ((b7 &&& (255 : Int32)) <<< ((24 : Int32) &&& 31))) * (1540483477 : Int32)) ^^^ (XT.ushr (((((b4 &&& (255 : Int32)) ||| ((b5 &&& (255 : Int32)) <<< ((8 : Int32) &&& 31))) ||| ((b6 &&& (255 : Int32)) <<< ((16 : Int32) &&& 31))) ||| ((b7 &&& (255 : Int32)) <<< ((24 : Int32) &&& 31))) * (1540483477 : Int32)) (24 : Int32))) * (1540483477 : Int32)))] d1_108 rfl ?_
      refine g_iinc K 109 (4 : Int32) #[.val (.ref ar), .val (.int (9 : Int32)), .val (.int (8 : Int32)), .val (.int ((((1405809769 : Int32) ^^^ (((((((b0 &&& (255 : Int32)) ||| ((b1 &&& (255 : Int32)) <<< ((8 : Int32) &&& 31))) ||| ((b2 &&& (255 : Int32)) <<< ((16 : Int32) &&& 31))) ||| ((b3 &&& (255 : Int32)) <<< ((24 : Int32) &&& 31))) * (1540483477 : Int32)) ^^^ (XT.ushr (((((b0 &&& (255 : Int32)) ||| ((b1 &&& (255 : Int32)) <<< ((8 : Int32) &&& 31))) ||| ((b2 &&& (255 : Int32)) <<< ((16 : Int32) &&& 31))) ||| ((b3 &&& (255 : Int32)) <<< ((24 : Int32) &&& 31))) * (1540483477 : Int32)) (24 : Int32))) * (1540483477 : Int32))) * (1540483477 : Int32)) ^^^ (((((((b4 &&& (255 : Int32)) ||| ((b5 &&& (255 : Int32)) <<< ((8 : Int32) &&& 31))) ||| ((b6 &&& (255 : Int32)) <<< ((16 : Int32) &&& 31))) ||| ((b7 &&& (255 : Int32)) <<< ((24 : Int32) &&& 31))) * (1540483477 : Int32)) ^^^ (XT.ushr (((((b4 &&& (255 : Int32)) ||| ((b5 &&& (255 : Int32)) <<< ((8 : Int32) &&& 31))) ||| ((b6 &&& (255 : Int32)) <<< ((16 : Int32) &&& 31))) ||| ((b7 &&& (255 : Int32)) <<< ((24 : Int32) &&& 31))) * (1540483477 : Int32)) (24 : Int32))) * (1540483477 : Int32)))), .val (.int ((4 : Int32) + (4 : Int32))), .val (.int (((((((b4 &&& (255 : Int32)) ||| ((b5 &&& (255 : Int32)) <<< ((8 : Int32) &&& 31))) ||| ((b6 &&& (255 : Int32)) <<< ((16 : Int32) &&& 31))) ||| ((b7 &&& (255 : Int32)) <<< ((24 : Int32) &&& 31))) * (1540483477 : Int32)) ^^^ (XT.ushr (((((b4 &&& (255 : Int32)) ||| ((b5 &&& (255 : Int32)) <<< ((8 : Int32) &&& 31))) ||| ((b6 &&& (255 : Int32)) <<< ((16 : Int32) &&& 31))) ||| ((b7 &&& (255 : Int32)) <<< ((24 : Int32) &&& 31))) * (1540483477 : Int32)) (24 : Int32))) * (1540483477 : Int32)))] d1_109 (by decide) rfl rfl ?_
      rw [show ((4 : Int32) + (4 : Int32)) = (8 : Int32) from by decide]
      refine g_goto K 112 17 d1_112 (by decide) (by decide) ?_
      refine g_iload K 17 d1_17 rfl ?_
      refine g_iloadN K 19 d1_19 rfl ?_
      refine g_ii_ge K 20 115 d1_20 (by decide) (by decide) ?_ ?_
      · intro c3
        refine g_iloadN K 115 d1_115 rfl ?_
        refine g_iloadN K 116 d1_116 rfl ?_
        refine g_isub K 117 d1_117 ?_
        rw [show ((9 : Int32) - (8 : Int32)) = (1 : Int32) from by decide]
        refine g_istore K 118 #[.val (.ref ar), .val (.int (9 : Int32)), .val (.int (8 : Int32)), .val (.int ((((1405809769 : Int32) ^^^ (((((((b0 &&& (255 : Int32)) ||| ((b1 &&& (255 : Int32)) <<< ((8 : Int32) &&& 31))) ||| ((b2 &&& (255 : Int32)) <<< ((16 : Int32) &&& 31))) ||| ((b3 &&& (255 : Int32)) <<< ((24 : Int32) &&& 31))) * (1540483477 : Int32)) ^^^ (XT.ushr (((((b0 &&& (255 : Int32)) ||| ((b1 &&& (255 : Int32)) <<< ((8 : Int32) &&& 31))) ||| ((b2 &&& (255 : Int32)) <<< ((16 : Int32) &&& 31))) ||| ((b3 &&& (255 : Int32)) <<< ((24 : Int32) &&& 31))) * (1540483477 : Int32)) (24 : Int32))) * (1540483477 : Int32))) * (1540483477 : Int32)) ^^^ (((((((b4 &&& (255 : Int32)) ||| ((b5 &&& (255 : Int32)) <<< ((8 : Int32) &&& 31))) ||| ((b6 &&& (255 : Int32)) <<< ((16 : Int32) &&& 31))) ||| ((b7 &&& (255 : Int32)) <<< ((24 : Int32) &&& 31))) * (1540483477 : Int32)) ^^^ (XT.ushr (((((b4 &&& (255 : Int32)) ||| ((b5 &&& (255 : Int32)) <<< ((8 : Int32) &&& 31))) ||| ((b6 &&& (255 : Int32)) <<< ((16 : Int32) &&& 31))) ||| ((b7 &&& (255 : Int32)) <<< ((24 : Int32) &&& 31))) * (1540483477 : Int32)) (24 : Int32))) * (1540483477 : Int32)))), .val (.int (1 : Int32)), .val (.int (((((((b4 &&& (255 : Int32)) ||| ((b5 &&& (255 : Int32)) <<< ((8 : Int32) &&& 31))) ||| ((b6 &&& (255 : Int32)) <<< ((16 : Int32) &&& 31))) ||| ((b7 &&& (255 : Int32)) <<< ((24 : Int32) &&& 31))) * (1540483477 : Int32)) ^^^ (XT.ushr (((((b4 &&& (255 : Int32)) ||| ((b5 &&& (255 : Int32)) <<< ((8 : Int32) &&& 31))) ||| ((b6 &&& (255 : Int32)) <<< ((16 : Int32) &&& 31))) ||| ((b7 &&& (255 : Int32)) <<< ((24 : Int32) &&& 31))) * (1540483477 : Int32)) (24 : Int32))) * (1540483477 : Int32)))] d1_118 rfl ?_
        refine g_iload K 120 d1_120 rfl ?_
        refine g_iconst K 122 (3 : Int32) d1_122 (by decide) ?_
        refine g_ii_ne K 123 141 d1_123 (by decide) (by decide) ?_ ?_
        · intro c4
          refine g_iload K 141 d1_141 rfl ?_
          refine g_iconst K 143 (2 : Int32) d1_143 (by decide) ?_
          refine g_ii_lt K 144 162 d1_144 (by decide) (by decide) ?_ ?_
          · intro c5
            refine g_iload K 162 d1_162 rfl ?_
            refine g_iconst K 164 (1 : Int32) d1_164 (by decide) ?_
            refine g_ii_lt K 165 183 d1_165 (by decide) (by decide) ?_ ?_
            · intro c6
              exact absurd c6 (by decide)
            · intro c6
              refine g_iloadN K 168 d1_168 rfl ?_
              refine g_aloadN K 169 d1_169 rfl rfl ?_
              refine g_iloadN K 170 d1_170 rfl ?_
              refine g_baload K 171 b8 d1_171 A0 (by decide) (by rw [show (8 : Int32).toNatClampNeg = 8 from by decide]; rfl) ?_
              refine g_sipush K 172 (255 : Int32) d1_172 (by decide) ?_
              refine g_iand K 175 d1_175 ?_
              refine g_ixor K 176 d1_176 ?_
              refine g_istoreN K 177 #[.val (.ref ar), .val (.int (9 : Int32)), .val (.int (8 : Int32)), .val (.int (((((1405809769 : Int32) ^^^ (((((((b0 &&& (255 : Int32)) ||| ((b1 &&& (255 : Int32)) <<< ((8 : Int32) &&& 31))) ||| ((b2 &&& (255 : Int32)) <<< ((16 : Int32) &&& 31))) ||| ((b3 &&& (255 : Int32)) <<< ((24 : Int32) &&& 31))) * (1540483477 : Int32)) ^^^ (XT.ushr (((((b0 &&& (255 : Int32)) ||| ((b1 &&& (255 : Int32)) <<< ((8 : Int32) &&& 31))) ||| ((b2 &&& (255 : Int32)) <<< ((16 : Int32) &&& 31))) ||| ((b3 &&& (255 : Int32)) <<< ((24 : Int32) &&& 31))) * (1540483477 : Int32)) (24 : Int32))) * (1540483477 : Int32))) * (1540483477 : Int32)) ^^^ (((((((b4 &&& (255 : Int32)) ||| ((b5 &&& (255 : Int32)) <<< ((8 : Int32) &&& 31))) ||| ((b6 &&& (255 : Int32)) <<< ((16 : Int32) &&& 31))) ||| ((b7 &&& (255 : Int32)) <<< ((24 : Int32) &&& 31))) * (1540483477 : Int32)) ^^^ (XT.ushr (((((b4 &&& (255 : Int32)) ||| ((b5 &&& (255 : Int32)) <<< ((8 : Int32) &&& 31))) ||| ((b6 &&& (255 : Int32)) <<< ((16 : Int32) &&& 31))) ||| ((b7 &&& (255 : Int32)) <<< ((24 : Int32) &&& 31))) * (1540483477 : Int32)) (24 : Int32))) * (1540483477 : Int32))) ^^^ (b8 &&& (255 : Int32)))), .val (.int (1 : Int32)), .val (.int (((((((b4 &&& (255 : Int32)) ||| ((b5 &&& (255 : Int32)) <<< ((8 : Int32) &&& 31))) ||| ((b6 &&& (255 : Int32)) <<< ((16 : Int32) &&& 31))) ||| ((b7 &&& (255 : Int32)) <<< ((24 : Int32) &&& 31))) * (1540483477 : Int32)) ^^^ (XT.ushr (((((b4 &&& (255 : Int32)) ||| ((b5 &&& (255 : Int32)) <<< ((8 : Int32) &&& 31))) ||| ((b6 &&& (255 : Int32)) <<< ((16 : Int32) &&& 31))) ||| ((b7 &&& (255 : Int32)) <<< ((24 : Int32) &&& 31))) * (1540483477 : Int32)) (24 : Int32))) * (1540483477 : Int32)))] d1_177 rfl ?_
              refine g_iloadN K 178 d1_178 rfl ?_
              refine g_ldc K 179 (v := (1540483477 : Int32)) d1_179 (tw hw 8 rfl) ?_
              refine g_imul K 181 d1_181 ?_
              refine g_istoreN K 182 #[.val (.ref ar), .val (.int (9 : Int32)), .val (.int (8 : Int32)), .val (.int ((((((1405809769 : Int32) ^^^ (((((((b0 &&& (255 : Int32)) ||| ((b1 &&& (255 : Int32)) <<< ((8 : Int32) &&& 31))) ||| ((b2 &&& (255 : Int32)) <<< ((16 : Int32) &&& 31))) ||| ((b3 &&& (255 : Int32)) <<< ((24 : Int32) &&& 31))) * (1540483477 : Int32)) ^^^ (XT.ushr (((((b0 &&& (255 : Int32)) ||| ((b1 &&& (255 : Int32)) <<< ((8 : Int32) &&& 31))) ||| ((b2 &&& (255 : Int32)) <<< ((16 : Int32) &&& 31))) ||| ((b3 &&& (255 : Int32)) <<< ((24 : Int32) &&& 31))) * (1540483477 : Int32)) (24 : Int32))) * (1540483477 : Int32))) * (1540483477 : Int32)) ^^^ (((((((b4 &&& (255 : Int32)) ||| ((b5 &&& (255 : Int32)) <<< ((8 : Int32) &&& 31))) ||| ((b6 &&& (255 : Int32)) <<< ((16 : Int32) &&& 31))) ||| ((b7 &&& (255 : Int32)) <<< ((24 : Int32) &&& 31))) * (1540483477 : Int32)) ^^^ (XT.ushr (((((b4 &&& (255 : Int32)) ||| ((b5 &&& (255 : Int32)) <<< ((8 : Int32) &&& 31))) ||| ((b6 &&& (255 : Int32)) <<< ((16 : Int32) &&& 31))) ||| ((b7 &&& (255 : Int32)) <<< ((24 : Int32) &&& 31))) * (1540483477 : Int32)) (24 : Int32))) * (1540483477 : Int32))) ^^^ (b8 &&& (255 : Int32))) * (1540483477 : Int32))), .val (.int (1 : Int32)), .val (.int (((((((b4 &&& (255 : Int32)) ||| ((b5 &&& (255 : Int32)) <<< ((8 : Int32) &&& 31))) ||| ((b6 &&& (255 : Int32)) <<< ((16 : Int32) &&& 31))) ||| ((b7 &&& (255 : Int32)) <<< ((24 : Int32) &&& 31))) * (1540483477 : Int32)) ^^^ (XT.ushr (((((b4 &&& (255 : Int32)) ||| ((b5 &&& (255 : Int32)) <<< ((8 : Int32) &&& 31))) ||| ((b6 &&& (255 : Int32)) <<< ((16 : Int32) &&& 31))) ||| ((b7 &&& (255 : Int32)) <<< ((24 : Int32) &&& 31))) * (1540483477 : Int32)) (24 : Int32))) * (1540483477 : Int32)))] d1_182 rfl ?_
              refine g_iloadN K 183 d1_183 rfl ?_
              refine g_iloadN K 184 d1_184 rfl ?_
              refine g_bipush K 185 (13 : Int32) d1_185 (by decide) ?_
              refine g_iushr K 187 d1_187 ?_
              refine g_ixor K 188 d1_188 ?_
              refine g_istoreN K 189 #[.val (.ref ar), .val (.int (9 : Int32)), .val (.int (8 : Int32)), .val (.int (((((((1405809769 : Int32) ^^^ (((((((b0 &&& (255 : Int32)) ||| ((b1 &&& (255 : Int32)) <<< ((8 : Int32) &&& 31))) ||| ((b2 &&& (255 : Int32)) <<< ((16 : Int32) &&& 31))) ||| ((b3 &&& (255 : Int32)) <<< ((24 : Int32) &&& 31))) * (1540483477 : Int32)) ^^^ (XT.ushr (((((b0 &&& (255 : Int32)) ||| ((b1 &&& (255 : Int32)) <<< ((8 : Int32) &&& 31))) ||| ((b2 &&& (255 : Int32)) <<< ((16 : Int32) &&& 31))) ||| ((b3 &&& (255 : Int32)) <<< ((24 : Int32) &&& 31))) * (1540483477 : Int32)) (24 : Int32))) * (1540483477 : Int32))) * (1540483477 : Int32)) ^^^ (((((((b4 &&& (255 : Int32)) ||| ((b5 &&& (255 : Int32)) <<< ((8 : Int32) &&& 31))) ||| ((b6 &&& (255 : Int32)) <<< ((16 : Int32) &&& 31))) ||| ((b7 &&& (255 : Int32)) <<< ((24 : Int32) &&& 31))) * (1540483477 : Int32)) ^^^ (XT.ushr (((((b4 &&& (255 : Int32)) ||| ((b5 &&& (255 : Int32)) <<< ((8 : Int32) &&& 31))) ||| ((b6 &&& (255 : Int32)) <<< ((16 : Int32) &&& 31))) ||| ((b7 &&& (255 : Int32)) <<< ((24 : Int32) &&& 31))) * (1540483477 : Int32)) (24 : Int32))) * (1540483477 : Int32))) ^^^ (b8 &&& (255 : Int32))) * (1540483477 : Int32)) ^^^ (XT.ushr ((((((1405809769 : Int32) ^^^ (((((((b0 &&& (255 : Int32)) ||| ((b1 &&& (255 : Int32)) <<< ((8 : Int32) &&& 31))) ||| ((b2 &&& (255 : Int32)) <<< ((16 : Int32) &&& 31))) ||| ((b3 &&& (255 : Int32)) <<< ((24 : Int32) &&& 31))) * (1540483477 : Int32)) ^^^ (XT.ushr (((((b0 &&& (255 : Int32)) ||| ((b1 &&& (255 : Int32)) <<< ((8 : Int32) &&& 31))) ||| ((b2 &&& (255 : Int32)) <<< ((16 : Int32) &&& 31))) ||| ((b3 &&& (255 : Int32)) <<< ((24 : Int32) &&& 31))) * (1540483477 : Int32)) (24 : Int32))) * (1540483477 : Int32))) * (1540483477 : Int32)) ^^^ (((((((b4 &&& (255 : Int32)) ||| ((b5 &&& (255 : Int32)) <<< ((8 : Int32) &&& 31))) ||| ((b6 &&& (255 : Int32)) <<< ((16 : Int32) &&& 31))) ||| ((b7 &&& (255 : Int32)) <<< ((24 : Int32) &&& 31))) * (1540483477 : Int32)) ^^^ (XT.ushr (((((b4 &&& (255 : Int32)) ||| ((b5 &&& (255 : Int32)) <<< ((8 : Int32) &&& 31))) ||| ((b6 &&& (255 : Int32)) <<< ((16 : Int32) &&& 31))) ||| ((b7 &&& (255 : Int32)) <<< ((24 : Int32) &&& 31))) * (1540483477 : Int32)) (24 : Int32))) * (1540483477 : Int32))) ^^^ (b8 &&& (255 : Int32))) * (1540483477 : Int32)) (13 : Int32)))), .val (.int (1 : Int32)), .val (.int (((((((b4 &&& (255 : Int32)) ||| ((b5 &&& (255 : Int32)) <<< ((8 : Int32) &&& 31))) ||| ((b6 &&& (255 : Int32)) <<< ((16 : Int32) &&& 31))) ||| ((b7 &&& (255 : Int32)) <<< ((24 : Int32) &&& 31))) * (1540483477 : Int32)) ^^^ (XT.ushr (((((b4 &&& (255 : Int32)) ||| ((b5 &&& (255 : Int32)) <<< ((8 : Int32) &&& 31))) ||| ((b6 &&& (255 : Int32)) <<< ((16 : Int32) &&& 31))) ||| ((b7 &&& (255 : Int32)) <<< ((24 : Int32) &&& 31))) * (1540483477 : Int32)) (24 : Int32))) * (1540483477 : Int32)))] d1_189 rfl ?_
              refine g_iloadN K 190 d1_190 rfl ?_
              refine g_ldc K 191 (v := (1540483477 : Int32)) d1_191 (tw hw 8 rfl) ?_
              refine g_imul K 193 d1_193 ?_
              refine g_istoreN K 194 #[.val (.ref ar), .val (.int (9 : Int32)), .val (.int (8 : Int32)), .val (.int ((((((((1405809769 : Int32) ^^^ (((((((b0 &&& (255 : Int32)) ||| ((b1 &&& (255 : Int32)) <<< ((8 : Int32) &&& 31))) ||| ((b2 &&& (255 : Int32)) <<< ((16 : Int32) &&& 31))) ||| ((b3 &&& (255 : Int32)) <<< ((24 : Int32) &&& 31))) * (1540483477 : Int32)) ^^^ (XT.ushr (((((b0 &&& (255 : Int32)) ||| ((b1 &&& (255 : Int32)) <<< ((8 : Int32) &&& 31))) ||| ((b2 &&& (255 : Int32)) <<< ((16 : Int32) &&& 31))) ||| ((b3 &&& (255 : Int32)) <<< ((24 : Int32) &&& 31))) * (1540483477 : Int32)) (24 : Int32))) * (1540483477 : Int32))) * (1540483477 : Int32)) ^^^ (((((((b4 &&& (255 : Int32)) ||| ((b5 &&& (255 : Int32)) <<< ((8 : Int32) &&& 31))) ||| ((b6 &&& (255 : Int32)) <<< ((16 : Int32) &&& 31))) ||| ((b7 &&& (255 : Int32)) <<< ((24 : Int32) &&& 31))) * (1540483477 : Int32)) ^^^ (XT.ushr (((((b4 &&& (255 : Int32)) ||| ((b5 &&& (255 : Int32)) <<< ((8 : Int32) &&& 31))) ||| ((b6 &&& (255 : Int32)) <<< ((16 : Int32) &&& 31))) ||| ((b7 &&& (255 : Int32)) <<< ((24 : Int32) &&& 31))) * (1540483477 : Int32)) (24 : Int32))) * (1540483477 : Int32))) ^^^ (b8 &&& (255 : Int32))) * (1540483477 : Int32)) ^^^ (XT.ushr ((((((1405809769 : Int32) ^^^ (((((((b0 &&& (255 : Int32)) ||| ((b1 &&& (255 : Int32)) <<< ((8 : Int32) &&& 31))) ||| ((b2 &&& (255 : Int32)) <<< ((16 : Int32) &&& 31))) ||| ((b3 &&& (255 : Int32)) <<< ((24 : Int32) &&& 31))) * (1540483477 : Int32)) ^^^ (XT.ushr (((((b0 &&& (255 : Int32)) ||| ((b1 &&& (255 : Int32)) <<< ((8 : Int32) &&& 31))) ||| ((b2 &&& (255 : Int32)) <<< ((16 : Int32) &&& 31))) ||| ((b3 &&& (255 : Int32)) <<< ((24 : Int32) &&& 31))) * (1540483477 : Int32)) (24 : Int32))) * (1540483477 : Int32))) * (1540483477 : Int32)) ^^^ (((((((b4 &&& (255 : Int32)) ||| ((b5 &&& (255 : Int32)) <<< ((8 : Int32) &&& 31))) ||| ((b6 &&& (255 : Int32)) <<< ((16 : Int32) &&& 31))) ||| ((b7 &&& (255 : Int32)) <<< ((24 : Int32) &&& 31))) * (1540483477 : Int32)) ^^^ (XT.ushr (((((b4 &&& (255 : Int32)) ||| ((b5 &&& (255 : Int32)) <<< ((8 : Int32) &&& 31))) ||| ((b6 &&& (255 : Int32)) <<< ((16 : Int32) &&& 31))) ||| ((b7 &&& (255 : Int32)) <<< ((24 : Int32) &&& 31))) * (1540483477 : Int32)) (24 : Int32))) * (1540483477 : Int32))) ^^^ (b8 &&& (255 : Int32))) * (1540483477 : Int32)) (13 : Int32))) * (1540483477 : Int32))), .val (.int (1 : Int32)), .val (.int (((((((b4 &&& (255 : Int32)) ||| ((b5 &&& (255 : Int32)) <<< ((8 : Int32) &&& 31))) ||| ((b6 &&& (255 : Int32)) <<< ((16 : Int32) &&& 31))) ||| ((b7 &&& (255 : Int32)) <<< ((24 : Int32) &&& 31))) * (1540483477 : Int32)) ^^^ (XT.ushr (((((b4 &&& (255 : Int32)) ||| ((b5 &&& (255 : Int32)) <<< ((8 : Int32) &&& 31))) ||| ((b6 &&& (255 : Int32)) <<< ((16 : Int32) &&& 31))) ||| ((b7 &&& (255 : Int32)) <<< ((24 : Int32) &&& 31))) * (1540483477 : Int32)) (24 : Int32))) * (1540483477 : Int32)))] d1_194 rfl ?_
              refine g_iloadN K 195 d1_195 rfl ?_
              refine g_iloadN K 196 d1_196 rfl ?_
              refine g_bipush K 197 (15 : Int32) d1_197 (by decide) ?_
              refine g_iushr K 199 d1_199 ?_
              refine g_ixor K 200 d1_200 ?_
              refine g_istoreN K 201 #[.val (.ref ar), .val (.int (9 : Int32)), .val (.int (8 : Int32)), .val (.int (((((((((1405809769 : Int32) ^^^ (((((((b0 &&& (255 : Int32)) ||| ((b1 &&& (255 : Int32)) <<< ((8 : Int32) &&& 31))) ||| ((b2 &&& (255 : Int32)) <<< ((16 : Int32) &&& 31))) ||| ((b3 &&& (255 : Int32)) <<< ((24 : Int32) &&& 31))) * (1540483477 : Int32)) ^^^ (XT.ushr (((((b0 &&& (255 : Int32)) ||| ((b1 &&& (255 : Int32)) <<< ((8 : Int32) &&& 31))) ||| ((b2 &&& (255 : Int32)) <<< ((16 : Int32) &&& 31))) ||| ((b3 &&& (255 : Int32)) <<< ((24 : Int32) &&& 31))) * (1540483477 : Int32)) (24 : Int32))) * (1540483477 : Int32))) * (1540483477 : Int32)) ^^^ (((((((b4 &&& (255 : Int32)) ||| ((b5 &&& (255 : Int32)) <<< ((8 : Int32) &&& 31))) ||| ((b6 &&& (255 : Int32)) <<< ((16 : Int32) &&& 31))) ||| ((b7 &&& (255 : Int32)) <<< ((24 : Int32) &&& 31))) * (1540483477 : Int32)) ^^^ (XT.ushr (((((b4 &&& (255 : Int32)) ||| ((b5 &&& (255 : Int32)) <<< ((8 : Int32) &&& 31))) ||| ((b6 &&& (255 : Int32)) <<< ((16 : Int32) &&& 31))) ||| ((b7 &&& (255 : Int32)) <<< ((24 : Int32) &&& 31))) * (1540483477 : Int32)) (24 : Int32))) * (1540483477 : Int32))) ^^^ (b8 &&& (255 : Int32))) * (1540483477 : Int32)) ^^^ (XT.ushr ((((((1405809769 : Int32) ^^^ (((((((b0 &&& (255 : Int32)) ||| ((b1 &&& (255 : Int32)) <<< ((8 : Int32) &&& 31))) ||| ((b2 &&& (255 : Int32)) <<< ((16 : Int32) &&& 31))) ||| ((b3 &&& (255 : Int32)) <<< ((24 : Int32) &&& 31))) * (1540483477 : Int32)) ^^^ (XT.ushr (((((b0 &&& (255 : Int32)) ||| ((b1 &&& (255 : Int32)) <<< ((8 : Int32) &&& 31))) ||| ((b2 &&& (255 : Int32)) <<< ((16 : Int32) &&& 31))) ||| ((b3 &&& (255 : Int32)) <<< ((24 : Int32) &&& 31))) * (1540483477 : Int32)) (24 : Int32))) * (1540483477 : Int32))) * (1540483477 : Int32)) ^^^ (((((((b4 &&& (255 : Int32)) ||| ((b5 &&& (255 : Int32)) <<< ((8 : Int32) &&& 31))) ||| ((b6 &&& (255 : Int32)) <<< ((16 : Int32) &&& 31))) ||| ((b7 &&& (255 : Int32)) <<< ((24 : Int32) &&& 31))) * (1540483477 : Int32)) ^^^ (XT.ushr (((((b4 &&& (255 : Int32)) ||| ((b5 &&& (255 : Int32)) <<< ((8 : Int32) &&& 31))) ||| ((b6 &&& (255 : Int32)) <<< ((16 : Int32) &&& 31))) ||| ((b7 &&& (255 : Int32)) <<< ((24 : Int32) &&& 31))) * (1540483477 : Int32)) (24 : Int32))) * (1540483477 : Int32))) ^^^ (b8 &&& (255 : Int32))) * (1540483477 : Int32)) (13 : Int32))) * (1540483477 : Int32)) ^^^ (XT.ushr ((((((((1405809769 : Int32) ^^^ (((((((b0 &&& (255 : Int32)) ||| ((b1 &&& (255 : Int32)) <<< ((8 : Int32) &&& 31))) ||| ((b2 &&& (255 : Int32)) <<< ((16 : Int32) &&& 31))) ||| ((b3 &&& (255 : Int32)) <<< ((24 : Int32) &&& 31))) * (1540483477 : Int32)) ^^^ (XT.ushr (((((b0 &&& (255 : Int32)) ||| ((b1 &&& (255 : Int32)) <<< ((8 : Int32) &&& 31))) ||| ((b2 &&& (255 : Int32)) <<< ((16 : Int32) &&& 31))) ||| ((b3 &&& (255 : Int32)) <<< ((24 : Int32) &&& 31))) * (1540483477 : Int32)) (24 : Int32))) * (1540483477 : Int32))) * (1540483477 : Int32)) ^^^ (((((((b4 &&& (255 : Int32)) ||| ((b5 &&& (255 : Int32)) <<< ((8 : Int32) &&& 31))) ||| ((b6 &&& (255 : Int32)) <<< ((16 : Int32) &&& 31))) ||| ((b7 &&& (255 : Int32)) <<< ((24 : Int32) &&& 31))) * (1540483477 : Int32)) ^^^ (XT.ushr (((((b4 &&& (255 : Int32)) ||| ((b5 &&& (255 : Int32)) <<< ((8 : Int32) &&& 31))) ||| ((b6 &&& (255 : Int32)) <<< ((16 : Int32) &&& 31))) ||| ((b7 &&& (255 : Int32)) <<< ((24 : Int32) &&& 31))) * (1540483477 : Int32)) (24 : Int32))) * (1540483477 : Int32))) ^^^ (b8 &&& (255 : Int32))) * (1540483477 : Int32)) ^^^ (XT.ushr ((((((1405809769 : Int32) ^^^ (((((((b0 &&& (255 : Int32)) ||| ((b1 &&& (255 : Int32)) <<< ((8 : Int32) &&& 31))) ||| ((b2 &&& (255 : Int32)) <<< ((16 : Int32) &&& 31))) ||| ((b3 &&& (255 : Int32)) <<< ((24 : Int32) &&& 31))) * (1540483477 : Int32)) ^^^ (XT.ushr (((((b0 &&& (255 : Int32)) ||| ((b1 &&& (255 : Int32)) <<< ((8 : Int32) &&& 31))) ||| ((b2 &&& (255 : Int32)) <<< ((16 : Int32) &&& 31))) ||| ((b3 &&& (255 : Int32)) <<< ((24 : Int32) &&& 31))) * (1540483477 : Int32)) (24 : Int32))) * (1540483477 : Int32))) * (1540483477 : Int32)) ^^^ (((((((b4 &&& (255 : Int32)) ||| ((b5 &&& (255 : Int32)) <<< ((8 : Int32) &&& 31))) ||| ((b6 &&& (255 : Int32)) <<< ((16 : Int32) &&& 31))) ||| ((b7 &&& (255 : Int32)) <<< ((24 : Int32) &&& 31))) * (1540483477 : Int32)) ^^^ (XT.ushr (((((b4 &&& (255 : Int32)) ||| ((b5 &&& (255 : Int32)) <<< ((8 : Int32) &&& 31))) ||| ((b6 &&& (255 : Int32)) <<< ((16 : Int32) &&& 31))) ||| ((b7 &&& (255 : Int32)) <<< ((24 : Int32) &&& 31))) * (1540483477 : Int32)) (24 : Int32))) * (1540483477 : Int32))) ^^^ (b8 &&& (255 : Int32))) * (1540483477 : Int32)) (13 : Int32))) * (1540483477 : Int32)) (15 : Int32)))), .val (.int (1 : Int32)), .val (.int (((((((b4 &&& (255 : Int32)) ||| ((b5 &&& (255 : Int32)) <<< ((8 : Int32) &&& 31))) ||| ((b6 &&& (255 : Int32)) <<< ((16 : Int32) &&& 31))) ||| ((b7 &&& (255 : Int32)) <<< ((24 : Int32) &&& 31))) * (1540483477 : Int32)) ^^^ (XT.ushr (((((b4 &&& (255 : Int32)) ||| ((b5 &&& (255 : Int32)) <<< ((8 : Int32) &&& 31))) ||| ((b6 &&& (255 : Int32)) <<< ((16 : Int32) &&& 31))) ||| ((b7 &&& (255 : Int32)) <<< ((24 : Int32) &&& 31))) * (1540483477 : Int32)) (24 : Int32))) * (1540483477 : Int32)))] d1_201 rfl ?_
              refine g_iloadN K 202 d1_202 rfl ?_
              refine g_ireturn K 203 d1_203 rfl (by decide) (by decide) ?_
              rw [hQ]
              refine ⟨?_, rfl⟩
              show some (Value.int _) = some (Value.int (f_mur9 b0 b1 b2 b3 b4 b5 b6 b7 b8))
              unfold f_mur9
              rfl
          · intro c5
            exact absurd c5 (by decide)
        · intro c4
          exact absurd c4 (by decide)
      · intro c3
        exact absurd c3 (by decide)
def f_mur10 (b0 : Int32) (b1 : Int32) (b2 : Int32) (b3 : Int32) (b4 : Int32) (b5 : Int32) (b6 : Int32) (b7 : Int32) (b8 : Int32) (b9 : Int32) : Int32 := ((((((((((-1348674050 : Int32) ^^^ (((((((b0 &&& (255 : Int32)) ||| ((b1 &&& (255 : Int32)) <<< ((8 : Int32) &&& 31))) ||| ((b2 &&& (255 : Int32)) <<< ((16 : Int32) &&& 31))) ||| ((b3 &&& (255 : Int32)) <<< ((24 : Int32) &&& 31))) * (1540483477 : Int32)) ^^^ (XT.ushr (((((b0 &&& (255 : Int32)) ||| ((b1 &&& (255 : Int32)) <<< ((8 : Int32) &&& 31))) ||| ((b2 &&& (255 : Int32)) <<< ((16 : Int32) &&& 31))) ||| ((b3 &&& (255 : Int32)) <<< ((24 : Int32) &&& 31))) * (1540483477 : Int32)) (24 : Int32))) * (1540483477 : Int32))) * (1540483477 : Int32)) ^^^ (((((((b4 &&& (255 : Int32)) ||| ((b5 &&& (255 : Int32)) <<< ((8 : Int32) &&& 31))) ||| ((b6 &&& (255 : Int32)) <<< ((16 : Int32) &&& 31))) ||| ((b7 &&& (255 : Int32)) <<< ((24 : Int32) &&& 31))) * (1540483477 : Int32)) ^^^ (XT.ushr (((((b4 &&& (255 : Int32)) ||| ((b5 &&& (255 : Int32)) <<< ((8 : Int32) &&& 31))) ||| ((b6 &&& (255 : Int32)) <<< ((16 : Int32) &&& 31))) ||| ((b7 &&& (255 : Int32)) <<< ((24 : Int32) &&& 31))) * (1540483477 : Int32)) (24 : Int32))) * (1540483477 : Int32))) ^^^ ((b9 &&& (255 : Int32)) <<< ((8 : Int32) &&& 31))) ^^^ (b8 &&& (255 : Int32))) * (1540483477 : Int32)) ^^^ (XT.ushr (((((((-1348674050 : Int32) ^^^ (((((((b0 &&& (255 : Int32)) ||| ((b1 &&& (255 : Int32)) <<< ((8 : Int32) &&& 31))) ||| ((b2 &&& (255 : Int32)) <<< ((16 : Int32) &&& 31))) ||| ((b3 &&& (255 : Int32)) <<< ((24 : Int32) &&& 31))) * (1540483477 : Int32)) ^^^ (XT.ushr (((((b0 &&& (255 : Int32)) ||| ((b1 &&& (255 : Int32)) <<< ((8 : Int32) &&& 31))) ||| ((b2 &&& (255 : Int32)) <<< ((16 : Int32) &&& 31))) ||| ((b3 &&& (255 : Int32)) <<< ((24 : Int32) &&& 31))) * (1540483477 : Int32)) (24 : Int32))) * (1540483477 : Int32))) * (1540483477 : Int32)) ^^^ (((((((b4 &&& (255 : Int32)) ||| ((b5 &&& (255 : Int32)) <<< ((8 : Int32) &&& 31))) ||| ((b6 &&& (255 : Int32)) <<< ((16 : Int32) &&& 31))) ||| ((b7 &&& (255 : Int32)) <<< ((24 : Int32) &&& 31))) * (1540483477 : Int32)) ^^^ (XT.ushr (((((b4 &&& (255 : Int32)) ||| ((b5 &&& (255 : Int32)) <<< ((8 : Int32) &&& 31))) ||| ((b6 &&& (255 : Int32)) <<< ((16 : Int32) &&& 31))) ||| ((b7 &&& (255 : Int32)) <<< ((24 : Int32) &&& 31))) * (1540483477 : Int32)) (24 : Int32))) * (1540483477 : Int32))) ^^^ ((b9 &&& (255 : Int32)) <<< ((8 : Int32) &&& 31))) ^^^ (b8 &&& (255 : Int32))) * (1540483477 : Int32)) (13 : Int32))) * (1540483477 : Int32)) ^^^ (XT.ushr (((((((((-1348674050 : Int32) ^^^ (((((((b0 &&& (255 : Int32)) ||| ((b1 &&& (255 : Int32)) <<< ((8 : Int32) &&& 31))) ||| ((b2 &&& (255 : Int32)) <<< ((16 : Int32) &&& 31))) ||| ((b3 &&& (255 : Int32)) <<< ((24 : Int32) &&& 31))) * (1540483477 : Int32)) ^^^ (XT.ushr (((((b0 &&& (255 : Int32)) ||| ((b1 &&& (255 : Int32)) <<< ((8 : Int32) &&& 31))) ||| ((b2 &&& (255 : Int32)) <<< ((16 : Int32) &&& 31))) ||| ((b3 &&& (255 : Int32)) <<< ((24 : Int32) &&& 31))) * (1540483477 : Int32)) (24 : Int32))) * (1540483477 : Int32))) * (1540483477 : Int32)) ^^^ (((((((b4 &&& (255 : Int32)) ||| ((b5 &&& (255 : Int32)) <<< ((8 : Int32) &&& 31))) ||| ((b6 &&& (255 : Int32)) <<< ((16 : Int32) &&& 31))) ||| ((b7 &&& (255 : Int32)) <<< ((24 : Int32) &&& 31))) * (1540483477 : Int32)) ^^^ (XT.ushr (((((b4 &&& (255 : Int32)) ||| ((b5 &&& (255 : Int32)) <<< ((8 : Int32) &&& 31))) ||| ((b6 &&& (255 : Int32)) <<< ((16 : Int32) &&& 31))) ||| ((b7 &&& (255 : Int32)) <<< ((24 : Int32) &&& 31))) * (1540483477 : Int32)) (24 : Int32))) * (1540483477 : Int32))) ^^^ ((b9 &&& (255 : Int32)) <<< ((8 : Int32) &&& 31))) ^^^ (b8 &&& (255 : Int32))) * (1540483477 : Int32)) ^^^ (XT.ushr (((((((-1348674050 : Int32) ^^^ (((((((b0 &&& (255 : Int32)) ||| ((b1 &&& (255 : Int32)) <<< ((8 : Int32) &&& 31))) ||| ((b2 &&& (255 : Int32)) <<< ((16 : Int32) &&& 31))) ||| ((b3 &&& (255 : Int32)) <<< ((24 : Int32) &&& 31))) * (1540483477 : Int32)) ^^^ (XT.ushr (((((b0 &&& (255 : Int32)) ||| ((b1 &&& (255 : Int32)) <<< ((8 : Int32) &&& 31))) ||| ((b2 &&& (255 : Int32)) <<< ((16 : Int32) &&& 31))) ||| ((b3 &&& (255 : Int32)) <<< ((24 : Int32) &&& 31))) * (1540483477 : Int32)) (24 : Int32))) * (1540483477 : Int32))) * (1540483477 : Int32)) ^^^ (((((((b4 &&& (255 : Int32)) ||| ((b5 &&& (255 : Int32)) <<< ((8 : Int32) &&& 31))) ||| ((b6 &&& (255 : Int32)) <<< ((16 : Int32) &&& 31))) ||| ((b7 &&& (255 : Int32)) <<< ((24 : Int32) &&& 31))) * (1540483477 : Int32)) ^^^ (XT.ushr (((((b4 &&& (255 : Int32)) ||| ((b5 &&& (255 : Int32)) <<< ((8 : Int32) &&& 31))) ||| ((b6 &&& (255 : Int32)) <<< ((16 : Int32) &&& 31))) ||| ((b7 &&& (255 : Int32)) <<< ((24 : Int32) &&& 31))) * (1540483477 : Int32)) (24 : Int32))) * (1540483477 : Int32))) ^^^ ((b9 &&& (255 : Int32)) <<< ((8 : Int32) &&& 31))) ^^^ (b8 &&& (255 : Int32))) * (1540483477 : Int32)) (13 : Int32))) * (1540483477 : Int32)) (15 : Int32)))
set_option maxRecDepth 65536 in
set_option maxHeartbeats 40000000 in
theorem rm_mur10 (l : Launch) (Z : State) (a0 : Array Value) (hw : ∀ d ∈ tables_1, d.before a0 Z = true) (ar : Addr) (h0 : Heap) (n0 : Nat) (Z0 : n0 ≤ h0.size) (b0 : Int32) (b1 : Int32) (b2 : Int32) (b3 : Int32) (b4 : Int32) (b5 : Int32) (b6 : Int32) (b7 : Int32) (b8 : Int32) (b9 : Int32) (A0 : IA Z h0 ar .byte [b0, b1, b2, b3, b4, b5, b6, b7, b8, b9]) :
    Meets l (⟨"com/example/batchwright/batchwright/producer/Partitioner", "murmur2", "([B)I"⟩ : MethodName) prog_29_method_3_code 6 (some .int) ({ frames := 0, cells := 0, slots := 0, locals := 0 } : Room) Z #[(.ref ar)] h0 n0 (fun v h => v = some (Value.int (f_mur10 b0 b1 b2 b3 b4 b5 b6 b7 b8 b9)) ∧ h = h0) := by
  refine meets_of (plainFor_of_name pn0) (Ls := #[.val (.ref ar), .unset, .unset, .unset, .unset, .unset]) (fun m => by first | (simp [entryFrame, mkF, argsToLocals, Value.category]; done) | rfl) ?_
  intro p e s m below meth c K
  replace K : Kx Z "com/example/batchwright/batchwright/producer/Partitioner" "murmur2" prog_29_method_3_code 6 (some .int) p s m meth c := K
  obtain ⟨Q, hQ⟩ : ∃ Q : Option Value → Heap → Prop, Q = (fun v h => v = some (Value.int (f_mur10 b0 b1 b2 b3 b4 b5 b6 b7 b8 b9)) ∧ h = h0) := ⟨_, rfl⟩
  rw [← hQ]
  refine g_aloadN K 0 d1_0 rfl rfl ?_
  refine g_alen K 1 (10 : Int32) d1_1 A0 (show (10 : Nat).toInt32 = (10 : Int32) from by decide) ?_
  refine g_istoreN K 2 #[.val (.ref ar), .val (.int (10 : Int32)), .unset, .unset, .unset, .unset] d1_2 rfl ?_
  refine g_iloadN K 3 d1_3 rfl ?_
  refine g_iloadN K 4 d1_4 rfl ?_
  refine g_iconst K 5 (4 : Int32) d1_5 (by decide) ?_
  refine g_irem K 6 d1_6 (by decide) ?_
  rw [show ((10 : Int32) % (4 : Int32)) = (2 : Int32) from by decide]
  refine g_isub K 7 d1_7 ?_
  rw [show ((10 : Int32) - (2 : Int32)) = (8 : Int32) from by decide]
  refine g_istoreN K 8 #[.val (.ref ar), .val (.int (10 : Int32)), .val (.int (8 : Int32)), .unset, .unset, .unset] d1_8 rfl ?_
  refine g_ldc K 9 (v := (-1756908916 : Int32)) d1_9 (tw hw 7 rfl) ?_
  refine g_iloadN K 11 d1_11 rfl ?_
  refine g_ixor K 12 d1_12 ?_
  rw [show ((-1756908916 : Int32) ^^^ (10 : Int32)) = (-1756908922 : Int32) from by decide]
  refine g_istoreN K 13 #[.val (.ref ar), .val (.int (10 : Int32)), .val (.int (8 : Int32)), .val (.int (-1756908922 : Int32)), .unset, .unset] d1_13 rfl ?_
  refine g_iconst K 14 (0 : Int32) d1_14 (by decide) ?_
  refine g_istore K 15 #[.val (.ref ar), .val (.int (10 : Int32)), .val (.int (8 : Int32)), .val (.int (-1756908922 : Int32)), .val (.int (0 : Int32)), .unset] d1_15 rfl ?_
  refine g_iload K 17 d1_17 rfl ?_
  refine g_iloadN K 19 d1_19 rfl ?_
  refine g_ii_ge K 20 115 d1_20 (by decide) (by decide) ?_ ?_
  · intro c1
    exact absurd c1 (by decide)
  · intro c1
    refine g_aloadN K 23 d1_23 rfl rfl ?_
    refine g_iload K 24 d1_24 rfl ?_
    refine g_baload K 26 b0 d1_26 A0 (by decide) (by rw [show (0 : Int32).toNatClampNeg = 0 from by decide]; rfl) ?_
    refine g_sipush K 27 (255 : Int32) d1_27 (by decide) ?_
    refine g_iand K 30 d1_30 ?_
    refine g_aloadN K 31 d1_31 rfl rfl ?_
    refine g_iload K 32 d1_32 rfl ?_
    refine g_iconst K 34 (1 : Int32) d1_34 (by decide) ?_
    refine g_iadd K 35 d1_35 ?_
    rw [show ((0 : Int32) + (1 : Int32)) = (1 : Int32) from by decide]
    refine g_baload K 36 b1 d1_36 A0 (by decide) (by rw [show (1 : Int32).toNatClampNeg = 1 from by decide]; rfl) ?_
    refine g_sipush K 37 (255 : Int32) d1_37 (by decide) ?_
    refine g_iand K 40 d1_40 ?_
    refine g_bipush K 41 (8 : Int32) d1_41 (by decide) ?_
    refine g_ishl K 43 d1_43 ?_
    refine g_ior K 44 d1_44 ?_
    refine g_aloadN K 45 d1_45 rfl rfl ?_
    refine g_iload K 46 d1_46 rfl ?_
    refine g_iconst K 48 (2 : Int32) d1_48 (by decide) ?_
    refine g_iadd K 49 d1_49 ?_
    rw [show ((0 : Int32) + (2 : Int32)) = (2 : Int32) from by decide]
    refine g_baload K 50 b2 d1_50 A0 (by decide) (by rw [show (2 : Int32).toNatClampNeg = 2 from by decide]; rfl) ?_
    refine g_sipush K 51 (255 : Int32) d1_51 (by decide) ?_
    refine g_iand K 54 d1_54 ?_
    refine g_bipush K 55 (16 : Int32) d1_55 (by decide) ?_
    refine g_ishl K 57 d1_57 ?_
    refine g_ior K 58 d1_58 ?_
    refine g_aloadN K 59 d1_59 rfl rfl ?_
    refine g_iload K 60 d1_60 rfl ?_
    refine g_iconst K 62 (3 : Int32) d1_62 (by decide) ?_
    refine g_iadd K 63 d1_63 ?_
    rw [show ((0 : Int32) + (3 : Int32)) = (3 : Int32) from by decide]
    refine g_baload K 64 b3 d1_64 A0 (by decide) (by rw [show (3 : Int32).toNatClampNeg = 3 from by decide]; rfl) ?_
    refine g_sipush K 65 (255 : Int32) d1_65 (by decide) ?_
    refine g_iand K 68 d1_68 ?_
    refine g_bipush K 69 (24 : Int32) d1_69 (by decide) ?_
    refine g_ishl K 71 d1_71 ?_
    refine g_ior K 72 d1_72 ?_
    refine g_istore K 73 #[.val (.ref ar), .val (.int (10 : Int32)), .val (.int (8 : Int32)), .val (.int (-1756908922 : Int32)), .val (.int (0 : Int32)), .val (.int ((((b0 &&& (255 : Int32)) ||| ((b1 &&& (255 : Int32)) <<< ((8 : Int32) &&& 31))) ||| ((b2 &&& (255 : Int32)) <<< ((16 : Int32) &&& 31))) ||| ((b3 &&& (255 : Int32)) <<< ((24 : Int32) &&& 31))))] d1_73 rfl ?_
    refine g_iload K 75 d1_75 rfl ?_
    refine g_ldc K 77 (v := (1540483477 : Int32)) d1_77 (tw hw 8 rfl) ?_
    refine g_imul K 79 d1_79 ?_
    refine g_istore K 80 #[.val (.ref ar), .val (.int (10 : Int32)), .val (.int (8 : Int32)), .val (.int (-1756908922 : Int32)), .val (.int (0 : Int32)), .val (.int (((((b0 &&& (255 : Int32)) ||| ((b1 &&& (255 : Int32)) <<< ((8 : Int32) &&& 31))) ||| ((b2 &&& (255 : Int32)) <<< ((16 : Int32) &&& 31))) ||| ((b3 &&& (255 : Int32)) <<< ((24 : Int32) &&& 31))) * (1540483477 : Int32)))] d1_80 rfl ?_
    refine g_iload K 82 d1_82 rfl ?_
    refine g_iload K 84 d1_84 rfl ?_
    refine g_bipush K 86 (24 : Int32) d1_86 (by decide) ?_
    refine g_iushr K 88 d1_88 ?_
    refine g_ixor K 89 d1_89 ?_
    refine g_istore K 90 #[.val (.ref ar), .val (.int (10 : Int32)), .val (.int (8 : Int32)), .val (.int (-1756908922 : Int32)), .val (.int (0 : Int32)), .val (.int ((((((b0 &&& (255 : Int32)) ||| ((b1 &&& (255 : Int32)) <<< ((8 : Int32) &&& 31))) ||| ((b2 &&& (255 : Int32)) <<< ((16 : Int32) &&& 31))) ||| ((b3 &&& (255 : Int32)) <<< ((24 : Int32) &&& 31))) * (1540483477 : Int32)) ^^^ (XT.ushr (((((b0 &&& (255 : Int32)) ||| ((b1 &&& (255 : Int32)) <<< ((8 : Int32) &&& 31))) ||| ((b2 &&& (255 : Int32)) <<< ((16 : Int32) &&& 31))) ||| ((b3 &&& (255 : Int32)) <<< ((24 : Int32) &&& 31))) * (1540483477 : Int32)) (24 : Int32))))] d1_90 rfl ?_
    refine g_iload K 92 d1_92 rfl ?_
    refine g_ldc K 94 (v := (1540483477 : Int32)) d1_94 (tw hw 8 rfl) ?_
    refine g_imul K 96 d1_96 ?_
    refine g_istore K 97 #[.val (.ref ar), .val (.int (10 : Int32)), .val (.int (8 : Int32)), .val (.int (-1756908922 : Int32)), .val (.int (0 : Int32)), .val (.int (((((((b0 &&& (255 : Int32)) ||| ((b1 &&& (255 : Int32)) <<< ((8 : Int32) &&& 31))) ||| ((b2 &&& (255 : Int32)) <<< ((16 : Int32) &&& 31))) ||| ((b3 &&& (255 : Int32)) <<< ((24 : Int32) &&& 31))) * (1540483477 : Int32)) ^^^ (XT.ushr (((((b0 &&& (255 : Int32)) ||| ((b1 &&& (255 : Int32)) <<< ((8 : Int32) &&& 31))) ||| ((b2 &&& (255 : Int32)) <<< ((16 : Int32) &&& 31))) ||| ((b3 &&& (255 : Int32)) <<< ((24 : Int32) &&& 31))) * (1540483477 : Int32)) (24 : Int32))) * (1540483477 : Int32)))] d1_97 rfl ?_
    refine g_iloadN K 99 d1_99 rfl ?_
    refine g_ldc K 100 (v := (1540483477 : Int32)) d1_100 (tw hw 8 rfl) ?_
    refine g_imul K 102 d1_102 ?_
    rw [show ((-1756908922 : Int32) * (1540483477 : Int32)) = (-1348674050 : Int32) from by decide]
    refine g_istoreN K 103 #[.val (.ref ar), .val (.int (10 : Int32)), .val (.int (8 : Int32)), .val (.int (-1348674050 : Int32)), .val (.int (0 : Int32)), .val (.int (((((((b0 &&& (255 : Int32)) ||| ((b1 &&& (255 : Int32)) <<< ((8 : Int32) &&& 31))) ||| ((b2 &&& (255 : Int32)) <<< ((16 : Int32) &&& 31))) ||| ((b3 &&& (255 : Int32)) <<< ((24 : Int32) &&& 31))) * (1540483477 : Int32)) ^^^ (XT.ushr (((((b0 &&& (255 : Int32)) ||| ((b1 &&& (255 : Int32)) <<< ((8 : Int32) &&& 31))) ||| ((b2 &&& (255 : Int32)) <<< ((16 : Int32) &&& 31))) ||| ((b3 &&& (255 : Int32)) <<< ((24 : Int32) &&& 31))) * (1540483477 : Int32)) (24 : Int32))) * (1540483477 : Int32)))] d1_103 rfl ?_
    refine g_iloadN K 104 d1_104 rfl ?_
    refine g_iload K 105 d1_105 rfl ?_
    refine g_ixor K 107 d1_107 ?_
    refine g_istoreN K 108 #[.val (.ref ar), .val (.int (10 : Int32)), .val (.int (8 : Int32)), .val (.int ((-1348674050 : Int32) ^^^ (((((((b0 &&& (255 : Int32)) ||| ((b1 &&& (255 : Int32)) <<< ((8 : Int32) &&& 31))) ||| ((b2 &&& (255 : Int32)) <<< ((16 : Int32) &&& 31))) ||| ((b3 &&& (255 : Int32)) <<< ((24 : Int32) &&& 31))) * (1540483477 : Int32)) ^^^ (XT.ushr (((((b0 &&& (255 : Int32)) ||| ((b1 &&& (255 : Int32)) <<< ((8 : Int32) &&& 31))) ||| ((b2 &&& (255 : Int32)) <<< ((16 : Int32) &&& 31))) ||| ((b3 &&& (255 : Int32)) <<< ((24 : Int32) &&& 31))) * (1540483477 : Int32)) (24 : Int32))) * (1540483477 : Int32)))), .val (.int (0 : Int32)), .val (.int (((((((b0 &&& (255 : Int32)) ||| ((b1 &&& (255 : Int32)) <<< ((8 : Int32) &&& 31))) ||| ((b2 &&& (255 : Int32)) <<< ((16 : Int32) &&& 31))) ||| ((b3 &&& (255 : Int32)) <<< ((24 : Int32) &&& 31))) * (1540483477 : Int32)) ^^^ (XT.ushr (((((b0 &&& (255 : Int32)) ||| ((b1 &&& (255 : Int32)) <<< ((8 : Int32) &&& 31))) ||| ((b2 &&& (255 : Int32)) <<< ((16 : Int32) &&& 31))) ||| ((b3 &&& (255 : Int32)) <<< ((24 : Int32) &&& 31))) * (1540483477 : Int32)) (24 : Int32))) * (1540483477 : Int32)))] d1_108 rfl ?_
    refine g_iinc K 109 (4 : Int32) #[.val (.ref ar), .val (.int (10 : Int32)), .val (.int (8 : Int32)), .val (.int ((-1348674050 : Int32) ^^^ (((((((b0 &&& (255 : Int32)) ||| ((b1 &&& (255 : Int32)) <<< ((8 : Int32) &&& 31))) ||| ((b2 &&& (255 : Int32)) <<< ((16 : Int32) &&& 31))) ||| ((b3 &&& (255 : Int32)) <<< ((24 : Int32) &&& 31))) * (1540483477 : Int32)) ^^^ (XT.ushr (((((b0 &&& (255 : Int32)) ||| ((b1 &&& (255 : Int32)) <<< ((8 : Int32) &&& 31))) ||| ((b2 &&& (255 : Int32)) <<< ((16 : Int32) &&& 31))) ||| ((b3 &&& (255 : Int32)) <<< ((24 : Int32) &&& 31))) * (1540483477 : Int32)) (24 : Int32))) * (1540483477 : Int32)))), .val (.int ((0 : Int32) + (4 : Int32))), .val (.int (((((((b0 &&& (255 : Int32)) ||| ((b1 &&& (255 : Int32)) <<< ((8 : Int32) &&& 31))) ||| ((b2 &&& (255 : Int32)) <<< ((16 : Int32) &&& 31))) ||| ((b3 &&& (255 : Int32)) <<< ((24 : Int32) &&& 31))) * (1540483477 : Int32)) ^^^ (XT.ushr (((((b0 &&& (255 : Int32)) ||| ((b1 &&& (255 : Int32)) <<< ((8 : Int32) &&& 31))) ||| ((b2 &&& (255 : Int32)) <<< ((16 : Int32) &&& 31))) ||| ((b3 &&& (255 : Int32)) <<< ((24 : Int32) &&& 31))) * (1540483477 : Int32)) (24 : Int32))) * (1540483477 : Int32)))] d1_109 (by decide) rfl rfl ?_
    rw [show ((0 : Int32) + (4 : Int32)) = (4 : Int32) from by decide]
    refine g_goto K 112 17 d1_112 (by decide) (by decide) ?_
    refine g_iload K 17 d1_17 rfl ?_
    refine g_iloadN K 19 d1_19 rfl ?_
    refine g_ii_ge K 20 115 d1_20 (by decide) (by decide) ?_ ?_
    · intro c2
      exact absurd c2 (by decide)
    · intro c2
      refine g_aloadN K 23 d1_23 rfl rfl ?_
      refine g_iload K 24 d1_24 rfl ?_
      refine g_baload K 26 b4 d1_26 A0 (by decide) (by rw [show (4 : Int32).toNatClampNeg = 4 from by decide]; rfl) ?_
      refine g_sipush K 27 (255 : Int32) d1_27 (by decide) ?_
      refine g_iand K 30 d1_30 ?_
      refine g_aloadN K 31 d1_31 rfl rfl ?_
      refine g_iload K 32 d1_32 rfl ?_
      refine g_iconst K 34 (1 : Int32) d1_34 (by decide) ?_
      refine g_iadd K 35 d1_35 ?_
      rw [show ((4 : Int32) + (1 : Int32)) = (5 : Int32) from by decide]
      refine g_baload K 36 b5 d1_36 A0 (by decide) (by rw [show (5 : Int32).toNatClampNeg = 5 from by decide]; rfl) ?_
      refine g_sipush K 37 (255 : Int32) d1_37 (by decide) ?_
      refine g_iand K 40 d1_40 ?_
      refine g_bipush K 41 (8 : Int32) d1_41 (by decide) ?_
      refine g_ishl K 43 d1_43 ?_
      refine g_ior K 44 d1_44 ?_
      refine g_aloadN K 45 d1_45 rfl rfl ?_
      refine g_iload K 46 d1_46 rfl ?_
      refine g_iconst K 48 (2 : Int32) d1_48 (by decide) ?_
      refine g_iadd K 49 d1_49 ?_
      rw [show ((4 : Int32) + (2 : Int32)) = (6 : Int32) from by decide]
      refine g_baload K 50 b6 d1_50 A0 (by decide) (by rw [show (6 : Int32).toNatClampNeg = 6 from by decide]; rfl) ?_
      refine g_sipush K 51 (255 : Int32) d1_51 (by decide) ?_
      refine g_iand K 54 d1_54 ?_
      refine g_bipush K 55 (16 : Int32) d1_55 (by decide) ?_
      refine g_ishl K 57 d1_57 ?_
      refine g_ior K 58 d1_58 ?_
      refine g_aloadN K 59 d1_59 rfl rfl ?_
      refine g_iload K 60 d1_60 rfl ?_
      refine g_iconst K 62 (3 : Int32) d1_62 (by decide) ?_
      refine g_iadd K 63 d1_63 ?_
      rw [show ((4 : Int32) + (3 : Int32)) = (7 : Int32) from by decide]
      refine g_baload K 64 b7 d1_64 A0 (by decide) (by rw [show (7 : Int32).toNatClampNeg = 7 from by decide]; rfl) ?_
      refine g_sipush K 65 (255 : Int32) d1_65 (by decide) ?_
      refine g_iand K 68 d1_68 ?_
      refine g_bipush K 69 (24 : Int32) d1_69 (by decide) ?_
      refine g_ishl K 71 d1_71 ?_
      refine g_ior K 72 d1_72 ?_
      refine g_istore K 73 #[.val (.ref ar), .val (.int (10 : Int32)), .val (.int (8 : Int32)), .val (.int ((-1348674050 : Int32) ^^^ (((((((b0 &&& (255 : Int32)) ||| ((b1 &&& (255 : Int32)) <<< ((8 : Int32) &&& 31))) ||| ((b2 &&& (255 : Int32)) <<< ((16 : Int32) &&& 31))) ||| ((b3 &&& (255 : Int32)) <<< ((24 : Int32) &&& 31))) * (1540483477 : Int32)) ^^^ (XT.ushr (((((b0 &&& (255 : Int32)) ||| ((b1 &&& (255 : Int32)) <<< ((8 : Int32) &&& 31))) ||| ((b2 &&& (255 : Int32)) <<< ((16 : Int32) &&& 31))) ||| ((b3 &&& (255 : Int32)) <<< ((24 : Int32) &&& 31))) * (1540483477 : Int32)) (24 : Int32))) * (1540483477 : Int32)))), .val (.int (4 : Int32)), .val (.int ((((b4 &&& (255 : Int32)) ||| ((b5 &&& (255 : Int32)) <<< ((8 : Int32) &&& 31))) ||| ((b6 &&& (255 : Int32)) <<< ((16 : Int32) &&& 31))) ||| ((b7 &&& (255 : Int32)) <<< ((24 : Int32) &&& 31))))] d1_73 rfl ?_
      refine g_iload K 75 d1_75 rfl ?_
      refine g_ldc K 77 (v := (1540483477 : Int32)) d1_77 (tw hw 8 rfl) ?_
      refine g_imul K 79 d1_79 ?_
      refine g_istore K 80 #[.val (.ref ar), .val (.int (10 : Int32)), .val (.int (8 : Int32)), .val (.int ((-1348674050 : Int32) ^^^ (((((((b0 &&& (255 : Int32)) ||| ((b1 &&& (255 : Int32)) <<< ((8 : Int32) &&& 31))) ||| ((b2 &&& (255 : Int32)) <<< ((16 : Int32) &&& 31))) ||| ((b3 &&& (255 : Int32)) <<< ((24 : Int32) &&& 31))) * (1540483477 : Int32)) ^^^ (XT.ushr (((((b0 &&& (255 : Int32)) ||| ((b1 &&& (255 : Int32)) <<< ((8 : Int32) &&& 31))) ||| ((b2 &&& (255 : Int32)) <<< ((16 : Int32) &&& 31))) ||| ((b3 &&& (255 : Int32)) <<< ((24 : Int32) &&& 31))) * (1540483477 : Int32)) (24 : Int32))) * (1540483477 : Int32)))), .val (.int (4 : Int32)), .val (.int (((((b4 &&& (255 : Int32)) ||| ((b5 &&& (255 : Int32)) <<< ((8 : Int32) &&& 31))) ||| ((b6 &&& (255 : Int32)) <<< ((16 : Int32) &&& 31))) ||| ((b7 &&& (255 : Int32)) <<< ((24 : Int32) &&& 31))) * (1540483477 : Int32)))] d1_80 rfl ?_
      refine g_iload K 82 d1_82 rfl ?_
      refine g_iload K 84 d1_84 rfl ?_
      refine g_bipush K 86 (24 : Int32) d1_86 (by decide) ?_
      refine g_iushr K 88 d1_88 ?_
      refine g_ixor K 89 d1_89 ?_
      refine g_istore K 90 #[.val (.ref ar), .val (.int (10 : Int32)), .val (.int (8 : Int32)), .val (.int ((-1348674050 : Int32) ^^^ (((((((b0 &&& (255 : Int32)) ||| ((b1 &&& (255 : Int32)) <<< ((8 : Int32) &&& 31))) ||| ((b2 &&& (255 : Int32)) <<< ((16 : Int32) &&& 31))) ||| ((b3 &&& (255 : Int32)) <<< ((24 : Int32) &&& 31))) * (1540483477 : Int32)) ^^^ (XT.ushr (((((b0 &&& (255 : Int32)) ||| ((b1 &&& (255 : Int32)) <<< ((8 : Int32) &&& 31))) ||| ((b2 &&& (255 : Int32)) <<< ((16 : Int32) &&& 31))) ||| ((b3 &&& (255 : Int32)) <<< ((24 : Int32) &&& 31))) * (1540483477 : Int32)) (24 : Int32))) * (1540483477 : Int32)))), .val (.int (4 : Int32)), .val (.int ((((((b4 &&& (255 : Int32)) ||| ((b5 &&& (255 : Int32)) <<< ((8 : Int32) &&& 31))) ||| ((b6 &&& (255 : Int32)) <<< ((16 : Int32) &&& 31))) ||| ((b7 &&& (255 : Int32)) <<< ((24 : Int32) &&& 31))) * (1540483477 : Int32)) ^^^ (XT.ushr (((((b4 &&& (255 : Int32)) ||| ((b5 &&& (255 : Int32)) <<< ((8 : Int32) &&& 31))) ||| ((b6 &&& (255 : Int32)) <<< ((16 : Int32) &&& 31))) ||| ((b7 &&& (255 : Int32)) <<< ((24 : Int32) &&& 31))) * (1540483477 : Int32)) (24 : Int32))))] d1_90 rfl ?_
      refine g_iload K 92 d1_92 rfl ?_
      refine g_ldc K 94 (v := (1540483477 : Int32)) d1_94 (tw hw 8 rfl) ?_
      refine g_imul K 96 d1_96 ?_
      refine g_istore K 97 #[.val (.ref ar), .val (.int (10 : Int32)), .val (.int (8 : Int32)), .val (.int ((-1348674050 : Int32) ^^^ (((((((b0 &&& (255 : Int32)) ||| ((b1 &&& (255 : Int32)) <<< ((8 : Int32) &&& 31))) ||| ((b2 &&& (255 : Int32)) <<< ((16 : Int32) &&& 31))) ||| ((b3 &&& (255 : Int32)) <<< ((24 : Int32) &&& 31))) * (1540483477 : Int32)) ^^^ (XT.ushr (((((b0 &&& (255 : Int32)) ||| ((b1 &&& (255 : Int32)) <<< ((8 : Int32) &&& 31))) ||| ((b2 &&& (255 : Int32)) <<< ((16 : Int32) &&& 31))) ||| ((b3 &&& (255 : Int32)) <<< ((24 : Int32) &&& 31))) * (1540483477 : Int32)) (24 : Int32))) * (1540483477 : Int32)))), .val (.int (4 : Int32)), .val (.int (((((((b4 &&& (255 : Int32)) ||| ((b5 &&& (255 : Int32)) <<< ((8 : Int32) &&& 31))) ||| ((b6 &&& (255 : Int32)) <<< ((16 : Int32) &&& 31))) ||| ((b7 &&& (255 : Int32)) <<< ((24 : Int32) &&& 31))) * (1540483477 : Int32)) ^^^ (XT.ushr (((((b4 &&& (255 : Int32)) ||| ((b5 &&& (255 : Int32)) <<< ((8 : Int32) &&& 31))) ||| ((b6 &&& (255 : Int32)) <<< ((16 : Int32) &&& 31))) ||| ((b7 &&& (255 : Int32)) <<< ((24 : Int32) &&& 31))) * (1540483477 : Int32)) (24 : Int32))) * (1540483477 : Int32)))] d1_97 rfl ?_
      refine g_iloadN K 99 d1_99 rfl ?_
      refine g_ldc K 100 (v := (1540483477 : Int32)) d1_100 (tw hw 8 rfl) ?_
      refine g_imul K 102 d1_102 ?_
      refine g_istoreN K 103 #[.val (.ref ar), .val (.int (10 : Int32)), .val (.int (8 : Int32)), .val (.int (((-1348674050 : Int32) ^^^ (((((((b0 &&& (255 : Int32)) ||| ((b1 &&& (255 : Int32)) <<< ((8 : Int32) &&& 31))) ||| ((b2 &&& (255 : Int32)) <<< ((16 : Int32) &&& 31))) ||| ((b3 &&& (255 : Int32)) <<< ((24 : Int32) &&& 31))) * (1540483477 : Int32)) ^^^ (XT.ushr (((((b0 &&& (255 : Int32)) ||| ((b1 &&& (255 : Int32)) <<< ((8 : Int32) &&& 31))) ||| ((b2 &&& (255 : Int32)) <<< ((16 : Int32) &&& 31))) ||| ((b3 &&& (255 : Int32)) <<< ((24 : Int32) &&& 31))) * (1540483477 : Int32)) (24 : Int32))) * (1540483477 : Int32))) * (1540483477 : Int32))), .val (.int (4 : Int32)), .val (.int (((((((b4 &&& (255 : Int32)) ||| ((b5 &&& (255 : Int32)) <<< ((8 : Int32) &&& 31))) ||| ((b6 &&& (255 : Int32)) <<< ((16 : Int32) &&& 31))) ||| ((b7 &&& (255 : Int32)) <<< ((24 : Int32) &&& 31))) * (1540483477 : Int32)) ^^^ (XT.ushr (((((b4 &&& (255 : Int32)) ||| ((b5 &&& (255 : Int32)) <<< ((8 : Int32) &&& 31))) ||| ((b6 &&& (255 : Int32)) <<< ((16 : Int32) &&& 31))) ||| ((b7 &&& (255 : Int32)) <<< ((24 : Int32) &&& 31))) * (1540483477 : Int32)) (24 : Int32))) * (1540483477 : Int32)))] d1_103 rfl ?_
      refine g_iloadN K 104 d1_104 rfl ?_
      refine g_iload K 105 d1_105 rfl ?_
      refine g_ixor K 107 d1_107 ?_
      refine g_istoreN K 108 #[.val (.ref ar), .val (.int (10 : Int32)), .val (.int (8 : Int32)), .val (.int ((((-1348674050 : Int32) ^^^ (((((((b0 &&& (255 : Int32)) ||| ((b1 &&& (255 : Int32)) <<< ((8 : Int32) &&& 31))) ||| ((b2 &&& (255 : Int32)) <<< ((16 : Int32) &&& 31))) ||| ((b3 &&& (255 : Int32)) <<< ((24 : Int32) &&& 31))) * (1540483477 : Int32)) ^^^ (XT.ushr (((((b0 &&& (255 : Int32)) ||| ((b1 &&& (255 : Int32)) <<< ((8 : Int32) &&& 31))) ||| ((b2 &&& (255 : Int32)) <<< ((16 : Int32) &&& 31))) ||| ((b3 &&& (255 : Int32)) <<< ((24 : Int32) &&& 31))) * (1540483477 : Int32)) (24 : Int32))) * (1540483477 : Int32))) * (1540483477 : Int32)) ^^^ (((((((b4 &&& (255 : Int32)) ||| ((b5 &&& (255 : Int32)) <<< ((8 : Int32) &&& 31))) ||| ((b6 &&& (255 : Int32)) <<< ((16 : Int32) &&& 31))) ||| ((b7 &&& (255 : Int32)) <<< ((24 : Int32) &&& 31))) * (1540483477 : Int32)) ^^^ (XT.ushr (((((b4 &&& (255 : Int32)) ||| ((b5 &&& (255 : Int32)) <<< ((8 : Int32) &&& 31))) ||| ((b6 &&& (255 : Int32)) <<< ((16 : Int32) &&& 31))) ||| ((b7 &&& (255 : Int32)) <<< ((24 : Int32) &&& 31))) * (1540483477 : Int32)) (24 : Int32))) * (1540483477 : Int32)))), .val (.int (4 : Int32)), .val (.int (((((((b4 &&& (255 : Int32)) ||| ((b5 &&& (255 : Int32)) <<< ((8 : Int32) &&& 31))) ||| ((b6 &&& (255 : Int32)) <<< ((16 : Int32) &&& 31))) ||| ((b7 &&& (255 : Int32)) <<< ((24 : Int32) &&& 31))) * (1540483477 : Int32)) ^^^ (XT.ushr (((((b4 &&& (255 : Int32)) ||| ((b5 &&& (255 : Int32)) <<< ((8 : Int32) &&& 31))) ||| ((b6 &&& (255 : Int32)) <<< ((16 : Int32) &&& 31))) ||| ((b7 &&& (255 : Int32)) <<< ((24 : Int32) &&& 31))) * (1540483477 : Int32)) (24 : Int32))) * (1540483477 : Int32)))] d1_108 rfl ?_
      refine g_iinc K 109 (4 : Int32) #[.val (.ref ar), .val (.int (10 : Int32)), .val (.int (8 : Int32)), .val (.int ((((-1348674050 : Int32) ^^^ (((((((b0 &&& (255 : Int32)) ||| ((b1 &&& (255 : Int32)) <<< ((8 : Int32) &&& 31))) ||| ((b2 &&& (255 : Int32)) <<< ((16 : Int32) &&& 31))) ||| ((b3 &&& (255 : Int32)) <<< ((24 : Int32) &&& 31))) * (1540483477 : Int32)) ^^^ (XT.ushr (((((b0 &&& (255 : Int32)) ||| ((b1 &&& (255 : Int32)) <<< ((8 : Int32) &&& 31))) ||| ((b2 &&& (255 : Int32)) <<< ((16 : Int32) &&& 31))) ||| ((b3 &&& (255 : Int32)) <<< ((24 : Int32) &&& 31))) * (1540483477 : Int32)) (24 : Int32))) * (1540483477 : Int32))) * (1540483477 : Int32)) ^^^ (((((((b4 &&& (255 : Int32)) ||| ((b5 &&& (255 : Int32)) <<< ((8 : Int32) &&& 31))) ||| ((b6 &&& (255 : Int32)) <<< ((16 : Int32) &&& 31))) ||| ((b7 &&& (255 : Int32)) <<< ((24 : Int32) &&& 31))) * (1540483477 : Int32)) ^^^ (XT.ushr (((((b4 &&& (255 : Int32)) ||| ((b5 &&& (255 : Int32)) <<< ((8 : Int32) &&& 31))) ||| ((b6 &&& (255 : Int32)) <<< ((16 : Int32) &&& 31))) ||| ((b7 &&& (255 : Int32)) <<< ((24 : Int32) &&& 31))) * (1540483477 : Int32)) (24 : Int32))) * (1540483477 : Int32)))), .val (.int ((4 : Int32) + (4 : Int32))), .val (.int (((((((b4 &&& (255 : Int32)) ||| ((b5 &&& (255 : Int32)) <<< ((8 : Int32) &&& 31))) ||| ((b6 &&& (255 : Int32)) <<< ((16 : Int32) &&& 31))) ||| ((b7 &&& (255 : Int32)) <<< ((24 : Int32) &&& 31))) * (1540483477 : Int32)) ^^^ (XT.ushr (((((b4 &&& (255 : Int32)) ||| ((b5 &&& (255 : Int32)) <<< ((8 : Int32) &&& 31))) ||| ((b6 &&& (255 : Int32)) <<< ((16 : Int32) &&& 31))) ||| ((b7 &&& (255 : Int32)) <<< ((24 : Int32) &&& 31))) * (1540483477 : Int32)) (24 : Int32))) * (1540483477 : Int32)))] d1_109 (by decide) rfl rfl ?_
      rw [show ((4 : Int32) + (4 : Int32)) = (8 : Int32) from by decide]
      refine g_goto K 112 17 d1_112 (by decide) (by decide) ?_
      refine g_iload K 17 d1_17 rfl ?_
      refine g_iloadN K 19 d1_19 rfl ?_
      refine g_ii_ge K 20 115 d1_20 (by decide) (by decide) ?_ ?_
      · intro c3
        refine g_iloadN K 115 d1_115 rfl ?_
        refine g_iloadN K 116 d1_116 rfl ?_
        refine g_isub K 117 d1_117 ?_
        rw [show ((10 : Int32) - (8 : Int32)) = (2 : Int32) from by decide]
        refine g_istore K 118 #[.val (.ref ar), .val (.int (10 : Int32)), .val (.int (8 : Int32)), .val (.int ((((-1348674050 : Int32) ^^^ (((((((b0 &&& (255 : Int32)) ||| ((b1 &&& (255 : Int32)) <<< ((8 : Int32) &&& 31))) ||| ((b2 &&& (255 : Int32)) <<< ((16 : Int32) &&& 31))) ||| ((b3 &&& (255 : Int32)) <<< ((24 : Int32) &&& 31))) * (1540483477 : Int32)) ^^^ (XT.ushr (((((b0 &&& (255 : Int32)) ||| ((b1 &&& (255 : Int32)) <<< ((8 : Int32) &&& 31))) ||| ((b2 &&& (255 : Int32)) <<< ((16 : Int32) &&& 31))) ||| ((b3 &&& (255 : Int32)) <<< ((24 : Int32) &&& 31))) * (1540483477 : Int32)) (24 : Int32))) * (1540483477 : Int32))) * (1540483477 : Int32)) ^^^ (((((((b4 &&& (255 : Int32)) ||| ((b5 &&& (255 : Int32)) <<< ((8 : Int32) &&& 31))) ||| ((b6 &&& (255 : Int32)) <<< ((16 : Int32) &&& 31))) ||| ((b7 &&& (255 : Int32)) <<< ((24 : Int32) &&& 31))) * (1540483477 : Int32)) ^^^ (XT.ushr (((((b4 &&& (255 : Int32)) ||| ((b5 &&& (255 : Int32)) <<< ((8 : Int32) &&& 31))) ||| ((b6 &&& (255 : Int32)) <<< ((16 : Int32) &&& 31))) ||| ((b7 &&& (255 : Int32)) <<< ((24 : Int32) &&& 31))) * (1540483477 : Int32)) (24 : Int32))) * (1540483477 : Int32)))), .val (.int (2 : Int32)), .val (.int (((((((b4 &&& (255 : Int32)) ||| ((b5 &&& (255 : Int32)) <<< ((8 : Int32) &&& 31))) ||| ((b6 &&& (255 : Int32)) <<< ((16 : Int32) &&& 31))) ||| ((b7 &&& (255 : Int32)) <<< ((24 : Int32) &&& 31))) * (1540483477 : Int32)) ^^^ (XT.ushr (((((b4 &&& (255 : Int32)) ||| ((b5 &&& (255 : Int32)) <<< ((8 : Int32) &&& 31))) ||| ((b6 &&& (255 : Int32)) <<< ((16 : Int32) &&& 31))) ||| ((b7 &&& (255 : Int32)) <<< ((24 : Int32) &&& 31))) * (1540483477 : Int32)) (24 : Int32))) * (1540483477 : Int32)))] d1_118 rfl ?_
        refine g_iload K 120 d1_120 rfl ?_
        refine g_iconst K 122 (3 : Int32) d1_122 (by decide) ?_
        refine g_ii_ne K 123 141 d1_123 (by decide) (by decide) ?_ ?_
        · intro c4
          refine g_iload K 141 d1_141 rfl ?_
          refine g_iconst K 143 (2 : Int32) d1_143 (by decide) ?_
          refine g_ii_lt K 144 162 d1_144 (by decide) (by decide) ?_ ?_
          · intro c5
            exact absurd c5 (by decide)
          · intro c5
            refine g_iloadN K 147 d1_147 rfl ?_
            refine g_aloadN K 148 d1_148 rfl rfl ?_
            refine g_iloadN K 149 d1_149 rfl ?_
            refine g_iconst K 150 (1 : Int32) d1_150 (by decide) ?_
            refine g_iadd K 151 d1_151 ?_
            rw [show ((8 : Int32) + (1 : Int32)) = (9 : Int32) from by decide]
            refine g_baload K 152 b9 d1_152 A0 (by decide) (by rw [show (9 : Int32).toNatClampNeg = 9 from by decide]; rfl) ?_
            refine g_sipush K 153 (255 : Int32) d1_153 (by decide) ?_
            refine g_iand K 156 d1_156 ?_
            refine g_bipush K 157 (8 : Int32) d1_157 (by decide) ?_
            refine g_ishl K 159 d1_159 ?_
            refine g_ixor K 160 d1_160 ?_
            refine g_istoreN K 161 #[.val (.ref ar), .val (.int (10 : Int32)), .val (.int (8 : Int32)), .val (.int (((((-1348674050 : Int32) ^^^ (((((((b0 &&& (255 : Int32)) ||| ((b1 &&& (255 : Int32)) <<< ((8 : Int32) &&& 31))) ||| ((b2 &&& (255 : Int32)) <<< ((16 : Int32) &&& 31))) ||| ((b3 &&& (255 : Int32)) <<< ((24 : Int32) &&& 31))) * (1540483477 : Int32)) ^^^ (XT.ushr (((((b0 &&& (255 : Int32)) ||| ((b1 &&& (255 : Int32)) <<< ((8 : Int32) &&& 31))) ||| ((b2 &&& (255 : Int32)) <<< ((16 : Int32) &&& 31))) ||| ((b3 &&& (255 : Int32)) <<< ((24 : Int32) &&& 31))) * (1540483477 : Int32)) (24 : Int32))) * (1540483477 : Int32))) * (1540483477 : Int32)) ^^^ (((((((b4 &&& (255 : Int32)) ||| ((b5 &&& (255 : Int32)) <<< ((8 : Int32) &&& 31))) ||| ((b6 &&& (255 : Int32)) <<< ((16 : Int32) &&& 31))) ||| ((b7 &&& (255 : Int32)) <<< ((24 : Int32) &&& 31))) * (1540483477 : Int32)) ^^^ (XT.ushr (((((b4 &&& (255 : Int32)) ||| ((b5 &&& (255 : Int32)) <<< ((8 : Int32) &&& 31))) ||| ((b6 &&& (255 : Int32)) <<< ((16 : Int32) &&& 31))) ||| ((b7 &&& (255 : Int32)) <<< ((24 : Int32) &&& 31))) * (1540483477 : Int32)) (24 : Int32))) * (1540483477 : Int32))) ^^^ ((b9 &&& (255 : Int32)) <<< ((8 : Int32) &&& 31)))), .val (.int (2 : Int32)), .val (.int (((((((b4 &&& (255 : Int32)) ||| ((b5 &&& (255 : Int32)) <<< ((8 : Int32) &&& 31))) ||| ((b6 &&& (255 : Int32)) <<< ((16 : Int32) &&& 31))) ||| ((b7 &&& (255 : Int32)) <<< ((24 : Int32) &&& 31))) * (1540483477 : Int32)) ^^^ (XT.ushr (((((b4 &&& (255 : Int32)) ||| ((b5 &&& (255 : Int32)) <<< ((8 : Int32) &&& 31))) ||| ((b6 &&& (255 : Int32)) <<< ((16 : Int32) &&& 31))) ||| ((b7 &&& (255 : Int32)) <<< ((24 : Int32) &&& 31))) * (1540483477 : Int32)) (24 : Int32))) * (1540483477 : Int32)))] d1_161 rfl ?_
            refine g_iload K 162 d1_162 rfl ?_
            refine g_iconst K 164 (1 : Int32) d1_164 (by decide) ?_
            refine g_ii_lt K 165 183 d1_165 (by decide) (by decide) ?_ ?_
            · intro c6
              exact absurd c6 (by decide)
            · intro c6
              refine g_iloadN K 168 d1_168 rfl ?_
              refine g_aloadN K 169 d1_169 rfl rfl ?_
              refine g_iloadN K 170 d1_170 rfl ?_
              refine g_baload K 171 b8 d1_171 A0 (by decide) (by rw [show (8 : Int32).toNatClampNeg = 8 from by decide]; rfl) ?_
              refine g_sipush K 172 (255 : Int32) d1_172 (by decide) ?_
              refine g_iand K 175 d1_175 ?_
              refine g_ixor K 176 d1_176 ?_
              refine g_istoreN K 177 #[.val (.ref ar), .val (.int (10 : Int32)), .val (.int (8 : Int32)), .val (.int ((((((-1348674050 : Int32) ^^^ (((((((b0 &&& (255 : Int32)) ||| ((b1 &&& (255 : Int32)) <<< ((8 : Int32) &&& 31))) ||| ((b2 &&& (255 : Int32)) <<< ((16 : Int32) &&& 31))) ||| ((b3 &&& (255 : Int32)) <<< ((24 : Int32) &&& 31))) * (1540483477 : Int32)) ^^^ (XT.ushr (((((b0 &&& (255 : Int32)) ||| ((b1 &&& (255 : Int32)) <<< ((8 : Int32) &&& 31))) ||| ((b2 &&& (255 : Int32)) <<< ((16 : Int32) &&& 31))) ||| ((b3 &&& (255 : Int32)) <<< ((24 : Int32) &&& 31))) * (1540483477 : Int32)) (24 : Int32))) * (1540483477 : Int32))) * (1540483477 : Int32)) ^^^ (((((((b4 &&& (255 : Int32)) ||| ((b5 &&& (255 : Int32)) <<< ((8 : Int32) &&& 31))) ||| ((b6 &&& (255 : Int32)) <<< ((16 : Int32) &&& 31))) ||| ((b7 &&& (255 : Int32)) <<< ((24 : Int32) &&& 31))) * (1540483477 : Int32)) ^^^ (XT.ushr (((((b4 &&& (255 : Int32)) ||| ((b5 &&& (255 : Int32)) <<< ((8 : Int32) &&& 31))) ||| ((b6 &&& (255 : Int32)) <<< ((16 : Int32) &&& 31))) ||| ((b7 &&& (255 : Int32)) <<< ((24 : Int32) &&& 31))) * (1540483477 : Int32)) (24 : Int32))) * (1540483477 : Int32))) ^^^ ((b9 &&& (255 : Int32)) <<< ((8 : Int32) &&& 31))) ^^^ (b8 &&& (255 : Int32)))), .val (.int (2 : Int32)), .val (.int (((((((b4 &&& (255 : Int32)) ||| ((b5 &&& (255 : Int32)) <<< ((8 : Int32) &&& 31))) ||| ((b6 &&& (255 : Int32)) <<< ((16 : Int32) &&& 31))) ||| ((b7 &&& (255 : Int32)) <<< ((24 : Int32) &&& 31))) * (1540483477 : Int32)) ^^^ (XT.ushr (((((b4 &&& (255 : Int32)) ||| ((b5 &&& (255 : Int32)) <<< ((8 : Int32) &&& 31))) ||| ((b6 &&& (255 : Int32)) <<< ((16 : Int32) &&& 31))) ||| ((b7 &&& (255 : Int32)) <<< ((24 : Int32) &&& 31))) * (1540483477 : Int32)) (24 : Int32))) * (1540483477 : Int32)))] d1_177 rfl ?_
              refine g_iloadN K 178 d1_178 rfl ?_
              refine g_ldc K 179 (v := (1540483477 : Int32)) d1_179 (tw hw 8 rfl) ?_
              refine g_imul K 181 d1_181 ?_
              refine g_istoreN K 182 #[.val (.ref ar), .val (.int (10 : Int32)), .val (.int (8 : Int32)), .val (.int (((((((-1348674050 : Int32) ^^^ (((((((b0 &&& (255 : Int32)) ||| ((b1 &&& (255 : Int32)) <<< ((8 : Int32) &&& 31))) ||| ((b2 &&& (255 : Int32)) <<< ((16 : Int32) &&& 31))) ||| ((b3 &&& (255 : Int32)) <<< ((24 : Int32) &&& 31))) * (1540483477 : Int32)) ^^^ (XT.ushr (((((b0 &&& (255 : Int32)) ||| ((b1 &&& (255 : Int32)) <<< ((8 : Int32) &&& 31))) ||| ((b2 &&& (255 : Int32)) <<< ((16 : Int32) &&& 31))) ||| ((b3 &&& (255 : Int32)) <<< ((24 : Int32) &&& 31))) * (1540483477 : Int32)) (24 : Int32))) * (1540483477 : Int32))) * (1540483477 : Int32)) ^^^ (((((((b4 &&& (255 : Int32)) ||| ((b5 &&& (255 : Int32)) <<< ((8 : Int32) &&& 31))) ||| ((b6 &&& (255 : Int32)) <<< ((16 : Int32) &&& 31))) ||| ((b7 &&& (255 : Int32)) <<< ((24 : Int32) &&& 31))) * (1540483477 : Int32)) ^^^ (XT.ushr (((((b4 &&& (255 : Int32)) ||| ((b5 &&& (255 : Int32)) <<< ((8 : Int32) &&& 31))) ||| ((b6 &&& (255 : Int32)) <<< ((16 : Int32) &&& 31))) ||| ((b7 &&& (255 : Int32)) <<< ((24 : Int32) &&& 31))) * (1540483477 : Int32)) (24 : Int32))) * (1540483477 : Int32))) ^^^ ((b9 &&& (255 : Int32)) <<< ((8 : Int32) &&& 31))) ^^^ (b8 &&& (255 : Int32))) * (1540483477 : Int32))), .val (.int (2 : Int32)), .val (.int (((((((b4 &&& (255 : Int32)) ||| ((b5 &&& (255 : Int32)) <<< ((8 : Int32) &&& 31))) ||| ((b6 &&& (255 : Int32)) <<< ((16 : Int32) &&& 31))) ||| ((b7 &&& (255 : Int32)) <<< ((24 : Int32) &&& 31))) * (1540483477 : Int32)) ^^^ (XT.ushr (((((b4 &&& (255 : Int32)) ||| ((b5 &&& (255 : Int32)) <<< ((8 : Int32) &&& 31))) ||| ((b6 &&& (255 : Int32)) <<< ((16 : Int32) &&& 31))) ||| ((b7 &&& (255 : Int32)) <<< ((24 : Int32) &&& 31))) * (1540483477 : Int32)) (24 : Int32))) * (1540483477 : Int32)))] d1_182 rfl ?_
              refine g_iloadN K 183 d1_183 rfl ?_
              refine g_iloadN K 184 d1_184 rfl ?_
              refine g_bipush K 185 (13 : Int32) d1_185 (by decide) ?_
              refine g_iushr K 187 d1_187 ?_
              refine g_ixor K 188 d1_188 ?_
              refine g_istoreN K 189 #[.val (.ref ar), .val (.int (10 : Int32)), .val (.int (8 : Int32)), .val (.int ((((((((-1348674050 : Int32) ^^^ (((((((b0 &&& (255 : Int32)) ||| ((b1 &&& (255 : Int32)) <<< ((8 : Int32) &&& 31))) ||| ((b2 &&& (255 : Int32)) <<< ((16 : Int32) &&& 31))) ||| ((b3 &&& (255 : Int32)) <<< ((24 : Int32) &&& 31))) * (1540483477 : Int32)) ^^^ (XT.ushr (((((b0 &&& (255 : Int32)) ||| ((b1 &&& (255 : Int32)) <<< ((8 : Int32) &&& 31))) ||| ((b2 &&& (255 : Int32)) <<< ((16 : Int32) &&& 31))) ||| ((b3 &&& (255 : Int32)) <<< ((24 : Int32) &&& 31))) * (1540483477 : Int32)) (24 : Int32))) * (1540483477 : Int32))) * (1540483477 : Int32)) ^^^ (((((((b4 &&& (255 : Int32)) ||| ((b5 &&& (255 : Int32)) <<< ((8 : Int32) &&& 31))) ||| ((b6 &&& (255 : Int32)) <<< ((16 : Int32) &&& 31))) ||| ((b7 &&& (255 : Int32)) <<< ((24 : Int32) &&& 31))) * (1540483477 : Int32)) ^^^ (XT.ushr (((((b4 &&& (255 : Int32)) ||| ((b5 &&& (255 : Int32)) <<< ((8 : Int32) &&& 31))) ||| ((b6 &&& (255 : Int32)) <<< ((16 : Int32) &&& 31))) ||| ((b7 &&& (255 : Int32)) <<< ((24 : Int32) &&& 31))) * (1540483477 : Int32)) (24 : Int32))) * (1540483477 : Int32))) ^^^ ((b9 &&& (255 : Int32)) <<< ((8 : Int32) &&& 31))) ^^^ (b8 &&& (255 : Int32))) * (1540483477 : Int32)) ^^^ (XT.ushr (((((((-1348674050 : Int32) ^^^ (((((((b0 &&& (255 : Int32)) ||| ((b1 &&& (255 : Int32)) <<< ((8 : Int32) &&& 31))) ||| ((b2 &&& (255 : Int32)) <<< ((16 : Int32) &&& 31))) ||| ((b3 &&& (255 : Int32)) <<< ((24 : Int32) &&& 31))) * (1540483477 : Int32)) ^^^ (XT.ushr (((((b0 &&& (255 : Int32)) ||| ((b1 &&& (255 : Int32)) <<< ((8 : Int32) &&& 31))) ||| ((b2 &&& (255 : Int32)) <<< ((16 : Int32) &&& 31))) ||| ((b3 &&& (255 : Int32)) <<< ((24 : Int32) &&& 31))) * (1540483477 : Int32)) (24 : Int32))) * (1540483477 : Int32))) * (1540483477 : Int32)) ^^^ (((((((b4 &&& (255 : Int32)) ||| ((b5 &&& (255 : Int32)) <<< ((8 : Int32) &&& 31))) ||| ((b6 &&& (255 : Int32)) <<< ((16 : Int32) &&& 31))) ||| ((b7 &&& (255 : Int32)) <<< ((24 : Int32) &&& 31))) * (1540483477 : Int32)) ^^^ (XT.ushr (((((b4 &&& (255 : Int32)) ||| ((b5 &&& (255 : Int32)) <<< ((8 : Int32) &&& 31))) ||| ((b6 &&& (255 : Int32)) <<< ((16 : Int32) &&& 31))) ||| ((b7 &&& (255 : Int32)) <<< ((24 : Int32) &&& 31))) * (1540483477 : Int32)) (24 : Int32))) * (1540483477 : Int32))) ^^^ ((b9 &&& (255 : Int32)) <<< ((8 : Int32) &&& 31))) ^^^ (b8 &&& (255 : Int32))) * (1540483477 : Int32)) (13 : Int32)))), .val (.int (2 : Int32)), .val (.int (((((((b4 &&& (255 : Int32)) ||| ((b5 &&& (255 : Int32)) <<< ((8 : Int32) &&& 31))) ||| ((b6 &&& (255 : Int32)) <<< ((16 : Int32) &&& 31))) ||| ((b7 &&& (255 : Int32)) <<< ((24 : Int32) &&& 31))) * (1540483477 : Int32)) ^^^ (XT.ushr (((((b4 &&& (255 : Int32)) ||| ((b5 &&& (255 : Int32)) <<< ((8 : Int32) &&& 31))) ||| ((b6 &&& (255 : Int32)) <<< ((16 : Int32) &&& 31))) ||| ((b7 &&& (255 : Int32)) <<< ((24 : Int32) &&& 31))) * (1540483477 : Int32)) (24 : Int32))) * (1540483477 : Int32)))] d1_189 rfl ?_
              refine g_iloadN K 190 d1_190 rfl ?_
              refine g_ldc K 191 (v := (1540483477 : Int32)) d1_191 (tw hw 8 rfl) ?_
              refine g_imul K 193 d1_193 ?_
              refine g_istoreN K 194 #[.val (.ref ar), .val (.int (10 : Int32)), .val (.int (8 : Int32)), .val (.int (((((((((-1348674050 : Int32) ^^^ (((((((b0 &&& (255 : Int32)) ||| ((b1 &&& (255 : Int32)) <<< ((8 : Int32) &&& 31))) ||| ((b2 &&& (255 : Int32)) <<< ((16 : Int32) &&& 31))) ||| ((b3 &&& (255 : Int32)) <<< ((24 : Int32) &&& 31))) * (1540483477 : Int32)) ^^^ (XT.ushr (((((b0 &&& (255 : Int32)) ||| ((b1 &&& (255 : Int32)) <<< ((8 : Int32) &&& 31))) ||| ((b2 &&& (255 : Int32)) <<< ((16 : Int32) &&& 31))) ||| ((b3 &&& (255 : Int32)) <<< ((24 : Int32) &&& 31))) * (1540483477 : Int32)) (24 : Int32))) * (1540483477 : Int32))) * (1540483477 : Int32)) ^^^ (((((((b4 &&& (255 : Int32)) ||| ((b5 &&& (255 : Int32)) <<< ((8 : Int32) &&& 31))) ||| ((b6 &&& (255 : Int32)) <<< ((16 : Int32) &&& 31))) ||| ((b7 &&& (255 : Int32)) <<< ((24 : Int32) &&& 31))) * (1540483477 : Int32)) ^^^ (XT.ushr (((((b4 &&& (255 : Int32)) ||| ((b5 &&& (255 : Int32)) <<< ((8 : Int32) &&& 31))) ||| ((b6 &&& (255 : Int32)) <<< ((16 : Int32) &&& 31))) ||| ((b7 &&& (255 : Int32)) <<< ((24 : Int32) &&& 31))) * (1540483477 : Int32)) (24 : Int32))) * (1540483477 : Int32))) ^^^ ((b9 &&& (255 : Int32)) <<< ((8 : Int32) &&& 31))) ^^^ (b8 &&& (255 : Int32))) * (1540483477 : Int32)) ^^^ (XT.ushr (((((((-1348674050 : Int32) ^^^ (((((((b0 &&& (255 : Int32)) ||| ((b1 &&& (255 : Int32)) <<< ((8 : Int32) &&& 31))) ||| ((b2 &&& (255 : Int32)) <<< ((16 : Int32) &&& 31))) ||| ((b3 &&& (255 : Int32)) <<< ((24 : Int32) &&& 31))) * (1540483477 : Int32)) ^^^ (XT.ushr (((((b0 &&& (255 : Int32)) ||| ((b1 &&& (255 : Int32)) <<< ((8 : Int32) &&& 31))) ||| ((b2 &&& (255 : Int32)) <<< ((16 : Int32) &&& 31))) ||| ((b3 &&& (255 : Int32)) <<< ((24 : Int32) &&& 31))) * (1540483477 : Int32)) (24 : Int32))) * (1540483477 : Int32))) * (1540483477 : Int32)) ^^^ (((((((b4 &&& (255 : Int32)) ||| ((b5 &&& (255 : Int32)) <<< ((8 : Int32) &&& 31))) ||| ((b6 &&& (255 : Int32)) <<< ((16 : Int32) &&& 31))) ||| ((b7 &&& (255 : Int32)) <<< ((24 : Int32) &&& 31))) * (1540483477 : Int32)) ^^^ (XT.ushr (((((b4 &&& (255 : Int32)) ||| ((b5 &&& (255 : Int32)) <<< ((8 : Int32) &&& 31))) ||| ((b6 &&& (255 : Int32)) <<< ((16 : Int32) &&& 31))) ||| ((b7 &&& (255 : Int32)) <<< ((24 : Int32) &&& 31))) * (1540483477 : Int32)) (24 : Int32))) * (1540483477 : Int32))) ^^^ ((b9 &&& (255 : Int32)) <<< ((8 : Int32) &&& 31))) ^^^ (b8 &&& (255 : Int32))) * (1540483477 : Int32)) (13 : Int32))) * (1540483477 : Int32))), .val (.int (2 : Int32)), .val (.int (((((((b4 &&& (255 : Int32)) ||| ((b5 &&& (255 : Int32)) <<< ((8 : Int32) &&& 31))) ||| ((b6 &&& (255 : Int32)) <<< ((16 : Int32) &&& 31))) ||| ((b7 &&& (255 : Int32)) <<< ((24 : Int32) &&& 31))) * (1540483477 : Int32)) ^^^ (XT.ushr (((((b4 &&& (255 : Int32)) ||| ((b5 &&& (255 : Int32)) <<< ((8 : Int32) &&& 31))) ||| ((b6 &&& (255 : Int32)) <<< ((16 : Int32) &&& 31))) ||| ((b7 &&& (255 : Int32)) <<< ((24 : Int32) &&& 31))) * (1540483477 : Int32)) (24 : Int32))) * (1540483477 : Int32)))] d1_194 rfl ?_
              refine g_iloadN K 195 d1_195 rfl ?_
              refine g_iloadN K 196 d1_196 rfl ?_
              refine g_bipush K 197 (15 : Int32) d1_197 (by decide) ?_
              refine g_iushr K 199 d1_199 ?_
              refine g_ixor K 200 d1_200 ?_
              refine g_istoreN K 201 #[.val (.ref ar), .val (.int (10 : Int32)), .val (.int (8 : Int32)), .val (.int ((((((((((-1348674050 : Int32) ^^^ (((((((b0 &&& (255 : Int32)) ||| ((b1 &&& (255 : Int32)) <<< ((8 : Int32) &&& 31))) ||| ((b2 &&& (255 : Int32)) <<< ((16 : Int32) &&& 31))) ||| ((b3 &&& (255 : Int32)) <<< ((24 : Int32) &&& 31))) * (1540483477 : Int32)) ^^^ (XT.ushr (((((b0 &&& (255 : Int32)) ||| ((b1 &&& (255 : Int32)) <<< ((8 : Int32) &&& 31))) ||| ((b2 &&& (255 : Int32)) <<< ((16 : Int32) &&& 31))) ||| ((b3 &&& (255 : Int32)) <<< ((24 : Int32) &&& 31))) * (1540483477 : Int32)) (24 : Int32))) * (1540483477 : Int32))) * (1540483477 : Int32)) ^^^ (((((((b4 &&& (255 : Int32)) ||| ((b5 &&& (255 : Int32)) <<< ((8 : Int32) &&& 31))) ||| ((b6 &&& (255 : Int32)) <<< ((16 : Int32) &&& 31))) ||| ((b7 &&& (255 : Int32)) <<< ((24 : Int32) &&& 31))) * (1540483477 : Int32)) ^^^ (XT.ushr (((((b4 &&& (255 : Int32)) ||| ((b5 &&& (255 : Int32)) <<< ((8 : Int32) &&& 31))) ||| ((b6 &&& (255 : Int32)) <<< ((16 : Int32) &&& 31))) ||| ((b7 &&& (255 : Int32)) <<< ((24 : Int32) &&& 31))) * (1540483477 : Int32)) (24 : Int32))) * (1540483477 : Int32))) ^^^ ((b9 &&& (255 : Int32)) <<< ((8 : Int32) &&& 31))) ^^^ (b8 &&& (255 : Int32))) * (1540483477 : Int32)) ^^^ (XT.ushr (((((((-1348674050 : Int32) ^^^ (((((((b0 &&& (255 : Int32)) ||| ((b1 &&& (255 : Int32)) <<< ((8 : Int32) &&& 31))) ||| ((b2 &&& (255 : Int32)) <<< ((16 : Int32) &&& 31))) ||| ((b3 &&& (255 : Int32)) <<< ((24 : Int32) &&& 31))) * (1540483477 : Int32)) ^^^ (XT.ushr (((((b0 &&& (255 : Int32)) ||| ((b1 &&& (255 : Int32)) <<< ((8 : Int32) &&& 31))) ||| ((b2 &&& (255 : Int32)) <<< ((16 : Int32) &&& 31))) ||| ((b3 &&& (255 : Int32)) <<< ((24 : Int32) &&& 31))) * (1540483477 : Int32)) (24 : Int32))) * (1540483477 : Int32))) * (1540483477 : Int32)) ^^^ (((((((b4 &&& (255 : Int32)) ||| ((b5 &&& (255 : Int32)) <<< ((8 : Int32) &&& 31))) ||| ((b6 &&& (255 : Int32)) <<< ((16 : Int32) &&& 31))) ||| ((b7 &&& (255 : Int32)) <<< ((24 : Int32) &&& 31))) * (1540483477 : Int32)) ^^^ (XT.ushr (((((b4 &&& (255 : Int32)) ||| ((b5 &&& (255 : Int32)) <<< ((8 : Int32) &&& 31))) ||| ((b6 &&& (255 : Int32)) <<< ((16 : Int32) &&& 31))) ||| ((b7 &&& (255 : Int32)) <<< ((24 : Int32) &&& 31))) * (1540483477 : Int32)) (24 : Int32))) * (1540483477 : Int32))) ^^^ ((b9 &&& (255 : Int32)) <<< ((8 : Int32) &&& 31))) ^^^ (b8 &&& (255 : Int32))) * (1540483477 : Int32)) (13 : Int32))) * (1540483477 : Int32)) ^^^ (XT.ushr (((((((((-1348674050 : Int32) ^^^ (((((((b0 &&& (255 : Int32)) ||| ((b1 &&& (255 : Int32)) <<< ((8 : Int32) &&& 31))) ||| ((b2 &&& (255 : Int32)) <<< ((16 : Int32) &&& 31))) ||| ((b3 &&& (255 : Int32)) <<< ((24 : Int32) &&& 31))) * (1540483477 : Int32)) ^^^ (XT.ushr (((((b0 &&& (255 : Int32)) ||| ((b1 &&& (255 : Int32)) <<< ((8 : Int32) &&& 31))) ||| ((b2 &&& (255 : Int32)) <<< ((16 : Int32) &&& 31))) ||| ((b3 &&& (255 : Int32)) <<< ((24 : Int32) &&& 31))) * (1540483477 : Int32)) (24 : Int32))) * (1540483477 : Int32))) * (1540483477 : Int32)) ^^^ (((((((b4 &&& (255 : Int32)) ||| ((b5 &&& (255 : Int32)) <<< ((8 : Int32) &&& 31))) ||| ((b6 &&& (255 : Int32)) <<< ((16 : Int32) &&& 31))) ||| ((b7 &&& (255 : Int32)) <<< ((24 : Int32) &&& 31))) * (1540483477 : Int32)) ^^^ (XT.ushr (((((b4 &&& (255 : Int32)) ||| ((b5 &&& (255 : Int32)) <<< ((8 : Int32) &&& 31))) ||| ((b6 &&& (255 : Int32)) <<< ((16 : Int32) &&& 31))) ||| ((b7 &&& (255 : Int32)) <<< ((24 : Int32) &&& 31))) * (1540483477 : Int32)) (24 : Int32))) * (1540483477 : Int32))) ^^^ ((b9 &&& (255 : Int32)) <<< ((8 : Int32) &&& 31))) ^^^ (b8 &&& (255 : Int32))) * (1540483477 : Int32)) ^^^ (XT.ushr (((((((-1348674050 : Int32) ^^^ (((((((b0 &&& (255 : Int32)) ||| ((b1 &&& (255 : Int32)) <<< ((8 : Int32) &&& 31))) ||| ((b2 &&& (255 : Int32)) <<< ((16 : Int32) &&& 31))) ||| ((b3 &&& (255 : Int32)) <<< ((24 : Int32) &&& 31))) * (1540483477 : Int32)) ^^^ (XT.ushr (((((b0 &&& (255 : Int32)) ||| ((b1 &&& (255 : Int32)) <<< ((8 : Int32) &&& 31))) ||| ((b2 &&& (255 : Int32)) <<< ((16 : Int32) &&& 31))) ||| ((b3 &&& (255 : Int32)) <<< ((24 : Int32) &&& 31))) * (1540483477 : Int32)) (24 : Int32))) * (1540483477 : Int32))) * (1540483477 : Int32)) ^^^ (((((((b4 &&& (255 : Int32)) ||| ((b5 &&& (255 : Int32)) <<< ((8 : Int32) &&& 31))) ||| ((b6 &&& (255 : Int32)) <<< ((16 : Int32) &&& 31))) ||| ((b7 &&& (255 : Int32)) <<< ((24 : Int32) &&& 31))) * (1540483477 : Int32)) ^^^ (XT.ushr (((((b4 &&& (255 : Int32)) ||| ((b5 &&& (255 : Int32)) <<< ((8 : Int32) &&& 31))) ||| ((b6 &&& (255 : Int32)) <<< ((16 : Int32) &&& 31))) ||| ((b7 &&& (255 : Int32)) <<< ((24 : Int32) &&& 31))) * (1540483477 : Int32)) (24 : Int32))) * (1540483477 : Int32))) ^^^ ((b9 &&& (255 : Int32)) <<< ((8 : Int32) &&& 31))) ^^^ (b8 &&& (255 : Int32))) * (1540483477 : Int32)) (13 : Int32))) * (1540483477 : Int32)) (15 : Int32)))), .val (.int (2 : Int32)), .val (.int (((((((b4 &&& (255 : Int32)) ||| ((b5 &&& (255 : Int32)) <<< ((8 : Int32) &&& 31))) ||| ((b6 &&& (255 : Int32)) <<< ((16 : Int32) &&& 31))) ||| ((b7 &&& (255 : Int32)) <<< ((24 : Int32) &&& 31))) * (1540483477 : Int32)) ^^^ (XT.ushr (((((b4 &&& (255 : Int32)) ||| ((b5 &&& (255 : Int32)) <<< ((8 : Int32) &&& 31))) ||| ((b6 &&& (255 : Int32)) <<< ((16 : Int32) &&& 31))) ||| ((b7 &&& (255 : Int32)) <<< ((24 : Int32) &&& 31))) * (1540483477 : Int32)) (24 : Int32))) * (1540483477 : Int32)))] d1_201 rfl ?_
              refine g_iloadN K 202 d1_202 rfl ?_
              refine g_ireturn K 203 d1_203 rfl (by decide) (by decide) ?_
              rw [hQ]
              refine ⟨?_, rfl⟩
              show some (Value.int _) = some (Value.int (f_mur10 b0 b1 b2 b3 b4 b5 b6 b7 b8 b9))
              unfold f_mur10
              rfl
        · intro c4
          exact absurd c4 (by decide)
      · intro c3
        exact absurd c3 (by decide)
def f_mur11 (b0 : Int32) (b1 : Int32) (b2 : Int32) (b3 : Int32) (b4 : Int32) (b5 : Int32) (b6 : Int32) (b7 : Int32) (b8 : Int32) (b9 : Int32) (b10 : Int32) : Int32 := (((((((((((191809427 : Int32) ^^^ (((((((b0 &&& (255 : Int32)) ||| ((b1 &&& (255 : Int32)) <<< ((8 : Int32) &&& 31))) ||| ((b2 &&& (255 : Int32)) <<< ((16 : Int32) &&& 31))) ||| ((b3 &&& (255 : Int32)) <<< ((24 : Int32) &&& 31))) * (1540483477 : Int32)) ^^^ (XT.ushr (((((b0 &&& (255 : Int32)) ||| ((b1 &&& (255 : Int32)) <<< ((8 : Int32) &&& 31))) ||| ((b2 &&& (255 : Int32)) <<< ((16 : Int32) &&& 31))) ||| ((b3 &&& (255 : Int32)) <<< ((24 : Int32) &&& 31))) * (1540483477 : Int32)) (24 : Int32))) * (1540483477 : Int32))) * (1540483477 : Int32)) ^^^ (((((((b4 &&& (255 : Int32)) ||| ((b5 &&& (255 : Int32)) <<< ((8 : Int32) &&& 31))) ||| ((b6 &&& (255 : Int32)) <<< ((16 : Int32) &&& 31))) ||| ((b7 &&& (255 : Int32)) <<< ((24 : Int32) &&& 31))) * (1540483477 : Int32)) ^^^ (XT.ushr (((((b4 &&& (255 : Int32)) ||| ((b5 &&& (255 : Int32)) <<< ((8 : Int32) &&& 31))) ||| ((b6 &&& (255 : Int32)) <<< ((16 : Int32) &&& 31))) ||| ((b7 &&& (255 : Int32)) <<< ((24 : Int32) &&& 31))) * (1540483477 : Int32)) (24 : Int32))) * (1540483477 : Int32))) ^^^ ((b10 &&& (255 : Int32)) <<< ((16 : Int32) &&& 31))) ^^^ ((b9 &&& (255 : Int32)) <<< ((8 : Int32) &&& 31))) ^^^ (b8 &&& (255 : Int32))) * (1540483477 : Int32)) ^^^ (XT.ushr ((((((((191809427 : Int32) ^^^ (((((((b0 &&& (255 : Int32)) ||| ((b1 &&& (255 : Int32)) <<< ((8 : Int32) &&& 31))) ||| ((b2 &&& (255 : Int32)) <<< ((16 : Int32) &&& 31))) ||| ((b3 &&& (255 : Int32)) <<< ((24 : Int32) &&& 31))) * (1540483477 : Int32)) ^^^ (XT.ushr (((((b0 &&& (255 : Int32)) ||| ((b1 &&& (255 : Int32)) <<< ((8 : Int32) &&& 31))) ||| ((b2 &&& (255 : Int32)) <<< ((16 : Int32) &&& 31))) ||| ((b3 &&& (255 : Int32)) <<< ((24 : Int32) &&& 31))) * (1540483477 : Int32)) (24 : Int32))) * (1540483477 : Int32))) * (1540483477 : Int32)) ^^^ (((((((b4 &&& (255 : Int32)) ||| ((b5 &&& (255 : Int32)) <<< ((8 : Int32) &&& 31))) ||| ((b6 &&& (255 : Int32)) <<< ((16 : Int32) &&& 31))) ||| ((b7 &&& (255 : Int32)) <<< ((24 : Int32) &&& 31))) * (1540483477 : Int32)) ^^^ (XT.ushr (((((b4 &&& (255 : Int32)) ||| ((b5 &&& (255 : Int32)) <<< ((8 : Int32) &&& 31))) ||| ((b6 &&& (255 : Int32)) <<< ((16 : Int32) &&& 31))) ||| ((b7 &&& (255 : Int32)) <<< ((24 : Int32) &&& 31))) * (1540483477 : Int32)) (24 : Int32))) * (1540483477 : Int32))) ^^^ ((b10 &&& (255 : Int32)) <<< ((16 : Int32) &&& 31))) ^^^ ((b9 &&& (255 : Int32)) <<< ((8 : Int32) &&& 31))) ^^^ (b8 &&& (255 : Int32))) * (1540483477 : Int32)) (13 : Int32))) * (1540483477 : Int32)) ^^^ (XT.ushr ((((((((((191809427 : Int32) ^^^ (((((((b0 &&& (255 : Int32)) ||| ((b1 &&& (255 : Int32)) <<< ((8 : Int32) &&& 31))) ||| ((b2 &&& (255 : Int32)) <<< ((16 : Int32) &&& 31))) ||| ((b3 &&& (255 : Int32)) <<< ((24 : Int32) &&& 31))) * (1540483477 : Int32)) ^^^ (XT.ushr (((((b0 &&& (255 : Int32)) ||| ((b1 &&& (255 : Int32)) <<< ((8 : Int32) &&& 31))) ||| ((b2 &&& (255 : Int32)) <<< ((16 : Int32) &&& 31))) ||| ((b3 &&& (255 : Int32)) <<< ((24 : Int32) &&& 31))) * (1540483477 : Int32)) (24 : Int32))) * (1540483477 : Int32))) * (1540483477 : Int32)) ^^^ (((((((b4 &&& (255 : Int32)) ||| ((b5 &&& (255 : Int32)) <<< ((8 : Int32) &&& 31))) ||| ((b6 &&& (255 : Int32)) <<< ((16 : Int32) &&& 31))) ||| ((b7 &&& (255 : Int32)) <<< ((24 : Int32) &&& 31))) * (1540483477 : Int32)) ^^^ (XT.ushr (((((b4 &&& (255 : Int32)) ||| ((b5 &&& (255 : Int32)) <<< ((8 : Int32) &&& 31))) ||| ((b6 &&& (255 : Int32)) <<< ((16 : Int32) &&& 31))) ||| ((b7 &&& (255 : Int32)) <<< ((24 : Int32) &&& 31))) * (1540483477 : Int32)) (24 : Int32))) * (1540483477 : Int32))) ^^^ ((b10 &&& (255 : Int32)) <<< ((16 : Int32) &&& 31))) ^^^ ((b9 &&& (255 : Int32)) <<< ((8 : Int32) &&& 31))) ^^^ (b8 &&& (255 : Int32))) * (1540483477 : Int32)) ^^^ (XT.ushr ((((((((191809427 : Int32) ^^^ (((((((b0 &&& (255 : Int32)) ||| ((b1 &&& (255 : Int32)) <<< ((8 : Int32) &&& 31))) ||| ((b2 &&& (255 : Int32)) <<< ((16 : Int32) &&& 31))) ||| ((b3 &&& (255 : Int32)) <<< ((24 : Int32) &&& 31))) * (1540483477 : Int32)) ^^^ (XT.ushr (((((b0 &&& (255 : Int32)) ||| ((b1 &&& (255 : Int32)) <<< ((8 : Int32) &&& 31))) ||| ((b2 &&& (255 : Int32)) <<< ((16 : Int32) &&& 31))) ||| ((b3 &&& (255 : Int32)) <<< ((24 : Int32) &&& 31))) * (1540483477 : Int32)) (24 : Int32))) * (1540483477 : Int32))) * (1540483477 : Int32)) ^^^ (((((((b4 &&& (255 : Int32)) ||| ((b5 &&& (255 : Int32)) <<< ((8 : Int32) &&& 31))) ||| ((b6 &&& (255 : Int32)) <<< ((16 : Int32) &&& 31))) ||| ((b7 &&& (255 : Int32)) <<< ((24 : Int32) &&& 31))) * (1540483477 : Int32)) ^^^ (XT.ushr (((((b4 &&& (255 : Int32)) ||| ((b5 &&& (255 : Int32)) <<< ((8 : Int32) &&& 31))) ||| ((b6 &&& (255 : Int32)) <<< ((16 : Int32) &&& 31))) ||| ((b7 &&& (255 : Int32)) <<< ((24 : Int32) &&& 31))) * (1540483477 : Int32)) (24 : Int32))) * (1540483477 : Int32))) ^^^ ((b10 &&& (255 : Int32)) <<< ((16 : Int32) &&& 31))) ^^^ ((b9 &&& (255 : Int32)) <<< ((8 : Int32) &&& 31))) ^^^ (b8 &&& (255 : Int32))) * (1540483477 : Int32)) (13 : Int32))) * (1540483477 : Int32)) (15 : Int32)))
set_option maxRecDepth 65536 in
set_option maxHeartbeats 40000000 in
theorem rm_mur11 (l : Launch) (Z : State) (a0 : Array Value) (hw : ∀ d ∈ tables_1, d.before a0 Z = true) (ar : Addr) (h0 : Heap) (n0 : Nat) (Z0 : n0 ≤ h0.size) (b0 : Int32) (b1 : Int32) (b2 : Int32) (b3 : Int32) (b4 : Int32) (b5 : Int32) (b6 : Int32) (b7 : Int32) (b8 : Int32) (b9 : Int32) (b10 : Int32) (A0 : IA Z h0 ar .byte [b0, b1, b2, b3, b4, b5, b6, b7, b8, b9, b10]) :
    Meets l (⟨"com/example/batchwright/batchwright/producer/Partitioner", "murmur2", "([B)I"⟩ : MethodName) prog_29_method_3_code 6 (some .int) ({ frames := 0, cells := 0, slots := 0, locals := 0 } : Room) Z #[(.ref ar)] h0 n0 (fun v h => v = some (Value.int (f_mur11 b0 b1 b2 b3 b4 b5 b6 b7 b8 b9 b10)) ∧ h = h0) := by
  refine meets_of (plainFor_of_name pn0) (Ls := #[.val (.ref ar), .unset, .unset, .unset, .unset, .unset]) (fun m => by first | (simp [entryFrame, mkF, argsToLocals, Value.category]; done) | rfl) ?_
  intro p e s m below meth c K
  replace K : Kx Z "com/example/batchwright/batchwright/producer/Partitioner" "murmur2" prog_29_method_3_code 6 (some .int) p s m meth c := K
  obtain ⟨Q, hQ⟩ : ∃ Q : Option Value → Heap → Prop, Q = (fun v h => v = some (Value.int (f_mur11 b0 b1 b2 b3 b4 b5 b6 b7 b8 b9 b10)) ∧ h = h0) := ⟨_, rfl⟩
  rw [← hQ]
  refine g_aloadN K 0 d1_0 rfl rfl ?_
  refine g_alen K 1 (11 : Int32) d1_1 A0 (show (11 : Nat).toInt32 = (11 : Int32) from by decide) ?_
  refine g_istoreN K 2 #[.val (.ref ar), .val (.int (11 : Int32)), .unset, .unset, .unset, .unset] d1_2 rfl ?_
  refine g_iloadN K 3 d1_3 rfl ?_
  refine g_iloadN K 4 d1_4 rfl ?_
  refine g_iconst K 5 (4 : Int32) d1_5 (by decide) ?_
  refine g_irem K 6 d1_6 (by decide) ?_
  rw [show ((11 : Int32) % (4 : Int32)) = (3 : Int32) from by decide]
  refine g_isub K 7 d1_7 ?_
  rw [show ((11 : Int32) - (3 : Int32)) = (8 : Int32) from by decide]
  refine g_istoreN K 8 #[.val (.ref ar), .val (.int (11 : Int32)), .val (.int (8 : Int32)), .unset, .unset, .unset] d1_8 rfl ?_
  refine g_ldc K 9 (v := (-1756908916 : Int32)) d1_9 (tw hw 7 rfl) ?_
  refine g_iloadN K 11 d1_11 rfl ?_
  refine g_ixor K 12 d1_12 ?_
  rw [show ((-1756908916 : Int32) ^^^ (11 : Int32)) = (-1756908921 : Int32) from by decide]
  refine g_istoreN K 13 #[.val (.ref ar), .val (.int (11 : Int32)), .val (.int (8 : Int32)), .val (.int (-1756908921 : Int32)), .unset, .unset] d1_13 rfl ?_
  refine g_iconst K 14 (0 : Int32) d1_14 (by decide) ?_
  refine g_istore K 15 #[.val (.ref ar), .val (.int (11 : Int32)), .val (.int (8 : Int32)), .val (.int (-1756908921 : Int32)), .val (.int (0 : Int32)), .unset] d1_15 rfl ?_
  refine g_iload K 17 d1_17 rfl ?_
  refine g_iloadN K 19 d1_19 rfl ?_
  refine g_ii_ge K 20 115 d1_20 (by decide) (by decide) ?_ ?_
  · intro c1
    exact absurd c1 (by decide)
  · intro c1
    refine g_aloadN K 23 d1_23 rfl rfl ?_
    refine g_iload K 24 d1_24 rfl ?_
    refine g_baload K 26 b0 d1_26 A0 (by decide) (by rw [show (0 : Int32).toNatClampNeg = 0 from by decide]; rfl) ?_
    refine g_sipush K 27 (255 : Int32) d1_27 (by decide) ?_
    refine g_iand K 30 d1_30 ?_
    refine g_aloadN K 31 d1_31 rfl rfl ?_
    refine g_iload K 32 d1_32 rfl ?_
    refine g_iconst K 34 (1 : Int32) d1_34 (by decide) ?_
    refine g_iadd K 35 d1_35 ?_
    rw [show ((0 : Int32) + (1 : Int32)) = (1 : Int32) from by decide]
    refine g_baload K 36 b1 d1_36 A0 (by decide) (by rw [show (1 : Int32).toNatClampNeg = 1 from by decide]; rfl) ?_
    refine g_sipush K 37 (255 : Int32) d1_37 (by decide) ?_
    refine g_iand K 40 d1_40 ?_
    refine g_bipush K 41 (8 : Int32) d1_41 (by decide) ?_
    refine g_ishl K 43 d1_43 ?_
    refine g_ior K 44 d1_44 ?_
    refine g_aloadN K 45 d1_45 rfl rfl ?_
    refine g_iload K 46 d1_46 rfl ?_
    refine g_iconst K 48 (2 : Int32) d1_48 (by decide) ?_
    refine g_iadd K 49 d1_49 ?_
    rw [show ((0 : Int32) + (2 : Int32)) = (2 : Int32) from by decide]
    refine g_baload K 50 b2 d1_50 A0 (by decide) (by rw [show (2 : Int32).toNatClampNeg = 2 from by decide]; rfl) ?_
    refine g_sipush K 51 (255 : Int32) d1_51 (by decide) ?_
    refine g_iand K 54 d1_54 ?_
    refine g_bipush K 55 (16 : Int32) d1_55 (by decide) ?_
    refine g_ishl K 57 d1_57 ?_
    refine g_ior K 58 d1_58 ?_
    refine g_aloadN K 59 d1_59 rfl rfl ?_
    refine g_iload K 60 d1_60 rfl ?_
    refine g_iconst K 62 (3 : Int32) d1_62 (by decide) ?_
    refine g_iadd K 63 d1_63 ?_
    rw [show ((0 : Int32) + (3 : Int32)) = (3 : Int32) from by decide]
    refine g_baload K 64 b3 d1_64 A0 (by decide) (by rw [show (3 : Int32).toNatClampNeg = 3 from by decide]; rfl) ?_
    refine g_sipush K 65 (255 : Int32) d1_65 (by decide) ?_
    refine g_iand K 68 d1_68 ?_
    refine g_bipush K 69 (24 : Int32) d1_69 (by decide) ?_
    refine g_ishl K 71 d1_71 ?_
    refine g_ior K 72 d1_72 ?_
    refine g_istore K 73 #[.val (.ref ar), .val (.int (11 : Int32)), .val (.int (8 : Int32)), .val (.int (-1756908921 : Int32)), .val (.int (0 : Int32)), .val (.int ((((b0 &&& (255 : Int32)) ||| ((b1 &&& (255 : Int32)) <<< ((8 : Int32) &&& 31))) ||| ((b2 &&& (255 : Int32)) <<< ((16 : Int32) &&& 31))) ||| ((b3 &&& (255 : Int32)) <<< ((24 : Int32) &&& 31))))] d1_73 rfl ?_
    refine g_iload K 75 d1_75 rfl ?_
    refine g_ldc K 77 (v := (1540483477 : Int32)) d1_77 (tw hw 8 rfl) ?_
    refine g_imul K 79 d1_79 ?_
    refine g_istore K 80 #[.val (.ref ar), .val (.int (11 : Int32)), .val (.int (8 : Int32)), .val (.int (-1756908921 : Int32)), .val (.int (0 : Int32)), .val (.int (((((b0 &&& (255 : Int32)) ||| ((b1 &&& (255 : Int32)) <<< ((8 : Int32) &&& 31))) ||| ((b2 &&& (255 : Int32)) <<< ((16 : Int32) &&& 31))) ||| ((b3 &&& (255 : Int32)) <<< ((24 : Int32) &&& 31))) * (1540483477 : Int32)))] d1_80 rfl ?_
    refine g_iload K 82 d1_82 rfl ?_
    refine g_iload K 84 d1_84 rfl ?_
    refine g_bipush K 86 (24 : Int32) d1_86 (by decide) ?_
    refine g_iushr K 88 d1_88 ?_
    refine g_ixor K 89 d1_89 ?_
    refine g_istore K 90 #[.val (.ref ar), .val (.int (11 : Int32)), .val (.int (8 : Int32)), .val (.int (-1756908921 : Int32)), .val (.int (0 : Int32)), .val (.int ((((((b0 &&& (255 : Int32)) ||| ((b1 &&& (255 : Int32)) <<< ((8 : Int32) &&& 31))) ||| ((b2 &&& (255 : Int32)) <<< ((16 : Int32) &&& 31))) ||| ((b3 &&& (255 : Int32)) <<< ((24 : Int32) &&& 31))) * (1540483477 : Int32)) ^^^ (XT.ushr (((((b0 &&& (255 : Int32)) ||| ((b1 &&& (255 : Int32)) <<< ((8 : Int32) &&& 31))) ||| ((b2 &&& (255 : Int32)) <<< ((16 : Int32) &&& 31))) ||| ((b3 &&& (255 : Int32)) <<< ((24 : Int32) &&& 31))) * (1540483477 : Int32)) (24 : Int32))))] d1_90 rfl ?_
    refine g_iload K 92 d1_92 rfl ?_
    refine g_ldc K 94 (v := (1540483477 : Int32)) d1_94 (tw hw 8 rfl) ?_
    refine g_imul K 96 d1_96 ?_
    refine g_istore K 97 #[.val (.ref ar), .val (.int (11 : Int32)), .val (.int (8 : Int32)), .val (.int (-1756908921 : Int32)), .val (.int (0 : Int32)), .val (.int (((((((b0 &&& (255 : Int32)) ||| ((b1 &&& (255 : Int32)) <<< ((8 : Int32) &&& 31))) ||| ((b2 &&& (255 : Int32)) <<< ((16 : Int32) &&& 31))) ||| ((b3 &&& (255 : Int32)) <<< ((24 : Int32) &&& 31))) * (1540483477 : Int32)) ^^^ (XT.ushr (((((b0 &&& (255 : Int32)) ||| ((b1 &&& (255 : Int32)) <<< ((8 : Int32) &&& 31))) ||| ((b2 &&& (255 : Int32)) <<< ((16 : Int32) &&& 31))) ||| ((b3 &&& (255 : Int32)) <<< ((24 : Int32) &&& 31))) * (1540483477 : Int32)) (24 : Int32))) * (1540483477 : Int32)))] d1_97 rfl ?_
    refine g_iloadN K 99 d1_99 rfl ?_
    refine g_ldc K 100 (v := (1540483477 : Int32)) d1_100 (tw hw 8 rfl) ?_
    refine g_imul K 102 d1_102 ?_
    rw [show ((-1756908921 : Int32) * (1540483477 : Int32)) = (191809427 : Int32) from by decide]
    refine g_istoreN K 103 #[.val (.ref ar), .val (.int (11 : Int32)), .val (.int (8 : Int32)), .val (.int (191809427 : Int32)), .val (.int (0 : Int32)), .val (.int (((((((b0 &&& (255 : Int32)) ||| ((b1 &&& (255 : Int32)) <<< ((8 : Int32) &&& 31))) ||| ((b2 &&& (255 : Int32)) <<< ((16 : Int32) &&& 31))) ||| ((b3 &&& (255 : Int32)) <<< ((24 : Int32) &&& 31))) * (1540483477 : Int32)) ^^^ (XT.ushr (((((b0 &&& (255 : Int32)) ||| ((b1 &&& (255 : Int32)) <<< ((8 : Int32) &&& 31))) ||| ((b2 &&& (255 : Int32)) <<< ((16 : Int32) &&& 31))) ||| ((b3 &&& (255 : Int32)) <<< ((24 : Int32) &&& 31))) * (1540483477 : Int32)) (24 : Int32))) * (1540483477 : Int32)))] d1_103 rfl ?_
    refine g_iloadN K 104 d1_104 rfl ?_
    refine g_iload K 105 d1_105 rfl ?_
    refine g_ixor K 107 d1_107 ?_
    refine g_istoreN K 108 #[.val (.ref ar), .val (.int (11 : Int32)), .val (.int (8 : Int32)), .val (.int ((191809427 : Int32) ^^^ (((((((b0 &&& (255 : Int32)) ||| ((b1 &&& (255 : Int32)) <<< ((8 : Int32) &&& 31))) ||| ((b2 &&& (255 : Int32)) <<< ((16 : Int32) &&& 31))) ||| ((b3 &&& (255 : Int32)) <<< ((24 : Int32) &&& 31))) * (1540483477 : Int32)) ^^^ (XT.ushr (((((b0 &&& (255 : Int32)) ||| ((b1 &&& (255 : Int32)) <<< ((8 : Int32) &&& 31))) ||| ((b2 &&& (255 : Int32)) <<< ((16 : Int32) &&& 31))) ||| ((b3 &&& (255 : Int32)) <<< ((24 : Int32) &&& 31))) * (1540483477 : Int32)) (24 : Int32))) * (1540483477 : Int32)))), .val (.int (0 : Int32)), .val (.int (((((((b0 &&& (255 : Int32)) ||| ((b1 &&& (255 : Int32)) <<< ((8 : Int32) &&& 31))) ||| ((b2 &&& (255 : Int32)) <<< ((16 : Int32) &&& 31))) ||| ((b3 &&& (255 : Int32)) <<< ((24 : Int32) &&& 31))) * (1540483477 : Int32)) ^^^ (XT.ushr (((((b0 &&& (255 : Int32)) ||| ((b1 &&& (255 : Int32)) <<< ((8 : Int32) &&& 31))) ||| ((b2 &&& (255 : Int32)) <<< ((16 : Int32) &&& 31))) ||| ((b3 &&& (255 : Int32)) <<< ((24 : Int32) &&& 31))) * (1540483477 : Int32)) (24 : Int32))) * (1540483477 : Int32)))] d1_108 rfl ?_
    refine g_iinc K 109 (4 : Int32) #[.val (.ref ar), .val (.int (11 : Int32)), .val (.int (8 : Int32)), .val (.int ((191809427 : Int32) ^^^ (((((((b0 &&& (255 : Int32)) ||| ((b1 &&& (255 : Int32)) <<< ((8 : Int32) &&& 31))) ||| ((b2 &&& (255 : Int32)) <<< ((16 : Int32) &&& 31))) ||| ((b3 &&& (255 : Int32)) <<< ((24 : Int32) &&& 31))) * (1540483477 : Int32)) ^^^ (XT.ushr (((((b0 &&& (255 : Int32)) ||| ((b1 &&& (255 : Int32)) <<< ((8 : Int32) &&& 31))) ||| ((b2 &&& (255 : Int32)) <<< ((16 : Int32) &&& 31))) ||| ((b3 &&& (255 : Int32)) <<< ((24 : Int32) &&& 31))) * (1540483477 : Int32)) (24 : Int32))) * (1540483477 : Int32)))), .val (.int ((0 : Int32) + (4 : Int32))), .val (.int (((((((b0 &&& (255 : Int32)) ||| ((b1 &&& (255 : Int32)) <<< ((8 : Int32) &&& 31))) ||| ((b2 &&& (255 : Int32)) <<< ((16 : Int32) &&& 31))) ||| ((b3 &&& (255 : Int32)) <<< ((24 : Int32) &&& 31))) * (1540483477 : Int32)) ^^^ (XT.ushr (((((b0 &&& (255 : Int32)) ||| ((b1 &&& (255 : Int32)) <<< ((8 : Int32) &&& 31))) ||| ((b2 &&& (255 : Int32)) <<< ((16 : Int32) &&& 31))) ||| ((b3 &&& (255 : Int32)) <<< ((24 : Int32) &&& 31))) * (1540483477 : Int32)) (24 : Int32))) * (1540483477 : Int32)))] d1_109 (by decide) rfl rfl ?_
    rw [show ((0 : Int32) + (4 : Int32)) = (4 : Int32) from by decide]
    refine g_goto K 112 17 d1_112 (by decide) (by decide) ?_
    refine g_iload K 17 d1_17 rfl ?_
    refine g_iloadN K 19 d1_19 rfl ?_
    refine g_ii_ge K 20 115 d1_20 (by decide) (by decide) ?_ ?_
    · intro c2
      exact absurd c2 (by decide)
    · intro c2
      refine g_aloadN K 23 d1_23 rfl rfl ?_
      refine g_iload K 24 d1_24 rfl ?_
      refine g_baload K 26 b4 d1_26 A0 (by decide) (by rw [show (4 : Int32).toNatClampNeg = 4 from by decide]; rfl) ?_
      refine g_sipush K 27 (255 : Int32) d1_27 (by decide) ?_
      refine g_iand K 30 d1_30 ?_
      refine g_aloadN K 31 d1_31 rfl rfl ?_
      refine g_iload K 32 d1_32 rfl ?_
      refine g_iconst K 34 (1 : Int32) d1_34 (by decide) ?_
      refine g_iadd K 35 d1_35 ?_
      rw [show ((4 : Int32) + (1 : Int32)) = (5 : Int32) from by decide]
      refine g_baload K 36 b5 d1_36 A0 (by decide) (by rw [show (5 : Int32).toNatClampNeg = 5 from by decide]; rfl) ?_
      refine g_sipush K 37 (255 : Int32) d1_37 (by decide) ?_
      refine g_iand K 40 d1_40 ?_
      refine g_bipush K 41 (8 : Int32) d1_41 (by decide) ?_
      refine g_ishl K 43 d1_43 ?_
      refine g_ior K 44 d1_44 ?_
      refine g_aloadN K 45 d1_45 rfl rfl ?_
      refine g_iload K 46 d1_46 rfl ?_
      refine g_iconst K 48 (2 : Int32) d1_48 (by decide) ?_
      refine g_iadd K 49 d1_49 ?_
      rw [show ((4 : Int32) + (2 : Int32)) = (6 : Int32) from by decide]
      refine g_baload K 50 b6 d1_50 A0 (by decide) (by rw [show (6 : Int32).toNatClampNeg = 6 from by decide]; rfl) ?_
      refine g_sipush K 51 (255 : Int32) d1_51 (by decide) ?_
      refine g_iand K 54 d1_54 ?_
      refine g_bipush K 55 (16 : Int32) d1_55 (by decide) ?_
      refine g_ishl K 57 d1_57 ?_
      refine g_ior K 58 d1_58 ?_
      refine g_aloadN K 59 d1_59 rfl rfl ?_
      refine g_iload K 60 d1_60 rfl ?_
      refine g_iconst K 62 (3 : Int32) d1_62 (by decide) ?_
      refine g_iadd K 63 d1_63 ?_
      rw [show ((4 : Int32) + (3 : Int32)) = (7 : Int32) from by decide]
      refine g_baload K 64 b7 d1_64 A0 (by decide) (by rw [show (7 : Int32).toNatClampNeg = 7 from by decide]; rfl) ?_
      refine g_sipush K 65 (255 : Int32) d1_65 (by decide) ?_
      refine g_iand K 68 d1_68 ?_
      refine g_bipush K 69 (24 : Int32) d1_69 (by decide) ?_
      refine g_ishl K 71 d1_71 ?_
      refine g_ior K 72 d1_72 ?_
      refine g_istore K 73 #[.val (.ref ar), .val (.int (11 : Int32)), .val (.int (8 : Int32)), .val (.int ((191809427 : Int32) ^^^ (((((((b0 &&& (255 : Int32)) ||| ((b1 &&& (255 : Int32)) <<< ((8 : Int32) &&& 31))) ||| ((b2 &&& (255 : Int32)) <<< ((16 : Int32) &&& 31))) ||| ((b3 &&& (255 : Int32)) <<< ((24 : Int32) &&& 31))) * (1540483477 : Int32)) ^^^ (XT.ushr (((((b0 &&& (255 : Int32)) ||| ((b1 &&& (255 : Int32)) <<< ((8 : Int32) &&& 31))) ||| ((b2 &&& (255 : Int32)) <<< ((16 : Int32) &&& 31))) ||| ((b3 &&& (255 : Int32)) <<< ((24 : Int32) &&& 31))) * (1540483477 : Int32)) (24 : Int32))) * (1540483477 : Int32)))), .val (.int (4 : Int32)), .val (.int ((((b4 &&& (255 : Int32)) ||| ((b5 &&& (255 : Int32)) <<< ((8 : Int32) &&& 31))) ||| ((b6 &&& (255 : Int32)) <<< ((16 : Int32) &&& 31))) ||| ((b7 &&& (255 : Int32)) <<< ((24 : Int32) &&& 31))))] d1_73 rfl ?_
      refine g_iload K 75 d1_75 rfl ?_
      refine g_ldc K 77 (v := (1540483477 : Int32)) d1_77 (tw hw 8 rfl) ?_
      refine g_imul K 79 d1_79 ?_
      refine g_istore K 80 #[.val (.ref ar), .val (.int (11 : Int32)), .val (.int (8 : Int32)), .val (.int ((191809427 : Int32) ^^^ (((((((b0 &&& (255 : Int32)) ||| ((b1 &&& (255 : Int32)) <<< ((8 : Int32) &&& 31))) ||| ((b2 &&& (255 : Int32)) <<< ((16 : Int32) &&& 31))) ||| ((b3 &&& (255 : Int32)) <<< ((24 : Int32) &&& 31))) * (1540483477 : Int32)) ^^^ (XT.ushr (((((b0 &&& (255 : Int32)) ||| ((b1 &&& (255 : Int32)) <<< ((8 : Int32) &&& 31))) ||| ((b2 &&& (255 : Int32)) <<< ((16 : Int32) &&& 31))) ||| ((b3 &&& (255 : Int32)) <<< ((24 : Int32) &&& 31))) * (1540483477 : Int32)) (24 : Int32))) * (1540483477 : Int32)))), .val (.int (4 : Int32)), .val (.int (((((b4 &&& (255 : Int32)) ||| ((b5 &&& (255 : Int32)) <<< ((8 : Int32) &&& 31))) ||| ((b6 &&& (255 : Int32)) <<< ((16 : Int32) &&& 31))) ||| ((b7 &&& (255 : Int32)) <<< ((24 : Int32) &&& 31))) * (1540483477 : Int32)))] d1_80 rfl ?_
      refine g_iload K 82 d1_82 rfl ?_
      refine g_iload K 84 d1_84 rfl ?_
      refine g_bipush K 86 (24 : Int32) d1_86 (by decide) ?_
      refine g_iushr K 88 d1_88 ?_
      refine g_ixor K 89 d1_89 ?_
      refine g_istore K 90 #[.val (.ref ar), .val (.int (11 : Int32)), .val (.int (8 : Int32)), .val (.int ((191809427 : Int32) ^^^ (((((((b0 &&& (255 : Int32)) ||| ((b1 &&& (255 : Int32)) <<< ((8 : Int32) &&& 31))) ||| ((b2 &&& (255 : Int32)) <<< ((16 : Int32) &&& 31))) ||| ((b3 &&& (255 : Int32)) <<< ((24 : Int32) &&& 31))) * (1540483477 : Int32)) ^^^ (XT.ushr (((((b0 &&& (255 : Int32)) ||| ((b1 &&& (255 : Int32)) <<< ((8 : Int32) &&& 31))) ||| ((b2 &&& (255 : Int32)) <<< ((16 : Int32) &&& 31))) ||| ((b3 &&& (255 : Int32)) <<< ((24 : Int32) &&& 31))) * (1540483477 : Int32)) (24 : Int32))) * (1540483477 : Int32)))), .val (.int (4 : Int32)), .val (.int ((((((b4 &&& (255 : Int32)) ||| ((b5 &&& (255 : Int32)) <<< ((8 : Int32) &&& 31))) ||| ((b6 &&& (255 : Int32)) <<< ((16 : Int32) &&& 31))) ||| ((b7 &&& (255 : Int32)) <<< ((24 : Int32) &&& 31))) * (1540483477 : Int32)) ^^^ (XT.ushr (((((b4 &&& (255 : Int32)) ||| ((b5 &&& (255 : Int32)) <<< ((8 : Int32) &&& 31))) ||| ((b6 &&& (255 : Int32)) <<< ((16 : Int32) &&& 31))) ||| ((b7 &&& (255 : Int32)) <<< ((24 : Int32) &&& 31))) * (1540483477 : Int32)) (24 : Int32))))] d1_90 rfl ?_
      refine g_iload K 92 d1_92 rfl ?_
      refine g_ldc K 94 (v := (1540483477 : Int32)) d1_94 (tw hw 8 rfl) ?_
      refine g_imul K 96 d1_96 ?_
      refine g_istore K 97 #[.val (.ref ar), .val (.int (11 : Int32)), .val (.int (8 : Int32)), .val (.int ((191809427 : Int32) ^^^ (((((((b0 &&& (255 : Int32)) ||| ((b1 &&& (255 : Int32)) <<< ((8 : Int32) &&& 31))) ||| ((b2 &&& (255 : Int32)) <<< ((16 : Int32) &&& 31))) ||| ((b3 &&& (255 : Int32)) <<< ((24 : Int32) &&& 31))) * (1540483477 : Int32)) ^^^ (XT.ushr (((((b0 &&& (255 : Int32)) ||| ((b1 &&& (255 : Int32)) <<< ((8 : Int32) &&& 31))) ||| ((b2 &&& (255 : Int32)) <<< ((16 : Int32) &&& 31))) ||| ((b3 &&& (255 : Int32)) <<< ((24 : Int32) &&& 31))) * (1540483477 : Int32)) (24 : Int32))) * (1540483477 : Int32)))), .val (.int (4 : Int32)), .val (.int (((((((b4 &&& (255 : Int32)) ||| ((b5 &&& (255 : Int32)) <<< ((8 : Int32) &&& 31))) ||| ((b6 &&& (255 : Int32)) <<< ((16 : Int32) &&& 31))) ||| ((b7 &&& (255 : Int32)) <<< ((24 : Int32) &&& 31))) * (1540483477 : Int32)) ^^^ (XT.ushr (((((b4 &&& (255 : Int32)) ||| ((b5 &&& (255 : Int32)) <<< ((8 : Int32) &&& 31))) ||| ((b6 &&& (255 : Int32)) <<< ((16 : Int32) &&& 31))) ||| ((b7 &&& (255 : Int32)) <<< ((24 : Int32) &&& 31))) * (1540483477 : Int32)) (24 : Int32))) * (1540483477 : Int32)))] d1_97 rfl ?_
      refine g_iloadN K 99 d1_99 rfl ?_
      refine g_ldc K 100 (v := (1540483477 : Int32)) d1_100 (tw hw 8 rfl) ?_
      refine g_imul K 102 d1_102 ?_
      refine g_istoreN K 103 #[.val (.ref ar), .val (.int (11 : Int32)), .val (.int (8 : Int32)), .val (.int (((191809427 : Int32) ^^^ (((((((b0 &&& (255 : Int32)) ||| ((b1 &&& (255 : Int32)) <<< ((8 : Int32) &&& 31))) ||| ((b2 &&& (255 : Int32)) <<< ((16 : Int32) &&& 31))) ||| ((b3 &&& (255 : Int32)) <<< ((24 : Int32) &&& 31))) * (1540483477 : Int32)) ^^^ (XT.ushr (((((b0 &&& (255 : Int32)) ||| ((b1 &&& (255 : Int32)) <<< ((8 : Int32) &&& 31))) ||| ((b2 &&& (255 : Int32)) <<< ((16 : Int32) &&& 31))) ||| ((b3 &&& (255 : Int32)) <<< ((24 : Int32) &&& 31))) * (1540483477 : Int32)) (24 : Int32))) * (1540483477 : Int32))) * (1540483477 : Int32))), .val (.int (4 : Int32)), .val (.int (((((((b4 &&& (255 : Int32)) ||| ((b5 &&& (255 : Int32)) <<< ((8 : Int32) &&& 31))) ||| ((b6 &&& (255 : Int32)) <<< ((16 : Int32) &&& 31))) ||| ((b7 &&& (255 : Int32)) <<< ((24 : Int32) &&& 31))) * (1540483477 : Int32)) ^^^ (XT.ushr (((((b4 &&& (255 : Int32)) ||| ((b5 &&& (255 : Int32)) <<< ((8 : Int32) &&& 31))) ||| ((b6 &&& (255 : Int32)) <<< ((16 : Int32) &&& 31))) ||| ((b7 &&& (255 : Int32)) <<< ((24 : Int32) &&& 31))) * (1540483477 : Int32)) (24 : Int32))) * (1540483477 : Int32)))] d1_103 rfl ?_
      refine g_iloadN K 104 d1_104 rfl ?_
      refine g_iload K 105 d1_105 rfl ?_
      refine g_ixor K 107 d1_107 ?_
      refine g_istoreN K 108 #[.val (.ref ar), .val (.int (11 : Int32)), .val (.int (8 : Int32)), .val (.int ((((191809427 : Int32) ^^^ (((((((b0 &&& (255 : Int32)) ||| ((b1 &&& (255 : Int32)) <<< ((8 : Int32) &&& 31))) ||| ((b2 &&& (255 : Int32)) <<< ((16 : Int32) &&& 31))) ||| ((b3 &&& (255 : Int32)) <<< ((24 : Int32) &&& 31))) * (1540483477 : Int32)) ^^^ (XT.ushr (((((b0 &&& (255 : Int32)) ||| ((b1 &&& (255 : Int32)) <<< ((8 : Int32) &&& 31))) ||| ((b2 &&& (255 : Int32)) <<< ((16 : Int32) &&& 31))) ||| ((b3 &&& (255 : Int32)) <<< ((24 : Int32) &&& 31))) * (1540483477 : Int32)) (24 : Int32))) * (1540483477 : Int32))) * (1540483477 : Int32)) ^^^ (((((((b4 &&& (255 : Int32)) ||| ((b5 &&& (255 : Int32)) <<< ((8 : Int32) &&& 31))) ||| ((b6 &&& (255 : Int32)) <<< ((16 : Int32) &&& 31))) ||| ((b7 &&& (255 : Int32)) <<< ((24 : Int32) &&& 31))) * (1540483477 : Int32)) ^^^ (XT.ushr (((((b4 &&& (255 : Int32)) ||| ((b5 &&& (255 : Int32)) <<< ((8 : Int32) &&& 31))) ||| ((b6 &&& (255 : Int32)) <<< ((16 : Int32) &&& 31))) ||| ((b7 &&& (255 : Int32)) <<< ((24 : Int32) &&& 31))) * (1540483477 : Int32)) (24 : Int32))) * (1540483477 : Int32)))), .val (.int (4 : Int32)), .val (.int (((((((b4 &&& (255 : Int32)) ||| ((b5 &&& (255 : Int32)) <<< ((8 : Int32) &&& 31))) ||| ((b6 &&& (255 : Int32)) <<< ((16 : Int32) &&& 31))) ||| ((b7 &&& (255 : Int32)) <<< ((24 : Int32) &&& 31))) * (1540483477 : Int32)) ^^^ (XT.ushr (((((b4 &&& (255 : Int32)) ||| ((b5 &&& (255 : Int32)) <<< ((8 : Int32) &&& 31))) ||| ((b6 &&& (255 : Int32)) <<< ((16 : Int32) &&& 31))) ||| ((b7 &&& (255 : Int32)) <<< ((24 : Int32) &&& 31))) * (1540483477 : Int32)) (24 : Int32))) * (1540483477 : Int32)))] d1_108 rfl ?_
      refine g_iinc K 109 (4 : Int32) #[.val (.ref ar), .val (.int (11 : Int32)), .val (.int (8 : Int32)), .val (.int ((((191809427 : Int32) ^^^ (((((((b0 &&& (255 : Int32)) ||| ((b1 &&& (255 : Int32)) <<< ((8 : Int32) &&& 31))) ||| ((b2 &&& (255 : Int32)) <<< ((16 : Int32) &&& 31))) ||| ((b3 &&& (255 : Int32)) <<< ((24 : Int32) &&& 31))) * (1540483477 : Int32)) ^^^ (XT.ushr (((((b0 &&& (255 : Int32)) ||| ((b1 &&& (255 : Int32)) <<< ((8 : Int32) &&& 31))) ||| ((b2 &&& (255 : Int32)) <<< ((16 : Int32) &&& 31))) ||| ((b3 &&& (255 : Int32)) <<< ((24 : Int32) &&& 31))) * (1540483477 : Int32)) (24 : Int32))) * (1540483477 : Int32))) * (1540483477 : Int32)) ^^^ (((((((b4 &&& (255 : Int32)) ||| ((b5 &&& (255 : Int32)) <<< ((8 : Int32) &&& 31))) ||| ((b6 &&& (255 : Int32)) <<< ((16 : Int32) &&& 31))) ||| ((b7 &&& (255 : Int32)) <<< ((24 : Int32) &&& 31))) * (1540483477 : Int32)) ^^^ (XT.ushr (((((b4 &&& (255 : Int32)) ||| ((b5 &&& (255 : Int32)) <<< ((8 : Int32) &&& 31))) ||| ((b6 &&& (255 : Int32)) <<< ((16 : Int32) &&& 31))) ||| ((b7 &&& (255 : Int32)) <<< ((24 : Int32) &&& 31))) * (1540483477 : Int32)) (24 : Int32))) * (1540483477 : Int32)))), .val (.int ((4 : Int32) + (4 : Int32))), .val (.int (((((((b4 &&& (255 : Int32)) ||| ((b5 &&& (255 : Int32)) <<< ((8 : Int32) &&& 31))) ||| ((b6 &&& (255 : Int32)) <<< ((16 : Int32) &&& 31))) ||| ((b7 &&& (255 : Int32)) <<< ((24 : Int32) &&& 31))) * (1540483477 : Int32)) ^^^ (XT.ushr (((((b4 &&& (255 : Int32)) ||| ((b5 &&& (255 : Int32)) <<< ((8 : Int32) &&& 31))) ||| ((b6 &&& (255 : Int32)) <<< ((16 : Int32) &&& 31))) ||| ((b7 &&& (255 : Int32)) <<< ((24 : Int32) &&& 31))) * (1540483477 : Int32)) (24 : Int32))) * (1540483477 : Int32)))] d1_109 (by decide) rfl rfl ?_
      rw [show ((4 : Int32) + (4 : Int32)) = (8 : Int32) from by decide]
      refine g_goto K 112 17 d1_112 (by decide) (by decide) ?_
      refine g_iload K 17 d1_17 rfl ?_
      refine g_iloadN K 19 d1_19 rfl ?_
      refine g_ii_ge K 20 115 d1_20 (by decide) (by decide) ?_ ?_
      · intro c3
        refine g_iloadN K 115 d1_115 rfl ?_
        refine g_iloadN K 116 d1_116 rfl ?_
        refine g_isub K 117 d1_117 ?_
        rw [show ((11 : Int32) - (8 : Int32)) = (3 : Int32) from by decide]
        refine g_istore K 118 #[.val (.ref ar), .val (.int (11 : Int32)), .val (.int (8 : Int32)), .val (.int ((((191809427 : Int32) ^^^ (((((((b0 &&& (255 : Int32)) ||| ((b1 &&& (255 : Int32)) <<< ((8 : Int32) &&& 31))) ||| ((b2 &&& (255 : Int32)) <<< ((16 : Int32) &&& 31))) ||| ((b3 &&& (255 : Int32)) <<< ((24 : Int32) &&& 31))) * (1540483477 : Int32)) ^^^ (XT.ushr (((((b0 &&& (255 : Int32)) ||| ((b1 &&& (255 : Int32)) <<< ((8 : Int32) &&& 31))) ||| ((b2 &&& (255 : Int32)) <<< ((16 : Int32) &&& 31))) ||| ((b3 &&& (255 : Int32)) <<< ((24 : Int32) &&& 31))) * (1540483477 : Int32)) (24 : Int32))) * (1540483477 : Int32))) * (1540483477 : Int32)) ^^^ (((((((b4 &&& (255 : Int32)) ||| ((b5 &&& (255 : Int32)) <<< ((8 : Int32) &&& 31))) ||| ((b6 &&& (255 : Int32)) <<< ((16 : Int32) &&& 31))) ||| ((b7 &&& (255 : Int32)) <<< ((24 : Int32) &&& 31))) * (1540483477 : Int32)) ^^^ (XT.ushr (((((b4 &&& (255 : Int32)) ||| ((b5 &&& (255 : Int32)) <<< ((8 : Int32) &&& 31))) ||| ((b6 &&& (255 : Int32)) <<< ((16 : Int32) &&& 31))) ||| ((b7 &&& (255 : Int32)) <<< ((24 : Int32) &&& 31))) * (1540483477 : Int32)) (24 : Int32))) * (1540483477 : Int32)))), .val (.int (3 : Int32)), .val (.int (((((((b4 &&& (255 : Int32)) ||| ((b5 &&& (255 : Int32)) <<< ((8 : Int32) &&& 31))) ||| ((b6 &&& (255 : Int32)) <<< ((16 : Int32) &&& 31))) ||| ((b7 &&& (255 : Int32)) <<< ((24 : Int32) &&& 31))) * (1540483477 : Int32)) ^^^ (XT.ushr (((((b4 &&& (255 : Int32)) ||| ((b5 &&& (255 : Int32)) <<< ((8 : Int32) &&& 31))) ||| ((b6 &&& (255 : Int32)) <<< ((16 : Int32) &&& 31))) ||| ((b7 &&& (255 : Int32)) <<< ((24 : Int32) &&& 31))) * (1540483477 : Int32)) (24 : Int32))) * (1540483477 : Int32)))] d1_118 rfl ?_
        refine g_iload K 120 d1_120 rfl ?_
        refine g_iconst K 122 (3 : Int32) d1_122 (by decide) ?_
        refine g_ii_ne K 123 141 d1_123 (by decide) (by decide) ?_ ?_
        · intro c4
          exact absurd c4 (by decide)
        · intro c4
          refine g_iloadN K 126 d1_126 rfl ?_
          refine g_aloadN K 127 d1_127 rfl rfl ?_
          refine g_iloadN K 128 d1_128 rfl ?_
          refine g_iconst K 129 (2 : Int32) d1_129 (by decide) ?_
          refine g_iadd K 130 d1_130 ?_
          rw [show ((8 : Int32) + (2 : Int32)) = (10 : Int32) from by decide]
          refine g_baload K 131 b10 d1_131 A0 (by decide) (by rw [show (10 : Int32).toNatClampNeg = 10 from by decide]; rfl) ?_
          refine g_sipush K 132 (255 : Int32) d1_132 (by decide) ?_
          refine g_iand K 135 d1_135 ?_
          refine g_bipush K 136 (16 : Int32) d1_136 (by decide) ?_
          refine g_ishl K 138 d1_138 ?_
          refine g_ixor K 139 d1_139 ?_
          refine g_istoreN K 140 #[.val (.ref ar), .val (.int (11 : Int32)), .val (.int (8 : Int32)), .val (.int (((((191809427 : Int32) ^^^ (((((((b0 &&& (255 : Int32)) ||| ((b1 &&& (255 : Int32)) <<< ((8 : Int32) &&& 31))) ||| ((b2 &&& (255 : Int32)) <<< ((16 : Int32) &&& 31))) ||| ((b3 &&& (255 : Int32)) <<< ((24 : Int32) &&& 31))) * (1540483477 : Int32)) ^^^ (XT.ushr (((((b0 &&& (255 : Int32)) ||| ((b1 &&& (255 : Int32)) <<< ((8 : Int32) &&& 31))) ||| ((b2 &&& (255 : Int32)) <<< ((16 : Int32) &&& 31))) ||| ((b3 &&& (255 : Int32)) <<< ((24 : Int32) &&& 31))) * (1540483477 : Int32)) (24 : Int32))) * (1540483477 : Int32))) * (1540483477 : Int32)) ^^^ (((((((b4 &&& (255 : Int32)) ||| ((b5 &&& (255 : Int32)) <<< ((8 : Int32) &&& 31))) ||| ((b6 &&& (255 : Int32)) <<< ((16 : Int32) &&& 31))) ||| ((b7 &&& (255 : Int32)) <<< ((24 : Int32) &&& 31))) * (1540483477 : Int32)) ^^^ (XT.ushr (((((b4 &&& (255 : Int32)) ||| ((b5 &&& (255 : Int32)) <<< ((8 : Int32) &&& 31))) ||| ((b6 &&& (255 : Int32)) <<< ((16 : Int32) &&& 31))) ||| ((b7 &&& (255 : Int32)) <<< ((24 : Int32) &&& 31))) * (1540483477 : Int32)) (24 : Int32))) * (1540483477 : Int32))) ^^^ ((b10 &&& (255 : Int32)) <<< ((16 : Int32) &&& 31)))), .val (.int (3 : Int32)), .val (.int (((((((b4 &&& (255 : Int32)) ||| ((b5 &&& (255 : Int32)) <<< ((8 : Int32) &&& 31))) ||| ((b6 &&& (255 : Int32)) <<< ((16 : Int32) &&& 31))) ||| ((b7 &&& (255 : Int32)) <<< ((24 : Int32) &&& 31))) * (1540483477 : Int32)) ^^^ (XT.ushr (((((b4 &&& (255 : Int32)) ||| ((b5 &&& (255 : Int32)) <<< ((8 : Int32) &&& 31))) ||| ((b6 &&& (255 : Int32)) <<< ((16 : Int32) &&& 31))) ||| ((b7 &&& (255 : Int32)) <<< ((24 : Int32) &&& 31))) * (1540483477 : Int32)) (24 : Int32))) * (1540483477 : Int32)))] d1_140 rfl ?_
          refine g_iload K 141 d1_141 rfl ?_
          refine g_iconst K 143 (2 : Int32) d1_143 (by decide) ?_
          refine g_ii_lt K 144 162 d1_144 (by decide) (by decide) ?_ ?_
          · intro c5
            exact absurd c5 (by decide)
          · intro c5
            refine g_iloadN K 147 d1_147 rfl ?_
            refine g_aloadN K 148 d1_148 rfl rfl ?_
            refine g_iloadN K 149 d1_149 rfl ?_
            refine g_iconst K 150 (1 : Int32) d1_150 (by decide) ?_
            refine g_iadd K 151 d1_151 ?_
            rw [show ((8 : Int32) + (1 : Int32)) = (9 : Int32) from by decide]
            refine g_baload K 152 b9 d1_152 A0 (by decide) (by rw [show (9 : Int32).toNatClampNeg = 9 from by decide]; rfl) ?_
            refine g_sipush K 153 (255 : Int32) d1_153 (by decide) ?_
            refine g_iand K 156 d1_156 ?_
            refine g_bipush K 157 (8 : Int32) d1_157 (by decide) ?_
            refine g_ishl K 159 d1_159 ?_
            refine g_ixor K 160 d1_160 ?_
            refine g_istoreN K 161 #[.val (.ref ar), .val (.int (11 : Int32)), .val (.int (8 : Int32)), .val (.int ((((((191809427 : Int32) ^^^ (((((((b0 &&& (255 : Int32)) ||| ((b1 &&& (255 : Int32)) <<< ((8 : Int32) &&& 31))) ||| ((b2 &&& (255 : Int32)) <<< ((16 : Int32) &&& 31))) ||| ((b3 &&& (255 : Int32)) <<< ((24 : Int32) &&& 31))) * (1540483477 : Int32)) ^^^ (XT.ushr (((((b0 &&& (255 : Int32)) ||| ((b1 &&& (255 : Int32)) <<< ((8 : Int32) &&& 31))) ||| ((b2 &&& (255 : Int32)) <<< ((16 : Int32) &&& 31))) ||| ((b3 &&& (255 : Int32)) <<< ((24 : Int32) &&& 31))) * (1540483477 : Int32)) (24 : Int32))) * (1540483477 : Int32))) * (1540483477 : Int32)) ^^^ (((((((b4 &&& (255 : Int32)) ||| ((b5 &&& (255 : Int32)) <<< ((8 : Int32) &&& 31))) ||| ((b6 &&& (255 : Int32)) <<< ((16 : Int32) &&& 31))) ||| ((b7 &&& (255 : Int32)) <<< ((24 : Int32) &&& 31))) * (1540483477 : Int32)) ^^^ (XT.ushr (((((b4 &&& (255 : Int32)) ||| ((b5 &&& (255 : Int32)) <<< ((8 : Int32) &&& 31))) ||| ((b6 &&& (255 : Int32)) <<< ((16 : Int32) &&& 31))) ||| ((b7 &&& (255 : Int32)) <<< ((24 : Int32) &&& 31))) * (1540483477 : Int32)) (24 : Int32))) * (1540483477 : Int32))) ^^^ ((b10 &&& (255 : Int32)) <<< ((16 : Int32) &&& 31))) ^^^ ((b9 &&& (255 : Int32)) <<< ((8 : Int32) &&& 31)))), .val (.int (3 : Int32)), .val (.int (((((((b4 &&& (255 : Int32)) ||| ((b5 &&& (255 : Int32)) <<< ((8 : Int32) &&& 31))) ||| ((b6 &&& (255 : Int32)) <<< ((16 : Int32) &&& 31))) ||| ((b7 &&& (255 : Int32)) <<< ((24 : Int32) &&& 31))) * (1540483477 : Int32)) ^^^ (XT.ushr (((((b4 &&& (255 : Int32)) ||| ((b5 &&& (255 : Int32)) <<< ((8 : Int32) &&& 31))) ||| ((b6 &&& (255 : Int32)) <<< ((16 : Int32) &&& 31))) ||| ((b7 &&& (255 : Int32)) <<< ((24 : Int32) &&& 31))) * (1540483477 : Int32)) (24 : Int32))) * (1540483477 : Int32)))] d1_161 rfl ?_
            refine g_iload K 162 d1_162 rfl ?_
            refine g_iconst K 164 (1 : Int32) d1_164 (by decide) ?_
            refine g_ii_lt K 165 183 d1_165 (by decide) (by decide) ?_ ?_
            · intro c6
              exact absurd c6 (by decide)
            · intro c6
              refine g_iloadN K 168 d1_168 rfl ?_
              refine g_aloadN K 169 d1_169 rfl rfl ?_
              refine g_iloadN K 170 d1_170 rfl ?_
              refine g_baload K 171 b8 d1_171 A0 (by decide) (by rw [show (8 : Int32).toNatClampNeg = 8 from by decide]; rfl) ?_
              refine g_sipush K 172 (255 : Int32) d1_172 (by decide) ?_
              refine g_iand K 175 d1_175 ?_
              refine g_ixor K 176 d1_176 ?_
              refine g_istoreN K 177 #[.val (.ref ar), .val (.int (11 : Int32)), .val (.int (8 : Int32)), .val (.int (((((((191809427 : Int32) ^^^ (((((((b0 &&& (255 : Int32)) ||| ((b1 &&& (255 : Int32)) <<< ((8 : Int32) &&& 31))) ||| ((b2 &&& (255 : Int32)) <<< ((16 : Int32) &&& 31))) ||| ((b3 &&& (255 : Int32)) <<< ((24 : Int32) &&& 31))) * (1540483477 : Int32)) ^^^ (XT.ushr (((((b0 &&& (255 : Int32)) ||| ((b1 &&& (255 : Int32)) <<< ((8 : Int32) &&& 31))) ||| ((b2 &&& (255 : Int32)) <<< ((16 : Int32) &&& 31))) ||| ((b3 &&& (255 : Int32)) <<< ((24 : Int32) &&& 31))) * (1540483477 : Int32)) (24 : Int32))) * (1540483477 : Int32))) * (1540483477 : Int32)) ^^^ (((((((b4 &&& (255 : Int32)) ||| ((b5 &&& (255 : Int32)) <<< ((8 : Int32) &&& 31))) ||| ((b6 &&& (255 : Int32)) <<< ((16 : Int32) &&& 31))) ||| ((b7 &&& (255 : Int32)) <<< ((24 : Int32) &&& 31))) * (1540483477 : Int32)) ^^^ (XT.ushr (((((b4 &&& (255 : Int32)) ||| ((b5 &&& (255 : Int32)) <<< ((8 : Int32) &&& 31))) ||| ((b6 &&& (255 : Int32)) <<< ((16 : Int32) &&& 31))) ||| ((b7 &&& (255 : Int32)) <<< ((24 : Int32) &&& 31))) * (1540483477 : Int32)) (24 : Int32))) * (1540483477 : Int32))) ^^^ ((b10 &&& (255 : Int32)) <<< ((16 : Int32) &&& 31))) ^^^ ((b9 &&& (255 : Int32)) <<< ((8 : Int32) &&& 31))) ^^^ (b8 &&& (255 : Int32)))), .val (.int (3 : Int32)), .val (.int (((((((b4 &&& (255 : Int32)) ||| ((b5 &&& (255 : Int32)) <<< ((8 : Int32) &&& 31))) ||| ((b6 &&& (255 : Int32)) <<< ((16 : Int32) &&& 31))) ||| ((b7 &&& (255 : Int32)) <<< ((24 : Int32) &&& 31))) * (1540483477 : Int32)) ^^^ (XT.ushr (((((b4 &&& (255 : Int32)) ||| ((b5 &&& (255 : Int32)) <<< ((8 : Int32) &&& 31))) ||| ((b6 &&& (255 : Int32)) <<< ((16 : Int32) &&& 31))) ||| ((b7 &&& (255 : Int32)) <<< ((24 : Int32) &&& 31))) * (1540483477 : Int32)) (24 : Int32))) * (1540483477 : Int32)))] d1_177 rfl ?_
              refine g_iloadN K 178 d1_178 rfl ?_
              refine g_ldc K 179 (v := (1540483477 : Int32)) d1_179 (tw hw 8 rfl) ?_
              refine g_imul K 181 d1_181 ?_
              refine g_istoreN K 182 #[.val (.ref ar), .val (.int (11 : Int32)), .val (.int (8 : Int32)), .val (.int ((((((((191809427 : Int32) ^^^ (((((((b0 &&& (255 : Int32)) ||| ((b1 &&& (255 : Int32)) <<< ((8 : Int32) &&& 31))) ||| ((b2 &&& (255 : Int32)) <<< ((16 : Int32) &&& 31))) ||| ((b3 &&& (255 : Int32)) <<< ((24 : Int32) &&& 31))) * (1540483477 : Int32)) ^^^ (XT.ushr (((((b0 &&& (255 : Int32)) ||| ((b1 &&& (255 : Int32)) <<< ((8 : Int32) &&& 31))) ||| ((b2 &&& (255 : Int32)) <<< ((16 : Int32) &&& 31))) ||| ((b3 &&& (255 : Int32)) <<< ((24 : Int32) &&& 31))) * (1540483477 : Int32)) (24 : Int32))) * (1540483477 : Int32))) * (1540483477 : Int32)) ^^^ (((((((b4 &&& (255 : Int32)) ||| ((b5 &&& (255 : Int32)) <<< ((8 : Int32) &&& 31))) ||| ((b6 &&& (255 : Int32)) <<< ((16 : Int32) &&& 31))) ||| ((b7 &&& (255 : Int32)) <<< ((24 : Int32) &&& 31))) * (1540483477 : Int32)) ^^^ (XT.ushr (((((b4 &&& (255 : Int32)) ||| ((b5 &&& (255 : Int32)) <<< ((8 : Int32) &&& 31))) ||| ((b6 &&& (255 : Int32)) <<< ((16 : Int32) &&& 31))) ||| ((b7 &&& (255 : Int32)) <<< ((24 : Int32) &&& 31))) * (1540483477 : Int32)) (24 : Int32))) * (1540483477 : Int32))) ^^^ ((b10 &&& (255 : Int32)) <<< ((16 : Int32) &&& 31))) ^^^ ((b9 &&& (255 : Int32)) <<< ((8 : Int32) &&& 31))) ^^^ (b8 &&& (255 : Int32))) * (1540483477 : Int32))), .val (.int (3 : Int32)), .val (.int (((((((b4 &&& (255 : Int32)) ||| ((b5 &&& (255 : Int32)) <<< ((8 : Int32) &&& 31))) ||| ((b6 &&& (255 : Int32)) <<< ((16 : Int32) &&& 31))) ||| ((b7 &&& (255 : Int32)) <<< ((24 : Int32) &&& 31))) * (1540483477 : Int32)) ^^^ (XT.ushr (((((b4 &&& (255 : Int32)) ||| ((b5 &&& (255 : Int32)) <<< ((8 : Int32) &&& 31))) ||| ((b6 &&& (255 : Int32)) <<< ((16 : Int32) &&& 31))) ||| ((b7 &&& (255 : Int32)) <<< ((24 : Int32) &&& 31))) * (1540483477 : Int32)) (24 : Int32))) * (1540483477 : Int32)))] d1_182 rfl ?_
              refine g_iloadN K 183 d1_183 rfl ?_
              refine g_iloadN K 184 d1_184 rfl ?_
              refine g_bipush K 185 (13 : Int32) d1_185 (by decide) ?_
              refine g_iushr K 187 d1_187 ?_
              refine g_ixor K 188 d1_188 ?_
              refine g_istoreN K 189 #[.val (.ref ar), .val (.int (11 : Int32)), .val (.int (8 : Int32)), .val (.int (((((((((191809427 : Int32) ^^^ (((((((b0 &&& (255 : Int32)) ||| ((b1 &&& (255 : Int32)) <<< ((8 : Int32) &&& 31))) ||| ((b2 &&& (255 : Int32)) <<< ((16 : Int32) &&& 31))) ||| ((b3 &&& (255 : Int32)) <<< ((24 : Int32) &&& 31))) * (1540483477 : Int32)) ^^^ (XT.ushr (((((b0 &&& (255 : Int32)) ||| ((b1 &&& (255 : Int32)) <<< ((8 : Int32) &&& 31))) ||| ((b2 &&& (255 : Int32)) <<< ((16 : Int32) &&& 31))) ||| ((b3 &&& (255 : Int32)) <<< ((24 : Int32) &&& 31))) * (1540483477 : Int32)) (24 : Int32))) * (1540483477 : Int32))) * (1540483477 : Int32)) ^^^ (((((((b4 &&& (255 : Int32)) ||| ((b5 &&& (255 : Int32)) <<< ((8 : Int32) &&& 31))) ||| ((b6 &&& (255 : Int32)) <<< ((16 : Int32) &&& 31))) ||| ((b7 &&& (255 : Int32)) <<< ((24 : Int32) &&& 31))) * (1540483477 : Int32)) ^^^ (XT.ushr (((((b4 &&& (255 : Int32)) ||| ((b5 &&& (255 : Int32)) <<< ((8 : Int32) &&& 31))) ||| ((b6 &&& (255 : Int32)) <<< ((16 : Int32) &&& 31))) ||| ((b7 &&& (255 : Int32)) <<< ((24 : Int32) &&& 31))) * (1540483477 : Int32)) (24 : Int32))) * (1540483477 : Int32))) ^^^ ((b10 &&& (255 : Int32)) <<< ((16 : Int32) &&& 31))) ^^^ ((b9 &&& (255 : Int32)) <<< ((8 : Int32) &&& 31))) ^^^ (b8 &&& (255 : Int32))) * (1540483477 : Int32)) ^^^ (XT.ushr ((((((((191809427 : Int32) ^^^ (((((((b0 &&& (255 : Int32)) ||| ((b1 &&& (255 : Int32)) <<< ((8 : Int32) &&& 31))) ||| ((b2 &&& (255 : Int32)) <<< ((16 : Int32) &&& 31))) ||| ((b3 &&& (255 : Int32)) <<< ((24 : Int32) &&& 31))) * (1540483477 : Int32)) ^^^ (XT.ushr (((((b0 &&& (255 : Int32)) ||| ((b1 &&& (255 : Int32)) <<< ((8 : Int32) &&& 31))) ||| ((b2 &&& (255 : Int32)) <<< ((16 : Int32) &&& 31))) ||| ((b3 &&& (255 : Int32)) <<< ((24 : Int32) &&& 31))) * (1540483477 : Int32)) (24 : Int32))) * (1540483477 : Int32))) * (1540483477 : Int32)) ^^^ (((((((b4 &&& (255 : Int32)) ||| ((b5 &&& (255 : Int32)) <<< ((8 : Int32) &&& 31))) ||| ((b6 &&& (255 : Int32)) <<< ((16 : Int32) &&& 31))) ||| ((b7 &&& (255 : Int32)) <<< ((24 : Int32) &&& 31))) * (1540483477 : Int32)) ^^^ (XT.ushr (((((b4 &&& (255 : Int32)) ||| ((b5 &&& (255 : Int32)) <<< ((8 : Int32) &&& 31))) ||| ((b6 &&& (255 : Int32)) <<< ((16 : Int32) &&& 31))) ||| ((b7 &&& (255 : Int32)) <<< ((24 : Int32) &&& 31))) * (1540483477 : Int32)) (24 : Int32))) * (1540483477 : Int32))) ^^^ ((b10 &&& (255 : Int32)) <<< ((16 : Int32) &&& 31))) ^^^ ((b9 &&& (255 : Int32)) <<< ((8 : Int32) &&& 31))) ^^^ (b8 &&& (255 : Int32))) * (1540483477 : Int32)) (13 : Int32)))), .val (.int (3 : Int32)), .val (.int (((((((b4 &&& (255 : Int32)) ||| ((b5 &&& (255 : Int32)) <<< ((8 : Int32) &&& 31))) ||| ((b6 &&& (255 : Int32)) <<< ((16 : Int32) &&& 31))) ||| ((b7 &&& (255 : Int32)) <<< ((24 : Int32) &&& 31))) * (1540483477 : Int32)) ^^^ (XT.ushr (((((b4 &&& (255 : Int32)) ||| ((b5 &&& (255 : Int32)) <<< ((8 : Int32) &&& 31))) ||| ((b6 &&& (255 : Int32)) <<< ((16 : Int32) &&& 31))) ||| ((b7 &&& (255 : Int32)) <<< ((24 : Int32) &&& 31))) * (1540483477 : Int32)) (24 : Int32))) * (1540483477 : Int32)))] d1_189 rfl ?_
              refine g_iloadN K 190 d1_190 rfl ?_
              refine g_ldc K 191 (v := (1540483477 : Int32)) d1_191 (tw hw 8 rfl) ?_
              refine g_imul K 193 d1_193 ?_
              refine g_istoreN K 194 #[.val (.ref ar), .val (.int (11 : Int32)), .val (.int (8 : Int32)), .val (.int ((((((((((191809427 : Int32) ^^^ (((((((b0 &&& (255 : Int32)) ||| ((b1 &&& (255 : Int32)) <<< ((8 : Int32) &&& 31))) ||| ((b2 &&& (255 : Int32)) <<< ((16 : Int32) &&& 31))) ||| ((b3 &&& (255 : Int32)) <<< ((24 : Int32) &&& 31))) * (1540483477 : Int32)) ^^^ (XT.ushr (((((b0 &&& (255 : Int32)) ||| ((b1 &&& (255 : Int32)) <<< ((8 : Int32) &&& 31))) ||| ((b2 &&& (255 : Int32)) <<< ((16 : Int32) &&& 31))) ||| ((b3 &&& (255 : Int32)) <<< ((24 : Int32) &&& 31))) * (1540483477 : Int32)) (24 : Int32))) * (1540483477 : Int32))) * (1540483477 : Int32)) ^^^ (((((((b4 &&& (255 : Int32)) ||| ((b5 &&& (255 : Int32)) <<< ((8 : Int32) &&& 31))) ||| ((b6 &&& (255 : Int32)) <<< ((16 : Int32) &&& 31))) ||| ((b7 &&& (255 : Int32)) <<< ((24 : Int32) &&& 31))) * (1540483477 : Int32)) ^^^ (XT.ushr (((((b4 &&& (255 : Int32)) ||| ((b5 &&& (255 : Int32)) <<< ((8 : Int32) &&& 31))) ||| ((b6 &&& (255 : Int32)) <<< ((16 : Int32) &&& 31))) ||| ((b7 &&& (255 : Int32)) <<< ((24 : Int32) &&& 31))) * (1540483477 : Int32)) (24 : Int32))) * (1540483477 : Int32))) ^^^ ((b10 &&& (255 : Int32)) <<< ((16 : Int32) &&& 31))) ^^^ ((b9 &&& (255 : Int32)) <<< ((8 : Int32) &&& 31))) ^^^ (b8 &&& (255 : Int32))) * (1540483477 : Int32)) ^^^ (XT.ushr ((((((((191809427 : Int32) ^^^ (((((((b0 &&& (255 : Int32)) ||| ((b1 &&& (255 : Int32)) <<< ((8 : Int32) &&& 31))) ||| ((b2 &&& (255 : Int32)) <<< ((16 : Int32) &&& 31))) ||| ((b3 &&& (255 : Int32)) <<< ((24 : Int32) &&& 31))) * (1540483477 : Int32)) ^^^ (XT.ushr (((((b0 &&& (255 : Int32)) ||| ((b1 &&& (255 : Int32)) <<< ((8 : Int32) &&& 31))) ||| ((b2 &&& (255 : Int32)) <<< ((16 : Int32) &&& 31))) ||| ((b3 &&& (255 : Int32)) <<< ((24 : Int32) &&& 31))) * (1540483477 : Int32)) (24 : Int32))) * (1540483477 : Int32))) * (1540483477 : Int32)) ^^^ (((((((b4 &&& (255 : Int32)) ||| ((b5 &&& (255 : Int32)) <<< ((8 : Int32) &&& 31))) ||| ((b6 &&& (255 : Int32)) <<< ((16 : Int32) &&& 31))) ||| ((b7 &&& (255 : Int32)) <<< ((24 : Int32) &&& 31))) * (1540483477 : Int32)) ^^^ (XT.ushr (((((b4 &&& (255 : Int32)) ||| ((b5 &&& (255 : Int32)) <<< ((8 : Int32) &&& 31))) ||| ((b6 &&& (255 : Int32)) <<< ((16 : Int32) &&& 31))) ||| ((b7 &&& (255 : Int32)) <<< ((24 : Int32) &&& 31))) * (1540483477 : Int32)) (24 : Int32))) * (1540483477 : Int32))) ^^^ ((b10 &&& (255 : Int32)) <<< ((16 : Int32) &&& 31))) ^^^ ((b9 &&& (255 : Int32)) <<< ((8 : Int32) &&& 31))) ^^^ (b8 &&& (255 : Int32))) * (1540483477 : Int32)) (13 : Int32))) * (1540483477 : Int32))), .val (.int (3 : Int32)), .val (.int (((((((b4 &&& (255 : Int32)) ||| ((b5 &&& (255 : Int32)) <<< ((8 : Int32) &&& 31))) ||| ((b6 &&& (255 : Int32)) <<< ((16 : Int32) &&& 31))) ||| ((b7 &&& (255 : Int32)) <<< ((24 : Int32) &&& 31))) * (1540483477 : Int32)) ^^^ (XT.ushr (((((b4 &&& (255 : Int32)) ||| ((b5 &&& (255 : Int32)) <<< ((8 : Int32) &&& 31))) ||| ((b6 &&& (255 : Int32)) <<< ((16 : Int32) &&& 31))) ||| ((b7 &&& (255 : Int32)) <<< ((24 : Int32) &&& 31))) * (1540483477 : Int32)) (24 : Int32))) * (1540483477 : Int32)))] d1_194 rfl ?_
              refine g_iloadN K 195 d1_195 rfl ?_
              refine g_iloadN K 196 d1_196 rfl ?_
              refine g_bipush K 197 (15 : Int32) d1_197 (by decide) ?_
              refine g_iushr K 199 d1_199 ?_
              refine g_ixor K 200 d1_200 ?_
              refine g_istoreN K 201 #[.val (.ref ar), .val (.int (11 : Int32)), .val (.int (8 : Int32)), .val (.int (((((((((((191809427 : Int32) ^^^ (((((((b0 &&& (255 : Int32)) ||| ((b1 &&& (255 : Int32)) <<< ((8 : Int32) &&& 31))) ||| ((b2 &&& (255 : Int32)) <<< ((16 : Int32) &&& 31))) ||| ((b3 &&& (255 : Int32)) <<< ((24 : Int32) &&& 31))) * (1540483477 : Int32)) ^^^ (XT.ushr (((((b0 &&& (255 : Int32)) ||| ((b1 &&& (255 : Int32)) <<< ((8 : Int32) &&& 31))) ||| ((b2 &&& (255 : Int32)) <<< ((16 : Int32) &&& 31))) ||| ((b3 &&& (255 : Int32)) <<< ((24 : Int32) &&& 31))) * (1540483477 : Int32)) (24 : Int32))) * (1540483477 : Int32))) * (1540483477 : Int32)) ^^^ (((((((b4 &&& (255 : Int32)) ||| ((b5 &&& (255 : Int32)) <<< ((8 : Int32) &&& 31))) ||| ((b6 &&& (255 : Int32)) <<< ((16 : Int32) &&& 31))) ||| ((b7 &&& (255 : Int32)) <<< ((24 : Int32) &&& 31))) * (1540483477 : Int32)) ^^^ (XT.ushr (((((b4 &&& (255 : Int32)) ||| ((b5 &&& (255 : Int32)) <<< ((8 : Int32) &&& 31))) ||| ((b6 &&& (255 : Int32)) <<< ((16 : Int32) &&& 31))) ||| ((b7 &&& (255 : Int32)) <<< ((24 : Int32) &&& 31))) * (1540483477 : Int32)) (24 : Int32))) * (1540483477 : Int32))) ^^^ ((b10 &&& (255 : Int32)) <<< ((16 : Int32) &&& 31))) ^^^ ((b9 &&& (255 : Int32)) <<< ((8 : Int32) &&& 31))) ^^^ (b8 &&& (255 : Int32))) * (1540483477 : Int32)) ^^^ (XT.ushr ((((((((191809427 : Int32) ^^^ (((((((b0 &&& (255 : Int32)) ||| ((b1 &&& (255 : Int32)) <<< ((8 : Int32) &&& 31))) ||| ((b2 &&& (255 : Int32)) <<< ((16 : Int32) &&& 31))) ||| ((b3 &&& (255 : Int32)) <<< ((24 : Int32) &&& 31))) * (1540483477 : Int32)) ^^^ (XT.ushr (((((b0 &&& (255 : Int32)) ||| ((b1 &&& (255 : Int32)) <<< ((8 : Int32) &&& 31))) ||| ((b2 &&& (255 : Int32)) <<< ((16 : Int32) &&& 31))) ||| ((b3 &&& (255 : Int32)) <<< ((24 : Int32) &&& 31))) * (1540483477 : Int32)) (24 : Int32))) * (1540483477 : Int32))) * (1540483477 : Int32)) ^^^ (((((((b4 &&& (255 : Int32)) ||| ((b5 &&& (255 : Int32)) <<< ((8 : Int32) &&& 31))) ||| ((b6 &&& (255 : Int32)) <<< ((16 : Int32) &&& 31))) ||| ((b7 &&& (255 : Int32)) <<< ((24 : Int32) &&& 31))) * (1540483477 : Int32)) ^^^ (XT.ushr (((((b4 &&& (255 : Int32)) ||| ((b5 &&& (255 : Int32)) <<< ((8 : Int32) &&& 31))) ||| ((b6 &&& (255 : Int32)) <<< ((16 : Int32) &&& 31))) ||| ((b7 &&& (255 : Int32)) <<< ((24 : Int32) &&& 31))) * (1540483477 : Int32)) (24 : Int32))) * (1540483477 : Int32))) ^^^ ((b10 &&& (255 : Int32)) <<< ((16 : Int32) &&& 31))) ^^^ ((b9 &&& (255 : Int32)) <<< ((8 : Int32) &&& 31))) ^^^ (b8 &&& (255 : Int32))) * (1540483477 : Int32)) (13 : Int32))) * (1540483477 : Int32)) ^^^ (XT.ushr ((((((((((191809427 : Int32) ^^^ (((((((b0 &&& (255 : Int32)) ||| ((b1 &&& (255 : Int32)) <<< ((8 : Int32) &&& 31))) ||| ((b2 &&& (255 : Int32)) <<< ((16 : Int32) &&& 31))) ||| ((b3 &&& (255 : Int32)) <<< ((24 : Int32) &&& 31))) * (1540483477 : Int32)) ^^^ (XT.ushr (((((b0 &&& (255 : Int32)) ||| ((b1 &&& (255 : Int32)) <<< ((8 : Int32) &&& 31))) ||| ((b2 &&& (255 : Int32)) <<< ((16 : Int32) &&& 31))) ||| ((b3 &&& (255 : Int32)) <<< ((24 : Int32) &&& 31))) * (1540483477 : Int32)) (24 : Int32))) * (1540483477 : Int32))) * (1540483477 : Int32)) ^^^ (((((((b4 &&& (255 : Int32)) ||| ((b5 &&& (255 : Int32)) <<< ((8 : Int32) &&& 31))) ||| ((b6 &&& (255 : Int32)) <<< ((16 : Int32) &&& 31))) ||| ((b7 &&& (255 : Int32)) <<< ((24 : Int32) &&& 31))) * (1540483477 : Int32)) ^^^ (XT.ushr (((((b4 &&& (255 : Int32)) ||| ((b5 &&& (255 : Int32)) <<< ((8 : Int32) &&& 31))) ||| ((b6 &&& (255 : Int32)) <<< ((16 : Int32) &&& 31))) ||| ((b7 &&& (255 : Int32)) <<< ((24 : Int32) &&& 31))) * (1540483477 : Int32)) (24 : Int32))) * (1540483477 : Int32))) ^^^ ((b10 &&& (255 : Int32)) <<< ((16 : Int32) &&& 31))) ^^^ ((b9 &&& (255 : Int32)) <<< ((8 : Int32) &&& 31))) ^^^ (b8 &&& (255 : Int32))) * (1540483477 : Int32)) ^^^ (XT.ushr ((((((((191809427 : Int32) ^^^ (((((((b0 &&& (255 : Int32)) ||| ((b1 &&& (255 : Int32)) <<< ((8 : Int32) &&& 31))) ||| ((b2 &&& (255 : Int32)) <<< ((16 : Int32) &&& 31))) ||| ((b3 &&& (255 : Int32)) <<< ((24 : Int32) &&& 31))) * (1540483477 : Int32)) ^^^ (XT.ushr (((((b0 &&& (255 : Int32)) ||| ((b1 &&& (255 : Int32)) <<< ((8 : Int32) &&& 31))) ||| ((b2 &&& (255 : Int32)) <<< ((16 : Int32) &&& 31))) ||| ((b3 &&& (255 : Int32)) <<< ((24 : Int32) &&& 31))) * (1540483477 : Int32)) (24 : Int32))) * (1540483477 : Int32))) * (1540483477 : Int32)) ^^^ (((((((b4 &&& (255 : Int32)) ||| ((b5 &&& (255 : Int32)) <<< ((8 : Int32) &&& 31))) ||| ((b6 &&& (255 : Int32)) <<< ((16 : Int32) &&& 31))) ||| ((b7 &&& (255 : Int32)) <<< ((24 : Int32) &&& 31))) * (1540483477 : Int32)) ^^^ (XT.ushr (((((b4 &&& (255 : Int32)) ||| ((b5 &&& (255 : Int32)) <<< ((8 : Int32) &&& 31))) ||| ((b6 &&& (255 : Int32)) <<< ((16 : Int32) &&& 31))) ||| ((b7 &&& (255 : Int32)) <<< ((24 : Int32) &&& 31))) * (1540483477 : Int32)) (24 : Int32))) * (1540483477 : Int32))) ^^^ ((b10 &&& (255 : Int32)) <<< ((16 : Int32) &&& 31))) ^^^ ((b9 &&& (255 : Int32)) <<< ((8 : Int32) &&& 31))) ^^^ (b8 &&& (255 : Int32))) * (1540483477 : Int32)) (13 : Int32))) * (1540483477 : Int32)) (15 : Int32)))), .val (.int (3 : Int32)), .val (.int (((((((b4 &&& (255 : Int32)) ||| ((b5 &&& (255 : Int32)) <<< ((8 : Int32) &&& 31))) ||| ((b6 &&& (255 : Int32)) <<< ((16 : Int32) &&& 31))) ||| ((b7 &&& (255 : Int32)) <<< ((24 : Int32) &&& 31))) * (1540483477 : Int32)) ^^^ (XT.ushr (((((b4 &&& (255 : Int32)) ||| ((b5 &&& (255 : Int32)) <<< ((8 : Int32) &&& 31))) ||| ((b6 &&& (255 : Int32)) <<< ((16 : Int32) &&& 31))) ||| ((b7 &&& (255 : Int32)) <<< ((24 : Int32) &&& 31))) * (1540483477 : Int32)) (24 : Int32))) * (1540483477 : Int32)))] d1_201 rfl ?_
              refine g_iloadN K 202 d1_202 rfl ?_
              refine g_ireturn K 203 d1_203 rfl (by decide) (by decide) ?_
              rw [hQ]
              refine ⟨?_, rfl⟩
              show some (Value.int _) = some (Value.int (f_mur11 b0 b1 b2 b3 b4 b5 b6 b7 b8 b9 b10))
              unfold f_mur11
              rfl
      · intro c3
        exact absurd c3 (by decide)
theorem own_len12 (p : Int32) : (p &&& (2147483647 : Int32)) % (12 : Int32) = (0 : Int32) ∨ (p &&& (2147483647 : Int32)) % (12 : Int32) = (1 : Int32) ∨ (p &&& (2147483647 : Int32)) % (12 : Int32) = (2 : Int32) ∨ (p &&& (2147483647 : Int32)) % (12 : Int32) = (3 : Int32) ∨ (p &&& (2147483647 : Int32)) % (12 : Int32) = (4 : Int32) ∨ (p &&& (2147483647 : Int32)) % (12 : Int32) = (5 : Int32) ∨ (p &&& (2147483647 : Int32)) % (12 : Int32) = (6 : Int32) ∨ (p &&& (2147483647 : Int32)) % (12 : Int32) = (7 : Int32) ∨ (p &&& (2147483647 : Int32)) % (12 : Int32) = (8 : Int32) ∨ (p &&& (2147483647 : Int32)) % (12 : Int32) = (9 : Int32) ∨ (p &&& (2147483647 : Int32)) % (12 : Int32) = (10 : Int32) ∨ (p &&& (2147483647 : Int32)) % (12 : Int32) = (11 : Int32) := by
  have hm := c_mask p 2147483647 31 (by decide) (by decide)
  have hw := (c_irem (p &&& 2147483647) 12 12 (by decide)).1 (by omega)
  generalize (p &&& (2147483647 : Int32)) % (12 : Int32) = v at *
  have k : ∀ w : Int32, v = w ↔ v.toInt = w.toInt := fun w => Int32.toInt_inj.symm
  simp only [k, show (0 : Int32).toInt = 0 from by decide, show (1 : Int32).toInt = 1 from by decide, show (2 : Int32).toInt = 2 from by decide, show (3 : Int32).toInt = 3 from by decide, show (4 : Int32).toInt = 4 from by decide, show (5 : Int32).toInt = 5 from by decide, show (6 : Int32).toInt = 6 from by decide, show (7 : Int32).toInt = 7 from by decide, show (8 : Int32).toInt = 8 from by decide, show (9 : Int32).toInt = 9 from by decide, show (10 : Int32).toInt = 10 from by decide, show (11 : Int32).toInt = 11 from by decide]
  omega
theorem own_B (y : Int32) (j : Nat) : (nar .byte (y.toInt8.toInt32) &&& (255 : Int32)).toBitVec.getLsbD j = (decide (j < 8) && y.toBitVec.getLsbD j) := by
  have e : nar .byte (y.toInt8.toInt32) = y.toInt8.toInt32 := by simp [nar]
  rw [e]
  have hm := c_mask y.toInt8.toInt32 255 8 (by decide) (by decide)
  obtain ⟨h1, h2, h3⟩ := c_i2b y
  have hu := u32 (y.toInt8.toInt32 &&& 255)
  have huy := u32 y
  have e : (y.toInt8.toInt32 &&& 255).toBitVec.toNat = y.toBitVec.toNat % 2 ^ 8 := by omega
  show (y.toInt8.toInt32 &&& 255).toBitVec.toNat.testBit j = _
  rw [e, Nat.testBit_mod_two_pow]; rfl
theorem own_Bs (y s : Int32) (k : Nat) (hs : s.toBitVec.toNat % 32 = k) (i : Nat) (hi : i < 32) : ((nar .byte (y.toInt8.toInt32) &&& (255 : Int32)) <<< (s &&& 31)).toBitVec.getLsbD i = (!decide (i < k) && (decide (i - k < 8) && y.toBitVec.getLsbD (i - k))) := by
  rw [bv_ishl, hs, BitVec.getLsbD_shiftLeft, decide_eq_true hi, Bool.true_and, own_B]
theorem own_M (X m : Int32) (k : Nat) (hk : k ≤ 31) (hm : m.toBitVec.toNat = 2 ^ k - 1) (i : Nat) : (X &&& m).toBitVec.getLsbD i = (decide (i < k) && X.toBitVec.getLsbD i) := by
  rw [Int32.toBitVec_and, BitVec.getLsbD_and]
  have : m.toBitVec.getLsbD i = decide (i < k) := by
    show m.toBitVec.toNat.testBit i = _
    rw [hm, Nat.testBit_two_pow_sub_one]
  rw [this, Bool.and_comm]
section Words
variable (X Y0 Y1 Y2 Y3 : Int32) (h0 : ∀ j, j < 8 → Y0.toBitVec.getLsbD j = X.toBitVec.getLsbD j) (h1 : ∀ j, j < 8 → Y1.toBitVec.getLsbD j = X.toBitVec.getLsbD (8 + j)) (h2 : ∀ j, j < 8 → Y2.toBitVec.getLsbD j = X.toBitVec.getLsbD (16 + j)) (h3 : ∀ j, j < 8 → Y3.toBitVec.getLsbD j = X.toBitVec.getLsbD (24 + j))
theorem own_word (h0 : ∀ j, j < 8 → Y0.toBitVec.getLsbD j = X.toBitVec.getLsbD j) (h1 : ∀ j, j < 8 → Y1.toBitVec.getLsbD j = X.toBitVec.getLsbD (8 + j)) (h2 : ∀ j, j < 8 → Y2.toBitVec.getLsbD j = X.toBitVec.getLsbD (16 + j)) (h3 : ∀ j, j < 8 → Y3.toBitVec.getLsbD j = X.toBitVec.getLsbD (24 + j)) :
    (((nar .byte (Y0.toInt8.toInt32) &&& (255 : Int32)) ||| ((nar .byte (Y1.toInt8.toInt32) &&& (255 : Int32)) <<< ((8 : Int32) &&& 31))) ||| ((nar .byte (Y2.toInt8.toInt32) &&& (255 : Int32)) <<< ((16 : Int32) &&& 31))) ||| ((nar .byte (Y3.toInt8.toInt32) &&& (255 : Int32)) <<< ((24 : Int32) &&& 31)) = X := by
  apply Int32.toBitVec_inj.mp
  apply BitVec.eq_of_getLsbD_eq
  intro i hi
  rw [Int32.toBitVec_or, BitVec.getLsbD_or, Int32.toBitVec_or, BitVec.getLsbD_or, Int32.toBitVec_or, BitVec.getLsbD_or, own_B, own_Bs _ _ 8 (by decide) i hi, own_Bs _ _ 16 (by decide) i hi, own_Bs _ _ 24 (by decide) i hi]
  by_cases c1 : i < 8
  · simp only [decide_eq_true c1, h0 i c1, decide_eq_true (show i < 16 by omega), decide_eq_true (show i < 24 by omega), Bool.not_true, Bool.false_and, Bool.or_false, Bool.true_and]
  · by_cases c2 : i < 16
    · simp only [decide_eq_false c1, decide_eq_true (show i - 8 < 8 by omega), h1 (i - 8) (by omega), decide_eq_true (show i < 16 by omega), decide_eq_true (show i < 24 by omega), Bool.not_true, Bool.not_false, Bool.false_and, Bool.or_false, Bool.false_or, Bool.true_and]
      congr 1; omega
    · by_cases c3 : i < 24
      · simp only [decide_eq_false c1, decide_eq_false (show ¬ i - 8 < 8 by omega), decide_eq_true (show i - 16 < 8 by omega), h2 (i - 16) (by omega), decide_eq_false c2, decide_eq_true (show i < 24 by omega), Bool.not_true, Bool.not_false, Bool.false_and, Bool.or_false, Bool.false_or, Bool.true_and]
        congr 1; omega
      · simp only [decide_eq_false c1, decide_eq_false (show ¬ i - 8 < 8 by omega), decide_eq_false (show ¬ i - 16 < 8 by omega), decide_eq_true (show i - 24 < 8 by omega), h3 (i - 24) (by omega), decide_eq_false c2, decide_eq_false c3, Bool.not_true, Bool.not_false, Bool.false_and, Bool.or_false, Bool.false_or, Bool.true_and]
        congr 1; omega
theorem own_tail1 (h : Int32) (h0 : ∀ j, j < 8 → Y0.toBitVec.getLsbD j = X.toBitVec.getLsbD j) : h ^^^ (nar .byte (Y0.toInt8.toInt32) &&& (255 : Int32)) = h ^^^ (X &&& (255 : Int32)) := by
  congr 1
  apply Int32.toBitVec_inj.mp
  apply BitVec.eq_of_getLsbD_eq
  intro i hi
  rw [own_B, own_M X 255 8 (by decide) (by decide)]
  by_cases c1 : i < 8
  · simp only [decide_eq_true c1, h0 i c1]
  · simp only [decide_eq_false c1, Bool.false_and]
theorem own_tail2 (h : Int32) (h0 : ∀ j, j < 8 → Y0.toBitVec.getLsbD j = X.toBitVec.getLsbD j) (h1 : ∀ j, j < 8 → Y1.toBitVec.getLsbD j = X.toBitVec.getLsbD (8 + j)) :
    (h ^^^ ((nar .byte (Y1.toInt8.toInt32) &&& (255 : Int32)) <<< ((8 : Int32) &&& 31))) ^^^ (nar .byte (Y0.toInt8.toInt32) &&& (255 : Int32)) = h ^^^ (X &&& (65535 : Int32)) := by
  rw [Int32.xor_assoc]
  congr 1
  apply Int32.toBitVec_inj.mp
  apply BitVec.eq_of_getLsbD_eq
  intro i hi
  rw [Int32.toBitVec_xor, BitVec.getLsbD_xor, own_B, own_Bs _ _ 8 (by decide) i hi, own_M X 65535 16 (by decide) (by decide)]
  by_cases c1 : i < 8
  · simp only [decide_eq_true c1, h0 i c1, decide_eq_true (show i < 16 by omega), Bool.not_true, Bool.false_and, Bool.false_xor, Bool.true_and]
  · by_cases c2 : i < 16
    · simp only [decide_eq_false c1, decide_eq_true (show i - 8 < 8 by omega), h1 (i - 8) (by omega), decide_eq_true c2, Bool.not_false, Bool.false_and, Bool.xor_false, Bool.true_and]
      congr 1; omega
    · simp only [decide_eq_false c1, decide_eq_false (show ¬ i - 8 < 8 by omega), decide_eq_false c2, Bool.false_and, Bool.and_false, Bool.xor_false]
theorem own_tail3 (h : Int32) (h0 : ∀ j, j < 8 → Y0.toBitVec.getLsbD j = X.toBitVec.getLsbD j) (h1 : ∀ j, j < 8 → Y1.toBitVec.getLsbD j = X.toBitVec.getLsbD (8 + j)) (h2 : ∀ j, j < 8 → Y2.toBitVec.getLsbD j = X.toBitVec.getLsbD (16 + j)) :
    ((h ^^^ ((nar .byte (Y2.toInt8.toInt32) &&& (255 : Int32)) <<< ((16 : Int32) &&& 31))) ^^^ ((nar .byte (Y1.toInt8.toInt32) &&& (255 : Int32)) <<< ((8 : Int32) &&& 31))) ^^^ (nar .byte (Y0.toInt8.toInt32) &&& (255 : Int32)) = h ^^^ (X &&& (16777215 : Int32)) := by
  rw [Int32.xor_assoc, Int32.xor_assoc]
  congr 1
  apply Int32.toBitVec_inj.mp
  apply BitVec.eq_of_getLsbD_eq
  intro i hi
  rw [Int32.toBitVec_xor, BitVec.getLsbD_xor, Int32.toBitVec_xor, BitVec.getLsbD_xor, own_B, own_Bs _ 8 8 (by decide) i hi, own_Bs _ 16 16 (by decide) i hi, own_M X 16777215 24 (by decide) (by decide)]
  by_cases c1 : i < 8
  · simp only [decide_eq_true c1, h0 i c1, decide_eq_true (show i < 16 by omega), decide_eq_true (show i < 24 by omega), Bool.not_true, Bool.false_and, Bool.false_xor, Bool.true_and]
  · by_cases c2 : i < 16
    · simp only [decide_eq_false c1, decide_eq_true (show i - 8 < 8 by omega), h1 (i - 8) (by omega), decide_eq_true c2, decide_eq_true (show i < 24 by omega), Bool.not_true, Bool.not_false, Bool.false_and, Bool.xor_false, Bool.false_xor, Bool.true_and]
      congr 1; omega
    · by_cases c3 : i < 24
      · simp only [decide_eq_false c1, decide_eq_false (show ¬ i - 8 < 8 by omega), decide_eq_true (show i - 16 < 8 by omega), h2 (i - 16) (by omega), decide_eq_false c2, decide_eq_true c3, Bool.not_false, Bool.false_and, Bool.and_false, Bool.xor_false, Bool.true_and]
        congr 1; omega
      · simp only [decide_eq_false c1, decide_eq_false (show ¬ i - 8 < 8 by omega), decide_eq_false (show ¬ i - 16 < 8 by omega), decide_eq_false c2, decide_eq_false c3, Bool.false_and, Bool.and_false, Bool.xor_false]
end Words
theorem own_lo (x : Int64) (j : Nat) (hj : j < 32) : x.toInt32.toBitVec.getLsbD j = x.toBitVec.getLsbD j := by
  rw [Int64.toBitVec_toInt32, BitVec.getLsbD_signExtend, decide_eq_true hj, if_pos (by omega), Bool.true_and]
theorem own_sh (x : Int64) (s : Int32) (k : Nat) (hs : s.toBitVec.toNat % 64 = k) (j : Nat) (hj : j < 32) : (XT.ushrL x s).toInt32.toBitVec.getLsbD j = x.toBitVec.getLsbD (k + j) := by
  rw [own_lo _ _ hj, bv_lushr, hs, BitVec.getLsbD_ushiftRight]
theorem own_si (x s : Int32) (k : Nat) (hs : s.toBitVec.toNat % 32 = k) (j : Nat) : (XT.ushr x s).toBitVec.getLsbD j = x.toBitVec.getLsbD (k + j) := by
  rw [bv_iushr, hs, BitVec.getLsbD_ushiftRight]
section Srcs
variable (q : Int64) (p : Int32)
theorem own_a1 (j : Nat) (hj : j < 8) : ((XT.ushrL q (8 : Int32)).toInt32).toBitVec.getLsbD j = q.toInt32.toBitVec.getLsbD (8 + j) := by rw [own_sh q 8 8 (by decide) j (by omega), own_lo q _ (by omega)]
theorem own_a2 (j : Nat) (hj : j < 8) : ((XT.ushrL q (16 : Int32)).toInt32).toBitVec.getLsbD j = q.toInt32.toBitVec.getLsbD (16 + j) := by rw [own_sh q 16 16 (by decide) j (by omega), own_lo q _ (by omega)]
theorem own_a3 (j : Nat) (hj : j < 8) : ((XT.ushrL q (24 : Int32)).toInt32).toBitVec.getLsbD j = q.toInt32.toBitVec.getLsbD (24 + j) := by rw [own_sh q 24 24 (by decide) j (by omega), own_lo q _ (by omega)]
theorem own_b1 (j : Nat) (hj : j < 8) : ((XT.ushrL q (40 : Int32)).toInt32).toBitVec.getLsbD j = ((XT.ushrL q (32 : Int32)).toInt32).toBitVec.getLsbD (8 + j) := by rw [own_sh q 40 40 (by decide) j (by omega), own_sh q 32 32 (by decide) _ (by omega)]; congr 1; omega
theorem own_b2 (j : Nat) (hj : j < 8) : ((XT.ushrL q (48 : Int32)).toInt32).toBitVec.getLsbD j = ((XT.ushrL q (32 : Int32)).toInt32).toBitVec.getLsbD (16 + j) := by rw [own_sh q 48 48 (by decide) j (by omega), own_sh q 32 32 (by decide) _ (by omega)]; congr 1; omega
theorem own_b3 (j : Nat) (hj : j < 8) : ((XT.ushrL q (56 : Int32)).toInt32).toBitVec.getLsbD j = ((XT.ushrL q (32 : Int32)).toInt32).toBitVec.getLsbD (24 + j) := by rw [own_sh q 56 56 (by decide) j (by omega), own_sh q 32 32 (by decide) _ (by omega)]; congr 1; omega
theorem own_c1 (j : Nat) (hj : j < 8) : (XT.ushr p (8 : Int32)).toBitVec.getLsbD j = p.toBitVec.getLsbD (8 + j) := own_si p 8 8 (by decide) j
theorem own_c2 (j : Nat) (hj : j < 8) : (XT.ushr p (16 : Int32)).toBitVec.getLsbD j = p.toBitVec.getLsbD (16 + j) := own_si p 16 16 (by decide) j
end Srcs
theorem own_mur0 (q1 : Int64) (p2 : Int32) : (f_mur0 ) = (f_fin (-1756908916 : Int32)) := by
  decide
theorem own_mur1 (q1 : Int64) (p2 : Int32) : (f_mur1 (nar .byte q1.toInt32.toInt8.toInt32)) = (f_fin (((-1756908915 : Int32) ^^^ (q1.toInt32 &&& (255 : Int32))) * (1540483477 : Int32))) := by
  unfold f_mur1
  rw [own_tail1 q1.toInt32 q1.toInt32 _ (fun _ _ => rfl)]
  rfl
theorem own_mur2 (q1 : Int64) (p2 : Int32) : (f_mur2 (nar .byte q1.toInt32.toInt8.toInt32) (nar .byte (((XT.ushrL q1 (8 : Int32)).toInt32).toInt8.toInt32))) = (f_fin (((-1756908914 : Int32) ^^^ (q1.toInt32 &&& (65535 : Int32))) * (1540483477 : Int32))) := by
  unfold f_mur2
  rw [own_tail2 q1.toInt32 q1.toInt32 _ _ (fun _ _ => rfl) (own_a1 q1)]
  rfl
theorem own_mur3 (q1 : Int64) (p2 : Int32) : (f_mur3 (nar .byte q1.toInt32.toInt8.toInt32) (nar .byte (((XT.ushrL q1 (8 : Int32)).toInt32).toInt8.toInt32)) (nar .byte (((XT.ushrL q1 (16 : Int32)).toInt32).toInt8.toInt32))) = (f_fin (((-1756908913 : Int32) ^^^ (q1.toInt32 &&& (16777215 : Int32))) * (1540483477 : Int32))) := by
  unfold f_mur3
  rw [own_tail3 q1.toInt32 q1.toInt32 _ _ _ (fun _ _ => rfl) (own_a1 q1) (own_a2 q1)]
  rfl
theorem own_mur4 (q1 : Int64) (p2 : Int32) : (f_mur4 (nar .byte q1.toInt32.toInt8.toInt32) (nar .byte (((XT.ushrL q1 (8 : Int32)).toInt32).toInt8.toInt32)) (nar .byte (((XT.ushrL q1 (16 : Int32)).toInt32).toInt8.toInt32)) (nar .byte (((XT.ushrL q1 (24 : Int32)).toInt32).toInt8.toInt32))) = (f_fin ((1732292904 : Int32) ^^^ (f_mixK q1.toInt32))) := by
  unfold f_mur4
  rw [own_word q1.toInt32 q1.toInt32 _ _ _ (fun _ _ => rfl) (own_a1 q1) (own_a2 q1) (own_a3 q1)]
  rfl
theorem own_mur5 (q1 : Int64) (p2 : Int32) : (f_mur5 (nar .byte q1.toInt32.toInt8.toInt32) (nar .byte (((XT.ushrL q1 (8 : Int32)).toInt32).toInt8.toInt32)) (nar .byte (((XT.ushrL q1 (16 : Int32)).toInt32).toInt8.toInt32)) (nar .byte (((XT.ushrL q1 (24 : Int32)).toInt32).toInt8.toInt32)) (nar .byte (((XT.ushrL q1 (32 : Int32)).toInt32).toInt8.toInt32))) = (f_fin ((((-1022190915 : Int32) ^^^ (f_mixK q1.toInt32)) ^^^ (((XT.ushrL q1 (32 : Int32)).toInt32) &&& (255 : Int32))) * (1540483477 : Int32))) := by
  unfold f_mur5
  rw [own_word q1.toInt32 q1.toInt32 _ _ _ (fun _ _ => rfl) (own_a1 q1) (own_a2 q1) (own_a3 q1)]
  rw [own_tail1 (XT.ushrL q1 (32 : Int32)).toInt32 (XT.ushrL q1 (32 : Int32)).toInt32 _ (fun _ _ => rfl)]
  rfl
theorem own_mur6 (q1 : Int64) (p2 : Int32) : (f_mur6 (nar .byte q1.toInt32.toInt8.toInt32) (nar .byte (((XT.ushrL q1 (8 : Int32)).toInt32).toInt8.toInt32)) (nar .byte (((XT.ushrL q1 (16 : Int32)).toInt32).toInt8.toInt32)) (nar .byte (((XT.ushrL q1 (24 : Int32)).toInt32).toInt8.toInt32)) (nar .byte (((XT.ushrL q1 (32 : Int32)).toInt32).toInt8.toInt32)) (nar .byte (((XT.ushrL q1 (40 : Int32)).toInt32).toInt8.toInt32))) = (f_fin ((((518292562 : Int32) ^^^ (f_mixK q1.toInt32)) ^^^ (((XT.ushrL q1 (32 : Int32)).toInt32) &&& (65535 : Int32))) * (1540483477 : Int32))) := by
  unfold f_mur6
  rw [own_word q1.toInt32 q1.toInt32 _ _ _ (fun _ _ => rfl) (own_a1 q1) (own_a2 q1) (own_a3 q1)]
  rw [own_tail2 (XT.ushrL q1 (32 : Int32)).toInt32 (XT.ushrL q1 (32 : Int32)).toInt32 _ _ (fun _ _ => rfl) (own_b1 q1)]
  rfl
theorem own_mur7 (q1 : Int64) (p2 : Int32) : (f_mur7 (nar .byte q1.toInt32.toInt8.toInt32) (nar .byte (((XT.ushrL q1 (8 : Int32)).toInt32).toInt8.toInt32)) (nar .byte (((XT.ushrL q1 (16 : Int32)).toInt32).toInt8.toInt32)) (nar .byte (((XT.ushrL q1 (24 : Int32)).toInt32).toInt8.toInt32)) (nar .byte (((XT.ushrL q1 (32 : Int32)).toInt32).toInt8.toInt32)) (nar .byte (((XT.ushrL q1 (40 : Int32)).toInt32).toInt8.toInt32)) (nar .byte (((XT.ushrL q1 (48 : Int32)).toInt32).toInt8.toInt32))) = (f_fin ((((2058776039 : Int32) ^^^ (f_mixK q1.toInt32)) ^^^ (((XT.ushrL q1 (32 : Int32)).toInt32) &&& (16777215 : Int32))) * (1540483477 : Int32))) := by
  unfold f_mur7
  rw [own_word q1.toInt32 q1.toInt32 _ _ _ (fun _ _ => rfl) (own_a1 q1) (own_a2 q1) (own_a3 q1)]
  rw [own_tail3 (XT.ushrL q1 (32 : Int32)).toInt32 (XT.ushrL q1 (32 : Int32)).toInt32 _ _ _ (fun _ _ => rfl) (own_b1 q1) (own_b2 q1)]
  rfl
theorem own_mur8 (q1 : Int64) (p2 : Int32) : (f_mur8 (nar .byte q1.toInt32.toInt8.toInt32) (nar .byte (((XT.ushrL q1 (8 : Int32)).toInt32).toInt8.toInt32)) (nar .byte (((XT.ushrL q1 (16 : Int32)).toInt32).toInt8.toInt32)) (nar .byte (((XT.ushrL q1 (24 : Int32)).toInt32).toInt8.toInt32)) (nar .byte (((XT.ushrL q1 (32 : Int32)).toInt32).toInt8.toInt32)) (nar .byte (((XT.ushrL q1 (40 : Int32)).toInt32).toInt8.toInt32)) (nar .byte (((XT.ushrL q1 (48 : Int32)).toInt32).toInt8.toInt32)) (nar .byte (((XT.ushrL q1 (56 : Int32)).toInt32).toInt8.toInt32))) = (f_fin ((((-134673708 : Int32) ^^^ (f_mixK q1.toInt32)) * (1540483477 : Int32)) ^^^ (f_mixK ((XT.ushrL q1 (32 : Int32)).toInt32)))) := by
  unfold f_mur8
  rw [own_word q1.toInt32 q1.toInt32 _ _ _ (fun _ _ => rfl) (own_a1 q1) (own_a2 q1) (own_a3 q1)]
  rw [own_word (XT.ushrL q1 (32 : Int32)).toInt32 (XT.ushrL q1 (32 : Int32)).toInt32 _ _ _ (fun _ _ => rfl) (own_b1 q1) (own_b2 q1) (own_b3 q1)]
  rfl
theorem own_mur9 (q1 : Int64) (p2 : Int32) : (f_mur9 (nar .byte q1.toInt32.toInt8.toInt32) (nar .byte (((XT.ushrL q1 (8 : Int32)).toInt32).toInt8.toInt32)) (nar .byte (((XT.ushrL q1 (16 : Int32)).toInt32).toInt8.toInt32)) (nar .byte (((XT.ushrL q1 (24 : Int32)).toInt32).toInt8.toInt32)) (nar .byte (((XT.ushrL q1 (32 : Int32)).toInt32).toInt8.toInt32)) (nar .byte (((XT.ushrL q1 (40 : Int32)).toInt32).toInt8.toInt32)) (nar .byte (((XT.ushrL q1 (48 : Int32)).toInt32).toInt8.toInt32)) (nar .byte (((XT.ushrL q1 (56 : Int32)).toInt32).toInt8.toInt32)) (nar .byte p2.toInt8.toInt32)) = (f_fin ((((((1405809769 : Int32) ^^^ (f_mixK q1.toInt32)) * (1540483477 : Int32)) ^^^ (f_mixK ((XT.ushrL q1 (32 : Int32)).toInt32))) ^^^ (p2 &&& (255 : Int32))) * (1540483477 : Int32))) := by
  unfold f_mur9
  rw [own_word q1.toInt32 q1.toInt32 _ _ _ (fun _ _ => rfl) (own_a1 q1) (own_a2 q1) (own_a3 q1)]
  rw [own_word (XT.ushrL q1 (32 : Int32)).toInt32 (XT.ushrL q1 (32 : Int32)).toInt32 _ _ _ (fun _ _ => rfl) (own_b1 q1) (own_b2 q1) (own_b3 q1)]
  rw [own_tail1 p2 p2 _ (fun _ _ => rfl)]
  rfl
theorem own_mur10 (q1 : Int64) (p2 : Int32) : (f_mur10 (nar .byte q1.toInt32.toInt8.toInt32) (nar .byte (((XT.ushrL q1 (8 : Int32)).toInt32).toInt8.toInt32)) (nar .byte (((XT.ushrL q1 (16 : Int32)).toInt32).toInt8.toInt32)) (nar .byte (((XT.ushrL q1 (24 : Int32)).toInt32).toInt8.toInt32)) (nar .byte (((XT.ushrL q1 (32 : Int32)).toInt32).toInt8.toInt32)) (nar .byte (((XT.ushrL q1 (40 : Int32)).toInt32).toInt8.toInt32)) (nar .byte (((XT.ushrL q1 (48 : Int32)).toInt32).toInt8.toInt32)) (nar .byte (((XT.ushrL q1 (56 : Int32)).toInt32).toInt8.toInt32)) (nar .byte p2.toInt8.toInt32) (nar .byte ((XT.ushr p2 (8 : Int32)).toInt8.toInt32))) = (f_fin ((((((-1348674050 : Int32) ^^^ (f_mixK q1.toInt32)) * (1540483477 : Int32)) ^^^ (f_mixK ((XT.ushrL q1 (32 : Int32)).toInt32))) ^^^ (p2 &&& (65535 : Int32))) * (1540483477 : Int32))) := by
  unfold f_mur10
  rw [own_word q1.toInt32 q1.toInt32 _ _ _ (fun _ _ => rfl) (own_a1 q1) (own_a2 q1) (own_a3 q1)]
  rw [own_word (XT.ushrL q1 (32 : Int32)).toInt32 (XT.ushrL q1 (32 : Int32)).toInt32 _ _ _ (fun _ _ => rfl) (own_b1 q1) (own_b2 q1) (own_b3 q1)]
  rw [own_tail2 p2 p2 _ _ (fun _ _ => rfl) (own_c1 p2)]
  rfl
theorem own_mur11 (q1 : Int64) (p2 : Int32) : (f_mur11 (nar .byte q1.toInt32.toInt8.toInt32) (nar .byte (((XT.ushrL q1 (8 : Int32)).toInt32).toInt8.toInt32)) (nar .byte (((XT.ushrL q1 (16 : Int32)).toInt32).toInt8.toInt32)) (nar .byte (((XT.ushrL q1 (24 : Int32)).toInt32).toInt8.toInt32)) (nar .byte (((XT.ushrL q1 (32 : Int32)).toInt32).toInt8.toInt32)) (nar .byte (((XT.ushrL q1 (40 : Int32)).toInt32).toInt8.toInt32)) (nar .byte (((XT.ushrL q1 (48 : Int32)).toInt32).toInt8.toInt32)) (nar .byte (((XT.ushrL q1 (56 : Int32)).toInt32).toInt8.toInt32)) (nar .byte p2.toInt8.toInt32) (nar .byte ((XT.ushr p2 (8 : Int32)).toInt8.toInt32)) (nar .byte ((XT.ushr p2 (16 : Int32)).toInt8.toInt32))) = (f_fin ((((((191809427 : Int32) ^^^ (f_mixK q1.toInt32)) * (1540483477 : Int32)) ^^^ (f_mixK ((XT.ushrL q1 (32 : Int32)).toInt32))) ^^^ (p2 &&& (16777215 : Int32))) * (1540483477 : Int32))) := by
  unfold f_mur11
  rw [own_word q1.toInt32 q1.toInt32 _ _ _ (fun _ _ => rfl) (own_a1 q1) (own_a2 q1) (own_a3 q1)]
  rw [own_word (XT.ushrL q1 (32 : Int32)).toInt32 (XT.ushrL q1 (32 : Int32)).toInt32 _ _ _ (fun _ _ => rfl) (own_b1 q1) (own_b2 q1) (own_b3 q1)]
  rw [own_tail3 p2 p2 _ _ _ (fun _ _ => rfl) (own_c1 p2) (own_c2 p2)]
  rfl
set_option maxRecDepth 65536 in
set_option maxHeartbeats 40000000 in
theorem rm_law (l : Launch) (Z : State) (a0 : Array Value) (hw : ∀ d ∈ tables_1, d.before a0 Z = true) (p0 : Int32) (q1 : Int64) (p2 : Int32) (h0 : Heap) (n0 : Nat) (Z0 : n0 ≤ h0.size)  :
    Meets l x code maxLocals ret room_1 Z #[(.int p0), (.long q1), (.int p2)] h0 n0 (fun v h => v = some (Value.int 1)) := by
  refine meets_of (plainFor_of_name pn1) (Ls := #[.val (.int p0), .val (.long q1), .second, .val (.int p2), .unset, .unset, .unset, .unset, .unset, .unset, .unset, .unset, .unset, .unset]) (fun m => by first | (simp [entryFrame, mkF, argsToLocals, Value.category, maxLocals]; done) | rfl) ?_
  intro p e s m below meth c K
  replace K : Kx Z "com/example/batchwright/batchwright/producer/PartitionerMurmur2PinLaw" "law" code maxLocals ret p s m meth c := K
  obtain ⟨Q, hQ⟩ : ∃ Q : Option Value → Heap → Prop, Q = (fun v h => v = some (Value.int 1)) := ⟨_, rfl⟩
  rw [← hQ]
  refine g_iloadN K 0 at_0 rfl ?_
  refine g_ldc K 1 (v := (2147483647 : Int32)) at_1 (tw hw 0 rfl) ?_
  refine g_iand K 3 at_3 ?_
  refine g_bipush K 4 (12 : Int32) at_4 (by decide) ?_
  refine g_irem K 6 at_6 (by decide) ?_
  rcases own_len12 p0 with hn | hn | hn | hn | hn | hn | hn | hn | hn | hn | hn | hn
  · rw [hn]
    refine g_istore K 7 #[.val (.int p0), .val (.long q1), .second, .val (.int p2), .val (.int (0 : Int32)), .unset, .unset, .unset, .unset, .unset, .unset, .unset, .unset, .unset] at_7 rfl ?_
    refine g_lloadN K 9 at_9 rfl ?_
    refine g_l2i K 10 at_10 ?_
    refine g_istore K 11 #[.val (.int p0), .val (.long q1), .second, .val (.int p2), .val (.int (0 : Int32)), .val (.int q1.toInt32), .unset, .unset, .unset, .unset, .unset, .unset, .unset, .unset] at_11 rfl ?_
    refine g_lloadN K 13 at_13 rfl ?_
    refine g_bipush K 14 (32 : Int32) at_14 (by decide) ?_
    refine g_lushr K 16 at_16 ?_
    refine g_l2i K 17 at_17 ?_
    refine g_istore K 18 #[.val (.int p0), .val (.long q1), .second, .val (.int p2), .val (.int (0 : Int32)), .val (.int q1.toInt32), .val (.int (XT.ushrL q1 (32 : Int32)).toInt32), .unset, .unset, .unset, .unset, .unset, .unset, .unset] at_18 rfl ?_
    refine g_iloadN K 20 at_20 rfl ?_
    refine g_istore K 21 #[.val (.int p0), .val (.long q1), .second, .val (.int p2), .val (.int (0 : Int32)), .val (.int q1.toInt32), .val (.int (XT.ushrL q1 (32 : Int32)).toInt32), .val (.int p2), .unset, .unset, .unset, .unset, .unset, .unset] at_21 rfl ?_
    refine g_iload K 23 at_23 rfl ?_
    refine g_newI K 25 .byte at_25 rfl rfl (tw hw 1 rfl) (by decide) 0 (by decide) (by decide) (by decide) (by decide) ?_
    intro h2 a1 eq5 Kp3 A4
    have g6 : n0 ≤ a1 := eq5 ▸ Z0
    have Z7 := Nat.le_trans Z0 Kp3.1
    have A8 : IA Z h2 a1 .byte [] := (by have q := A4; rw [show (0 : Int32).toNatClampNeg = 0 from by decide] at q; exact q)
    refine g_astore K 27 #[.val (.int p0), .val (.long q1), .second, .val (.int p2), .val (.int (0 : Int32)), .val (.int q1.toInt32), .val (.int (XT.ushrL q1 (32 : Int32)).toInt32), .val (.int p2), .val (.ref a1), .unset, .unset, .unset, .unset, .unset] at_27 rfl rfl ?_
    refine g_iload K 29 at_29 rfl ?_
    refine g_if_le K 31 41 at_31 (by decide) (by decide) ?_ ?_
    · intro c9
      refine g_iload K 41 at_41 rfl ?_
      refine g_iconst K 43 (1 : Int32) at_43 (by decide) ?_
      refine g_ii_le K 44 57 at_44 (by decide) (by decide) ?_ ?_
      · intro c10
        refine g_iload K 57 at_57 rfl ?_
        refine g_iconst K 59 (2 : Int32) at_59 (by decide) ?_
        refine g_ii_le K 60 73 at_60 (by decide) (by decide) ?_ ?_
        · intro c11
          refine g_iload K 73 at_73 rfl ?_
          refine g_iconst K 75 (3 : Int32) at_75 (by decide) ?_
          refine g_ii_le K 76 89 at_76 (by decide) (by decide) ?_ ?_
          · intro c12
            refine g_iload K 89 at_89 rfl ?_
            refine g_iconst K 91 (4 : Int32) at_91 (by decide) ?_
            refine g_ii_le K 92 105 at_92 (by decide) (by decide) ?_ ?_
            · intro c13
              refine g_iload K 105 at_105 rfl ?_
              refine g_iconst K 107 (5 : Int32) at_107 (by decide) ?_
              refine g_ii_le K 108 121 at_108 (by decide) (by decide) ?_ ?_
              · intro c14
                refine g_iload K 121 at_121 rfl ?_
                refine g_bipush K 123 (6 : Int32) at_123 (by decide) ?_
                refine g_ii_le K 125 139 at_125 (by decide) (by decide) ?_ ?_
                · intro c15
                  refine g_iload K 139 at_139 rfl ?_
                  refine g_bipush K 141 (7 : Int32) at_141 (by decide) ?_
                  refine g_ii_le K 143 157 at_143 (by decide) (by decide) ?_ ?_
                  · intro c16
                    refine g_iload K 157 at_157 rfl ?_
                    refine g_bipush K 159 (8 : Int32) at_159 (by decide) ?_
                    refine g_ii_le K 161 171 at_161 (by decide) (by decide) ?_ ?_
                    · intro c17
                      refine g_iload K 171 at_171 rfl ?_
                      refine g_bipush K 173 (9 : Int32) at_173 (by decide) ?_
                      refine g_ii_le K 175 188 at_175 (by decide) (by decide) ?_ ?_
                      · intro c18
                        refine g_iload K 188 at_188 rfl ?_
                        refine g_bipush K 190 (10 : Int32) at_190 (by decide) ?_
                        refine g_ii_le K 192 205 at_192 (by decide) (by decide) ?_ ?_
                        · intro c19
                          refine g_iload K 205 at_205 rfl ?_
                          refine g_iconst K 207 (4 : Int32) at_207 (by decide) ?_
                          refine g_idiv K 208 at_208 (by decide) ?_
                          rw [show ((0 : Int32) / (4 : Int32)) = (0 : Int32) from by decide]
                          refine g_istore K 209 #[.val (.int p0), .val (.long q1), .second, .val (.int p2), .val (.int (0 : Int32)), .val (.int q1.toInt32), .val (.int (XT.ushrL q1 (32 : Int32)).toInt32), .val (.int p2), .val (.ref a1), .val (.int (0 : Int32)), .unset, .unset, .unset, .unset] at_209 rfl ?_
                          refine g_iload K 211 at_211 rfl ?_
                          refine g_iconst K 213 (4 : Int32) at_213 (by decide) ?_
                          refine g_irem K 214 at_214 (by decide) ?_
                          rw [show ((0 : Int32) % (4 : Int32)) = (0 : Int32) from by decide]
                          refine g_istore K 215 #[.val (.int p0), .val (.long q1), .second, .val (.int p2), .val (.int (0 : Int32)), .val (.int q1.toInt32), .val (.int (XT.ushrL q1 (32 : Int32)).toInt32), .val (.int p2), .val (.ref a1), .val (.int (0 : Int32)), .val (.int (0 : Int32)), .unset, .unset, .unset] at_215 rfl ?_
                          refine g_ldc K 217 (v := (-1756908916 : Int32)) at_217 (tw hw 2 rfl) ?_
                          refine g_iload K 219 at_219 rfl ?_
                          refine g_ixor K 221 at_221 ?_
                          rw [show ((-1756908916 : Int32) ^^^ (0 : Int32)) = (-1756908916 : Int32) from by decide]
                          refine g_istore K 222 #[.val (.int p0), .val (.long q1), .second, .val (.int p2), .val (.int (0 : Int32)), .val (.int q1.toInt32), .val (.int (XT.ushrL q1 (32 : Int32)).toInt32), .val (.int p2), .val (.ref a1), .val (.int (0 : Int32)), .val (.int (0 : Int32)), .val (.int (-1756908916 : Int32)), .unset, .unset] at_222 rfl ?_
                          refine g_iload K 224 at_224 rfl ?_
                          refine g_iconst K 226 (1 : Int32) at_226 (by decide) ?_
                          refine g_ii_lt K 227 243 at_227 (by decide) (by decide) ?_ ?_
                          · intro c20
                            refine g_iload K 243 at_243 rfl ?_
                            refine g_iconst K 245 (2 : Int32) at_245 (by decide) ?_
                            refine g_ii_lt K 246 262 at_246 (by decide) (by decide) ?_ ?_
                            · intro c21
                              refine g_iload K 262 at_262 rfl ?_
                              refine g_if_ne K 264 272 at_264 (by decide) (by decide) ?_ ?_
                              · intro c22
                                exact absurd c22 (by decide)
                              · intro c22
                                refine g_iload K 267 at_267 rfl ?_
                                refine g_goto K 269 285 at_269 (by decide) (by decide) ?_
                                refine g_istore K 285 #[.val (.int p0), .val (.long q1), .second, .val (.int p2), .val (.int (0 : Int32)), .val (.int q1.toInt32), .val (.int (XT.ushrL q1 (32 : Int32)).toInt32), .val (.int p2), .val (.ref a1), .val (.int (0 : Int32)), .val (.int (0 : Int32)), .val (.int (-1756908916 : Int32)), .val (.int q1.toInt32), .unset] at_285 rfl ?_
                                refine g_iload K 287 at_287 rfl ?_
                                refine g_if_le K 289 316 at_289 (by decide) (by decide) ?_ ?_
                                · intro c23
                                  refine g_aload K 316 at_316 rfl rfl ?_
                                  refine g_callS K 318 [(.ref a1)] 0 at_318 (rm_mur0 l Z a0 hw a1 h2 n0 Z7  A8) (tw hw 3 rfl) (tw hw 4 rfl) (tw hw 5 rfl) (tw hw 6 rfl) (by decide) pd0 rfl (st := []) rfl (Nat.le_of_eq rfl) rfl (by decide) (by decide) (by decide) (by decide) ?_
                                  rintro _ _ ⟨hv, hh⟩
                                  rw [hv, hh]
                                  clear hv hh
                                  refine go_cast (k' := (0 + 1)) (n' := (0 + 0)) (st' := [(.int (f_mur0 ))]) rfl rfl rfl ?_
                                  refine g_iload K 321 at_321 rfl ?_
                                  refine g_callS K 323 [(.int (-1756908916 : Int32))] 1 at_323 (rm_fin l Z a0 hw (-1756908916 : Int32) h2 n0 Z7  ) (tw hw 9 rfl) (tw hw 10 rfl) (tw hw 11 rfl) (tw hw 12 rfl) (by decide) pd1 rfl (st := [(.int (f_mur0 ))]) rfl (Nat.le_of_eq rfl) rfl (by decide) (by decide) (by decide) (by decide) ?_
                                  rintro _ _ ⟨hv, hh⟩
                                  rw [hv, hh]
                                  clear hv hh
                                  refine go_cast (k' := (0 + 1)) (n' := (0 + 0)) (st' := [(.int (f_fin (-1756908916 : Int32))), (.int (f_mur0 ))]) rfl rfl rfl ?_
                                  refine g_ii_ne K 326 333 at_326 (by decide) (by decide) ?_ ?_
                                  · intro c24
                                    exfalso
                                    exact c24 (own_mur0 q1 p2)
                                  · intro c24
                                    refine g_iconst K 329 (1 : Int32) at_329 (by decide) ?_
                                    refine g_goto K 330 334 at_330 (by decide) (by decide) ?_
                                    refine g_retN K 334 .boolean at_334 rfl (by simp) (by decide) (by decide) ?_
                                    rw [hQ]
                                    rfl
                                · intro c23
                                  exact absurd c23 (by decide)
                            · intro c21
                              exact absurd c21 (by decide)
                          · intro c20
                            exact absurd c20 (by decide)
                        · intro c19
                          exact absurd c19 (by decide)
                      · intro c18
                        exact absurd c18 (by decide)
                    · intro c17
                      exact absurd c17 (by decide)
                  · intro c16
                    exact absurd c16 (by decide)
                · intro c15
                  exact absurd c15 (by decide)
              · intro c14
                exact absurd c14 (by decide)
            · intro c13
              exact absurd c13 (by decide)
          · intro c12
            exact absurd c12 (by decide)
        · intro c11
          exact absurd c11 (by decide)
      · intro c10
        exact absurd c10 (by decide)
    · intro c9
      exact absurd c9 (by decide)
  · rw [hn]
    refine g_istore K 7 #[.val (.int p0), .val (.long q1), .second, .val (.int p2), .val (.int (1 : Int32)), .unset, .unset, .unset, .unset, .unset, .unset, .unset, .unset, .unset] at_7 rfl ?_
    refine g_lloadN K 9 at_9 rfl ?_
    refine g_l2i K 10 at_10 ?_
    refine g_istore K 11 #[.val (.int p0), .val (.long q1), .second, .val (.int p2), .val (.int (1 : Int32)), .val (.int q1.toInt32), .unset, .unset, .unset, .unset, .unset, .unset, .unset, .unset] at_11 rfl ?_
    refine g_lloadN K 13 at_13 rfl ?_
    refine g_bipush K 14 (32 : Int32) at_14 (by decide) ?_
    refine g_lushr K 16 at_16 ?_
    refine g_l2i K 17 at_17 ?_
    refine g_istore K 18 #[.val (.int p0), .val (.long q1), .second, .val (.int p2), .val (.int (1 : Int32)), .val (.int q1.toInt32), .val (.int (XT.ushrL q1 (32 : Int32)).toInt32), .unset, .unset, .unset, .unset, .unset, .unset, .unset] at_18 rfl ?_
    refine g_iloadN K 20 at_20 rfl ?_
    refine g_istore K 21 #[.val (.int p0), .val (.long q1), .second, .val (.int p2), .val (.int (1 : Int32)), .val (.int q1.toInt32), .val (.int (XT.ushrL q1 (32 : Int32)).toInt32), .val (.int p2), .unset, .unset, .unset, .unset, .unset, .unset] at_21 rfl ?_
    refine g_iload K 23 at_23 rfl ?_
    refine g_newI K 25 .byte at_25 rfl rfl (tw hw 1 rfl) (by decide) 1 (by decide) (by decide) (by decide) (by decide) ?_
    intro h26 a25 eq29 Kp27 A28
    have g30 : n0 ≤ a25 := eq29 ▸ Z0
    have Z31 := Nat.le_trans Z0 Kp27.1
    have A32 : IA Z h26 a25 .byte [0] := (by have q := A28; rw [show (1 : Int32).toNatClampNeg = 1 from by decide] at q; exact q)
    refine g_astore K 27 #[.val (.int p0), .val (.long q1), .second, .val (.int p2), .val (.int (1 : Int32)), .val (.int q1.toInt32), .val (.int (XT.ushrL q1 (32 : Int32)).toInt32), .val (.int p2), .val (.ref a25), .unset, .unset, .unset, .unset, .unset] at_27 rfl rfl ?_
    refine g_iload K 29 at_29 rfl ?_
    refine g_if_le K 31 41 at_31 (by decide) (by decide) ?_ ?_
    · intro c33
      exact absurd c33 (by decide)
    · intro c33
      refine g_aload K 34 at_34 rfl rfl ?_
      refine g_iconst K 36 (0 : Int32) at_36 (by decide) ?_
      refine g_lloadN K 37 at_37 rfl ?_
      refine g_l2i K 38 at_38 ?_
      refine g_i2b K 39 at_39 ?_
      refine g_bastore K 40 at_40 A32 (by decide) (show (0 : Int32).toNatClampNeg < 1 from by decide) g30 ?_
      intro h34 Kp35 A36
      have Z37 := Nat.le_trans Z31 Kp35.1
      have A38 : IA Z h34 a25 .byte [nar .byte q1.toInt32.toInt8.toInt32] := (by have q := A36; rw [show (0 : Int32).toNatClampNeg = 0 from by decide] at q; exact q)
      refine g_iload K 41 at_41 rfl ?_
      refine g_iconst K 43 (1 : Int32) at_43 (by decide) ?_
      refine g_ii_le K 44 57 at_44 (by decide) (by decide) ?_ ?_
      · intro c39
        refine g_iload K 57 at_57 rfl ?_
        refine g_iconst K 59 (2 : Int32) at_59 (by decide) ?_
        refine g_ii_le K 60 73 at_60 (by decide) (by decide) ?_ ?_
        · intro c40
          refine g_iload K 73 at_73 rfl ?_
          refine g_iconst K 75 (3 : Int32) at_75 (by decide) ?_
          refine g_ii_le K 76 89 at_76 (by decide) (by decide) ?_ ?_
          · intro c41
            refine g_iload K 89 at_89 rfl ?_
            refine g_iconst K 91 (4 : Int32) at_91 (by decide) ?_
            refine g_ii_le K 92 105 at_92 (by decide) (by decide) ?_ ?_
            · intro c42
              refine g_iload K 105 at_105 rfl ?_
              refine g_iconst K 107 (5 : Int32) at_107 (by decide) ?_
              refine g_ii_le K 108 121 at_108 (by decide) (by decide) ?_ ?_
              · intro c43
                refine g_iload K 121 at_121 rfl ?_
                refine g_bipush K 123 (6 : Int32) at_123 (by decide) ?_
                refine g_ii_le K 125 139 at_125 (by decide) (by decide) ?_ ?_
                · intro c44
                  refine g_iload K 139 at_139 rfl ?_
                  refine g_bipush K 141 (7 : Int32) at_141 (by decide) ?_
                  refine g_ii_le K 143 157 at_143 (by decide) (by decide) ?_ ?_
                  · intro c45
                    refine g_iload K 157 at_157 rfl ?_
                    refine g_bipush K 159 (8 : Int32) at_159 (by decide) ?_
                    refine g_ii_le K 161 171 at_161 (by decide) (by decide) ?_ ?_
                    · intro c46
                      refine g_iload K 171 at_171 rfl ?_
                      refine g_bipush K 173 (9 : Int32) at_173 (by decide) ?_
                      refine g_ii_le K 175 188 at_175 (by decide) (by decide) ?_ ?_
                      · intro c47
                        refine g_iload K 188 at_188 rfl ?_
                        refine g_bipush K 190 (10 : Int32) at_190 (by decide) ?_
                        refine g_ii_le K 192 205 at_192 (by decide) (by decide) ?_ ?_
                        · intro c48
                          refine g_iload K 205 at_205 rfl ?_
                          refine g_iconst K 207 (4 : Int32) at_207 (by decide) ?_
                          refine g_idiv K 208 at_208 (by decide) ?_
                          rw [show ((1 : Int32) / (4 : Int32)) = (0 : Int32) from by decide]
                          refine g_istore K 209 #[.val (.int p0), .val (.long q1), .second, .val (.int p2), .val (.int (1 : Int32)), .val (.int q1.toInt32), .val (.int (XT.ushrL q1 (32 : Int32)).toInt32), .val (.int p2), .val (.ref a25), .val (.int (0 : Int32)), .unset, .unset, .unset, .unset] at_209 rfl ?_
                          refine g_iload K 211 at_211 rfl ?_
                          refine g_iconst K 213 (4 : Int32) at_213 (by decide) ?_
                          refine g_irem K 214 at_214 (by decide) ?_
                          rw [show ((1 : Int32) % (4 : Int32)) = (1 : Int32) from by decide]
                          refine g_istore K 215 #[.val (.int p0), .val (.long q1), .second, .val (.int p2), .val (.int (1 : Int32)), .val (.int q1.toInt32), .val (.int (XT.ushrL q1 (32 : Int32)).toInt32), .val (.int p2), .val (.ref a25), .val (.int (0 : Int32)), .val (.int (1 : Int32)), .unset, .unset, .unset] at_215 rfl ?_
                          refine g_ldc K 217 (v := (-1756908916 : Int32)) at_217 (tw hw 2 rfl) ?_
                          refine g_iload K 219 at_219 rfl ?_
                          refine g_ixor K 221 at_221 ?_
                          rw [show ((-1756908916 : Int32) ^^^ (1 : Int32)) = (-1756908915 : Int32) from by decide]
                          refine g_istore K 222 #[.val (.int p0), .val (.long q1), .second, .val (.int p2), .val (.int (1 : Int32)), .val (.int q1.toInt32), .val (.int (XT.ushrL q1 (32 : Int32)).toInt32), .val (.int p2), .val (.ref a25), .val (.int (0 : Int32)), .val (.int (1 : Int32)), .val (.int (-1756908915 : Int32)), .unset, .unset] at_222 rfl ?_
                          refine g_iload K 224 at_224 rfl ?_
                          refine g_iconst K 226 (1 : Int32) at_226 (by decide) ?_
                          refine g_ii_lt K 227 243 at_227 (by decide) (by decide) ?_ ?_
                          · intro c49
                            refine g_iload K 243 at_243 rfl ?_
                            refine g_iconst K 245 (2 : Int32) at_245 (by decide) ?_
                            refine g_ii_lt K 246 262 at_246 (by decide) (by decide) ?_ ?_
                            · intro c50
                              refine g_iload K 262 at_262 rfl ?_
                              refine g_if_ne K 264 272 at_264 (by decide) (by decide) ?_ ?_
                              · intro c51
                                exact absurd c51 (by decide)
                              · intro c51
                                refine g_iload K 267 at_267 rfl ?_
                                refine g_goto K 269 285 at_269 (by decide) (by decide) ?_
                                refine g_istore K 285 #[.val (.int p0), .val (.long q1), .second, .val (.int p2), .val (.int (1 : Int32)), .val (.int q1.toInt32), .val (.int (XT.ushrL q1 (32 : Int32)).toInt32), .val (.int p2), .val (.ref a25), .val (.int (0 : Int32)), .val (.int (1 : Int32)), .val (.int (-1756908915 : Int32)), .val (.int q1.toInt32), .unset] at_285 rfl ?_
                                refine g_iload K 287 at_287 rfl ?_
                                refine g_if_le K 289 316 at_289 (by decide) (by decide) ?_ ?_
                                · intro c52
                                  exact absurd c52 (by decide)
                                · intro c52
                                  refine g_iconst K 292 (1 : Int32) at_292 (by decide) ?_
                                  refine g_bipush K 293 (8 : Int32) at_293 (by decide) ?_
                                  refine g_iload K 295 at_295 rfl ?_
                                  refine g_imul K 297 at_297 ?_
                                  rw [show ((8 : Int32) * (1 : Int32)) = (8 : Int32) from by decide]
                                  refine g_ishl K 298 at_298 ?_
                                  rw [show ((1 : Int32) <<< ((8 : Int32) &&& 31)) = (256 : Int32) from by decide]
                                  refine g_iconst K 299 (1 : Int32) at_299 (by decide) ?_
                                  refine g_isub K 300 at_300 ?_
                                  rw [show ((256 : Int32) - (1 : Int32)) = (255 : Int32) from by decide]
                                  refine g_istore K 301 #[.val (.int p0), .val (.long q1), .second, .val (.int p2), .val (.int (1 : Int32)), .val (.int q1.toInt32), .val (.int (XT.ushrL q1 (32 : Int32)).toInt32), .val (.int p2), .val (.ref a25), .val (.int (0 : Int32)), .val (.int (1 : Int32)), .val (.int (-1756908915 : Int32)), .val (.int q1.toInt32), .val (.int (255 : Int32))] at_301 rfl ?_
                                  refine g_iload K 303 at_303 rfl ?_
                                  refine g_iload K 305 at_305 rfl ?_
                                  refine g_iload K 307 at_307 rfl ?_
                                  refine g_iand K 309 at_309 ?_
                                  refine g_ixor K 310 at_310 ?_
                                  refine g_ldc K 311 (v := (1540483477 : Int32)) at_311 (tw hw 13 rfl) ?_
                                  refine g_imul K 313 at_313 ?_
                                  refine g_istore K 314 #[.val (.int p0), .val (.long q1), .second, .val (.int p2), .val (.int (1 : Int32)), .val (.int q1.toInt32), .val (.int (XT.ushrL q1 (32 : Int32)).toInt32), .val (.int p2), .val (.ref a25), .val (.int (0 : Int32)), .val (.int (1 : Int32)), .val (.int (((-1756908915 : Int32) ^^^ (q1.toInt32 &&& (255 : Int32))) * (1540483477 : Int32))), .val (.int q1.toInt32), .val (.int (255 : Int32))] at_314 rfl ?_
                                  refine g_aload K 316 at_316 rfl rfl ?_
                                  refine g_callS K 318 [(.ref a25)] 0 at_318 (rm_mur1 l Z a0 hw a25 h34 n0 Z37 (nar .byte q1.toInt32.toInt8.toInt32) A38) (tw hw 3 rfl) (tw hw 4 rfl) (tw hw 5 rfl) (tw hw 6 rfl) (by decide) pd0 rfl (st := []) rfl (Nat.le_of_eq rfl) rfl (by decide) (by decide) (by decide) (by decide) ?_
                                  rintro _ _ ⟨hv, hh⟩
                                  rw [hv, hh]
                                  clear hv hh
                                  refine go_cast (k' := (0 + 1)) (n' := (0 + 1)) (st' := [(.int (f_mur1 (nar .byte q1.toInt32.toInt8.toInt32)))]) rfl rfl rfl ?_
                                  refine g_iload K 321 at_321 rfl ?_
                                  refine g_callS K 323 [(.int (((-1756908915 : Int32) ^^^ (q1.toInt32 &&& (255 : Int32))) * (1540483477 : Int32)))] 1 at_323 (rm_fin l Z a0 hw (((-1756908915 : Int32) ^^^ (q1.toInt32 &&& (255 : Int32))) * (1540483477 : Int32)) h34 n0 Z37  ) (tw hw 9 rfl) (tw hw 10 rfl) (tw hw 11 rfl) (tw hw 12 rfl) (by decide) pd1 rfl (st := [(.int (f_mur1 (nar .byte q1.toInt32.toInt8.toInt32)))]) rfl (Nat.le_of_eq rfl) rfl (by decide) (by decide) (by decide) (by decide) ?_
                                  rintro _ _ ⟨hv, hh⟩
                                  rw [hv, hh]
                                  clear hv hh
                                  refine go_cast (k' := (0 + 1)) (n' := (0 + 1)) (st' := [(.int (f_fin (((-1756908915 : Int32) ^^^ (q1.toInt32 &&& (255 : Int32))) * (1540483477 : Int32)))), (.int (f_mur1 (nar .byte q1.toInt32.toInt8.toInt32)))]) rfl rfl rfl ?_
                                  refine g_ii_ne K 326 333 at_326 (by decide) (by decide) ?_ ?_
                                  · intro c53
                                    exfalso
                                    exact c53 (own_mur1 q1 p2)
                                  · intro c53
                                    refine g_iconst K 329 (1 : Int32) at_329 (by decide) ?_
                                    refine g_goto K 330 334 at_330 (by decide) (by decide) ?_
                                    refine g_retN K 334 .boolean at_334 rfl (by simp) (by decide) (by decide) ?_
                                    rw [hQ]
                                    rfl
                            · intro c50
                              exact absurd c50 (by decide)
                          · intro c49
                            exact absurd c49 (by decide)
                        · intro c48
                          exact absurd c48 (by decide)
                      · intro c47
                        exact absurd c47 (by decide)
                    · intro c46
                      exact absurd c46 (by decide)
                  · intro c45
                    exact absurd c45 (by decide)
                · intro c44
                  exact absurd c44 (by decide)
              · intro c43
                exact absurd c43 (by decide)
            · intro c42
              exact absurd c42 (by decide)
          · intro c41
            exact absurd c41 (by decide)
        · intro c40
          exact absurd c40 (by decide)
      · intro c39
        exact absurd c39 (by decide)
  · rw [hn]
    refine g_istore K 7 #[.val (.int p0), .val (.long q1), .second, .val (.int p2), .val (.int (2 : Int32)), .unset, .unset, .unset, .unset, .unset, .unset, .unset, .unset, .unset] at_7 rfl ?_
    refine g_lloadN K 9 at_9 rfl ?_
    refine g_l2i K 10 at_10 ?_
    refine g_istore K 11 #[.val (.int p0), .val (.long q1), .second, .val (.int p2), .val (.int (2 : Int32)), .val (.int q1.toInt32), .unset, .unset, .unset, .unset, .unset, .unset, .unset, .unset] at_11 rfl ?_
    refine g_lloadN K 13 at_13 rfl ?_
    refine g_bipush K 14 (32 : Int32) at_14 (by decide) ?_
    refine g_lushr K 16 at_16 ?_
    refine g_l2i K 17 at_17 ?_
    refine g_istore K 18 #[.val (.int p0), .val (.long q1), .second, .val (.int p2), .val (.int (2 : Int32)), .val (.int q1.toInt32), .val (.int (XT.ushrL q1 (32 : Int32)).toInt32), .unset, .unset, .unset, .unset, .unset, .unset, .unset] at_18 rfl ?_
    refine g_iloadN K 20 at_20 rfl ?_
    refine g_istore K 21 #[.val (.int p0), .val (.long q1), .second, .val (.int p2), .val (.int (2 : Int32)), .val (.int q1.toInt32), .val (.int (XT.ushrL q1 (32 : Int32)).toInt32), .val (.int p2), .unset, .unset, .unset, .unset, .unset, .unset] at_21 rfl ?_
    refine g_iload K 23 at_23 rfl ?_
    refine g_newI K 25 .byte at_25 rfl rfl (tw hw 1 rfl) (by decide) 2 (by decide) (by decide) (by decide) (by decide) ?_
    intro h55 a54 eq58 Kp56 A57
    have g59 : n0 ≤ a54 := eq58 ▸ Z0
    have Z60 := Nat.le_trans Z0 Kp56.1
    have A61 : IA Z h55 a54 .byte [0, 0] := (by have q := A57; rw [show (2 : Int32).toNatClampNeg = 2 from by decide] at q; exact q)
    refine g_astore K 27 #[.val (.int p0), .val (.long q1), .second, .val (.int p2), .val (.int (2 : Int32)), .val (.int q1.toInt32), .val (.int (XT.ushrL q1 (32 : Int32)).toInt32), .val (.int p2), .val (.ref a54), .unset, .unset, .unset, .unset, .unset] at_27 rfl rfl ?_
    refine g_iload K 29 at_29 rfl ?_
    refine g_if_le K 31 41 at_31 (by decide) (by decide) ?_ ?_
    · intro c62
      exact absurd c62 (by decide)
    · intro c62
      refine g_aload K 34 at_34 rfl rfl ?_
      refine g_iconst K 36 (0 : Int32) at_36 (by decide) ?_
      refine g_lloadN K 37 at_37 rfl ?_
      refine g_l2i K 38 at_38 ?_
      refine g_i2b K 39 at_39 ?_
      refine g_bastore K 40 at_40 A61 (by decide) (show (0 : Int32).toNatClampNeg < 2 from by decide) g59 ?_
      intro h63 Kp64 A65
      have Z66 := Nat.le_trans Z60 Kp64.1
      have A67 : IA Z h63 a54 .byte [nar .byte q1.toInt32.toInt8.toInt32, 0] := (by have q := A65; rw [show (0 : Int32).toNatClampNeg = 0 from by decide] at q; exact q)
      refine g_iload K 41 at_41 rfl ?_
      refine g_iconst K 43 (1 : Int32) at_43 (by decide) ?_
      refine g_ii_le K 44 57 at_44 (by decide) (by decide) ?_ ?_
      · intro c68
        exact absurd c68 (by decide)
      · intro c68
        refine g_aload K 47 at_47 rfl rfl ?_
        refine g_iconst K 49 (1 : Int32) at_49 (by decide) ?_
        refine g_lloadN K 50 at_50 rfl ?_
        refine g_bipush K 51 (8 : Int32) at_51 (by decide) ?_
        refine g_lushr K 53 at_53 ?_
        refine g_l2i K 54 at_54 ?_
        refine g_i2b K 55 at_55 ?_
        refine g_bastore K 56 at_56 A67 (by decide) (show (1 : Int32).toNatClampNeg < 2 from by decide) g59 ?_
        intro h69 Kp70 A71
        have Z72 := Nat.le_trans Z66 Kp70.1
        have A73 : IA Z h69 a54 .byte [nar .byte q1.toInt32.toInt8.toInt32, nar .byte (((XT.ushrL q1 (8 : Int32)).toInt32).toInt8.toInt32)] := (by have q := A71; rw [show (1 : Int32).toNatClampNeg = 1 from by decide] at q; exact q)
        refine g_iload K 57 at_57 rfl ?_
        refine g_iconst K 59 (2 : Int32) at_59 (by decide) ?_
        refine g_ii_le K 60 73 at_60 (by decide) (by decide) ?_ ?_
        · intro c74
          refine g_iload K 73 at_73 rfl ?_
          refine g_iconst K 75 (3 : Int32) at_75 (by decide) ?_
          refine g_ii_le K 76 89 at_76 (by decide) (by decide) ?_ ?_
          · intro c75
            refine g_iload K 89 at_89 rfl ?_
            refine g_iconst K 91 (4 : Int32) at_91 (by decide) ?_
            refine g_ii_le K 92 105 at_92 (by decide) (by decide) ?_ ?_
            · intro c76
              refine g_iload K 105 at_105 rfl ?_
              refine g_iconst K 107 (5 : Int32) at_107 (by decide) ?_
              refine g_ii_le K 108 121 at_108 (by decide) (by decide) ?_ ?_
              · intro c77
                refine g_iload K 121 at_121 rfl ?_
                refine g_bipush K 123 (6 : Int32) at_123 (by decide) ?_
                refine g_ii_le K 125 139 at_125 (by decide) (by decide) ?_ ?_
                · intro c78
                  refine g_iload K 139 at_139 rfl ?_
                  refine g_bipush K 141 (7 : Int32) at_141 (by decide) ?_
                  refine g_ii_le K 143 157 at_143 (by decide) (by decide) ?_ ?_
                  · intro c79
                    refine g_iload K 157 at_157 rfl ?_
                    refine g_bipush K 159 (8 : Int32) at_159 (by decide) ?_
                    refine g_ii_le K 161 171 at_161 (by decide) (by decide) ?_ ?_
                    · intro c80
                      refine g_iload K 171 at_171 rfl ?_
                      refine g_bipush K 173 (9 : Int32) at_173 (by decide) ?_
                      refine g_ii_le K 175 188 at_175 (by decide) (by decide) ?_ ?_
                      · intro c81
                        refine g_iload K 188 at_188 rfl ?_
                        refine g_bipush K 190 (10 : Int32) at_190 (by decide) ?_
                        refine g_ii_le K 192 205 at_192 (by decide) (by decide) ?_ ?_
                        · intro c82
                          refine g_iload K 205 at_205 rfl ?_
                          refine g_iconst K 207 (4 : Int32) at_207 (by decide) ?_
                          refine g_idiv K 208 at_208 (by decide) ?_
                          rw [show ((2 : Int32) / (4 : Int32)) = (0 : Int32) from by decide]
                          refine g_istore K 209 #[.val (.int p0), .val (.long q1), .second, .val (.int p2), .val (.int (2 : Int32)), .val (.int q1.toInt32), .val (.int (XT.ushrL q1 (32 : Int32)).toInt32), .val (.int p2), .val (.ref a54), .val (.int (0 : Int32)), .unset, .unset, .unset, .unset] at_209 rfl ?_
                          refine g_iload K 211 at_211 rfl ?_
                          refine g_iconst K 213 (4 : Int32) at_213 (by decide) ?_
                          refine g_irem K 214 at_214 (by decide) ?_
                          rw [show ((2 : Int32) % (4 : Int32)) = (2 : Int32) from by decide]
                          refine g_istore K 215 #[.val (.int p0), .val (.long q1), .second, .val (.int p2), .val (.int (2 : Int32)), .val (.int q1.toInt32), .val (.int (XT.ushrL q1 (32 : Int32)).toInt32), .val (.int p2), .val (.ref a54), .val (.int (0 : Int32)), .val (.int (2 : Int32)), .unset, .unset, .unset] at_215 rfl ?_
                          refine g_ldc K 217 (v := (-1756908916 : Int32)) at_217 (tw hw 2 rfl) ?_
                          refine g_iload K 219 at_219 rfl ?_
                          refine g_ixor K 221 at_221 ?_
                          rw [show ((-1756908916 : Int32) ^^^ (2 : Int32)) = (-1756908914 : Int32) from by decide]
                          refine g_istore K 222 #[.val (.int p0), .val (.long q1), .second, .val (.int p2), .val (.int (2 : Int32)), .val (.int q1.toInt32), .val (.int (XT.ushrL q1 (32 : Int32)).toInt32), .val (.int p2), .val (.ref a54), .val (.int (0 : Int32)), .val (.int (2 : Int32)), .val (.int (-1756908914 : Int32)), .unset, .unset] at_222 rfl ?_
                          refine g_iload K 224 at_224 rfl ?_
                          refine g_iconst K 226 (1 : Int32) at_226 (by decide) ?_
                          refine g_ii_lt K 227 243 at_227 (by decide) (by decide) ?_ ?_
                          · intro c83
                            refine g_iload K 243 at_243 rfl ?_
                            refine g_iconst K 245 (2 : Int32) at_245 (by decide) ?_
                            refine g_ii_lt K 246 262 at_246 (by decide) (by decide) ?_ ?_
                            · intro c84
                              refine g_iload K 262 at_262 rfl ?_
                              refine g_if_ne K 264 272 at_264 (by decide) (by decide) ?_ ?_
                              · intro c85
                                exact absurd c85 (by decide)
                              · intro c85
                                refine g_iload K 267 at_267 rfl ?_
                                refine g_goto K 269 285 at_269 (by decide) (by decide) ?_
                                refine g_istore K 285 #[.val (.int p0), .val (.long q1), .second, .val (.int p2), .val (.int (2 : Int32)), .val (.int q1.toInt32), .val (.int (XT.ushrL q1 (32 : Int32)).toInt32), .val (.int p2), .val (.ref a54), .val (.int (0 : Int32)), .val (.int (2 : Int32)), .val (.int (-1756908914 : Int32)), .val (.int q1.toInt32), .unset] at_285 rfl ?_
                                refine g_iload K 287 at_287 rfl ?_
                                refine g_if_le K 289 316 at_289 (by decide) (by decide) ?_ ?_
                                · intro c86
                                  exact absurd c86 (by decide)
                                · intro c86
                                  refine g_iconst K 292 (1 : Int32) at_292 (by decide) ?_
                                  refine g_bipush K 293 (8 : Int32) at_293 (by decide) ?_
                                  refine g_iload K 295 at_295 rfl ?_
                                  refine g_imul K 297 at_297 ?_
                                  rw [show ((8 : Int32) * (2 : Int32)) = (16 : Int32) from by decide]
                                  refine g_ishl K 298 at_298 ?_
                                  rw [show ((1 : Int32) <<< ((16 : Int32) &&& 31)) = (65536 : Int32) from by decide]
                                  refine g_iconst K 299 (1 : Int32) at_299 (by decide) ?_
                                  refine g_isub K 300 at_300 ?_
                                  rw [show ((65536 : Int32) - (1 : Int32)) = (65535 : Int32) from by decide]
                                  refine g_istore K 301 #[.val (.int p0), .val (.long q1), .second, .val (.int p2), .val (.int (2 : Int32)), .val (.int q1.toInt32), .val (.int (XT.ushrL q1 (32 : Int32)).toInt32), .val (.int p2), .val (.ref a54), .val (.int (0 : Int32)), .val (.int (2 : Int32)), .val (.int (-1756908914 : Int32)), .val (.int q1.toInt32), .val (.int (65535 : Int32))] at_301 rfl ?_
                                  refine g_iload K 303 at_303 rfl ?_
                                  refine g_iload K 305 at_305 rfl ?_
                                  refine g_iload K 307 at_307 rfl ?_
                                  refine g_iand K 309 at_309 ?_
                                  refine g_ixor K 310 at_310 ?_
                                  refine g_ldc K 311 (v := (1540483477 : Int32)) at_311 (tw hw 13 rfl) ?_
                                  refine g_imul K 313 at_313 ?_
                                  refine g_istore K 314 #[.val (.int p0), .val (.long q1), .second, .val (.int p2), .val (.int (2 : Int32)), .val (.int q1.toInt32), .val (.int (XT.ushrL q1 (32 : Int32)).toInt32), .val (.int p2), .val (.ref a54), .val (.int (0 : Int32)), .val (.int (2 : Int32)), .val (.int (((-1756908914 : Int32) ^^^ (q1.toInt32 &&& (65535 : Int32))) * (1540483477 : Int32))), .val (.int q1.toInt32), .val (.int (65535 : Int32))] at_314 rfl ?_
                                  refine g_aload K 316 at_316 rfl rfl ?_
                                  refine g_callS K 318 [(.ref a54)] 0 at_318 (rm_mur2 l Z a0 hw a54 h69 n0 Z72 (nar .byte q1.toInt32.toInt8.toInt32) (nar .byte (((XT.ushrL q1 (8 : Int32)).toInt32).toInt8.toInt32)) A73) (tw hw 3 rfl) (tw hw 4 rfl) (tw hw 5 rfl) (tw hw 6 rfl) (by decide) pd0 rfl (st := []) rfl (Nat.le_of_eq rfl) rfl (by decide) (by decide) (by decide) (by decide) ?_
                                  rintro _ _ ⟨hv, hh⟩
                                  rw [hv, hh]
                                  clear hv hh
                                  refine go_cast (k' := (0 + 1)) (n' := (0 + 2)) (st' := [(.int (f_mur2 (nar .byte q1.toInt32.toInt8.toInt32) (nar .byte (((XT.ushrL q1 (8 : Int32)).toInt32).toInt8.toInt32))))]) rfl rfl rfl ?_
                                  refine g_iload K 321 at_321 rfl ?_
                                  refine g_callS K 323 [(.int (((-1756908914 : Int32) ^^^ (q1.toInt32 &&& (65535 : Int32))) * (1540483477 : Int32)))] 1 at_323 (rm_fin l Z a0 hw (((-1756908914 : Int32) ^^^ (q1.toInt32 &&& (65535 : Int32))) * (1540483477 : Int32)) h69 n0 Z72  ) (tw hw 9 rfl) (tw hw 10 rfl) (tw hw 11 rfl) (tw hw 12 rfl) (by decide) pd1 rfl (st := [(.int (f_mur2 (nar .byte q1.toInt32.toInt8.toInt32) (nar .byte (((XT.ushrL q1 (8 : Int32)).toInt32).toInt8.toInt32))))]) rfl (Nat.le_of_eq rfl) rfl (by decide) (by decide) (by decide) (by decide) ?_
                                  rintro _ _ ⟨hv, hh⟩
                                  rw [hv, hh]
                                  clear hv hh
                                  refine go_cast (k' := (0 + 1)) (n' := (0 + 2)) (st' := [(.int (f_fin (((-1756908914 : Int32) ^^^ (q1.toInt32 &&& (65535 : Int32))) * (1540483477 : Int32)))), (.int (f_mur2 (nar .byte q1.toInt32.toInt8.toInt32) (nar .byte (((XT.ushrL q1 (8 : Int32)).toInt32).toInt8.toInt32))))]) rfl rfl rfl ?_
                                  refine g_ii_ne K 326 333 at_326 (by decide) (by decide) ?_ ?_
                                  · intro c87
                                    exfalso
                                    exact c87 (own_mur2 q1 p2)
                                  · intro c87
                                    refine g_iconst K 329 (1 : Int32) at_329 (by decide) ?_
                                    refine g_goto K 330 334 at_330 (by decide) (by decide) ?_
                                    refine g_retN K 334 .boolean at_334 rfl (by simp) (by decide) (by decide) ?_
                                    rw [hQ]
                                    rfl
                            · intro c84
                              exact absurd c84 (by decide)
                          · intro c83
                            exact absurd c83 (by decide)
                        · intro c82
                          exact absurd c82 (by decide)
                      · intro c81
                        exact absurd c81 (by decide)
                    · intro c80
                      exact absurd c80 (by decide)
                  · intro c79
                    exact absurd c79 (by decide)
                · intro c78
                  exact absurd c78 (by decide)
              · intro c77
                exact absurd c77 (by decide)
            · intro c76
              exact absurd c76 (by decide)
          · intro c75
            exact absurd c75 (by decide)
        · intro c74
          exact absurd c74 (by decide)
  · rw [hn]
    refine g_istore K 7 #[.val (.int p0), .val (.long q1), .second, .val (.int p2), .val (.int (3 : Int32)), .unset, .unset, .unset, .unset, .unset, .unset, .unset, .unset, .unset] at_7 rfl ?_
    refine g_lloadN K 9 at_9 rfl ?_
    refine g_l2i K 10 at_10 ?_
    refine g_istore K 11 #[.val (.int p0), .val (.long q1), .second, .val (.int p2), .val (.int (3 : Int32)), .val (.int q1.toInt32), .unset, .unset, .unset, .unset, .unset, .unset, .unset, .unset] at_11 rfl ?_
    refine g_lloadN K 13 at_13 rfl ?_
    refine g_bipush K 14 (32 : Int32) at_14 (by decide) ?_
    refine g_lushr K 16 at_16 ?_
    refine g_l2i K 17 at_17 ?_
    refine g_istore K 18 #[.val (.int p0), .val (.long q1), .second, .val (.int p2), .val (.int (3 : Int32)), .val (.int q1.toInt32), .val (.int (XT.ushrL q1 (32 : Int32)).toInt32), .unset, .unset, .unset, .unset, .unset, .unset, .unset] at_18 rfl ?_
    refine g_iloadN K 20 at_20 rfl ?_
    refine g_istore K 21 #[.val (.int p0), .val (.long q1), .second, .val (.int p2), .val (.int (3 : Int32)), .val (.int q1.toInt32), .val (.int (XT.ushrL q1 (32 : Int32)).toInt32), .val (.int p2), .unset, .unset, .unset, .unset, .unset, .unset] at_21 rfl ?_
    refine g_iload K 23 at_23 rfl ?_
    refine g_newI K 25 .byte at_25 rfl rfl (tw hw 1 rfl) (by decide) 3 (by decide) (by decide) (by decide) (by decide) ?_
    intro h89 a88 eq92 Kp90 A91
    have g93 : n0 ≤ a88 := eq92 ▸ Z0
    have Z94 := Nat.le_trans Z0 Kp90.1
    have A95 : IA Z h89 a88 .byte [0, 0, 0] := (by have q := A91; rw [show (3 : Int32).toNatClampNeg = 3 from by decide] at q; exact q)
    refine g_astore K 27 #[.val (.int p0), .val (.long q1), .second, .val (.int p2), .val (.int (3 : Int32)), .val (.int q1.toInt32), .val (.int (XT.ushrL q1 (32 : Int32)).toInt32), .val (.int p2), .val (.ref a88), .unset, .unset, .unset, .unset, .unset] at_27 rfl rfl ?_
    refine g_iload K 29 at_29 rfl ?_
    refine g_if_le K 31 41 at_31 (by decide) (by decide) ?_ ?_
    · intro c96
      exact absurd c96 (by decide)
    · intro c96
      refine g_aload K 34 at_34 rfl rfl ?_
      refine g_iconst K 36 (0 : Int32) at_36 (by decide) ?_
      refine g_lloadN K 37 at_37 rfl ?_
      refine g_l2i K 38 at_38 ?_
      refine g_i2b K 39 at_39 ?_
      refine g_bastore K 40 at_40 A95 (by decide) (show (0 : Int32).toNatClampNeg < 3 from by decide) g93 ?_
      intro h97 Kp98 A99
      have Z100 := Nat.le_trans Z94 Kp98.1
      have A101 : IA Z h97 a88 .byte [nar .byte q1.toInt32.toInt8.toInt32, 0, 0] := (by have q := A99; rw [show (0 : Int32).toNatClampNeg = 0 from by decide] at q; exact q)
      refine g_iload K 41 at_41 rfl ?_
      refine g_iconst K 43 (1 : Int32) at_43 (by decide) ?_
      refine g_ii_le K 44 57 at_44 (by decide) (by decide) ?_ ?_
      · intro c102
        exact absurd c102 (by decide)
      · intro c102
        refine g_aload K 47 at_47 rfl rfl ?_
        refine g_iconst K 49 (1 : Int32) at_49 (by decide) ?_
        refine g_lloadN K 50 at_50 rfl ?_
        refine g_bipush K 51 (8 : Int32) at_51 (by decide) ?_
        refine g_lushr K 53 at_53 ?_
        refine g_l2i K 54 at_54 ?_
        refine g_i2b K 55 at_55 ?_
        refine g_bastore K 56 at_56 A101 (by decide) (show (1 : Int32).toNatClampNeg < 3 from by decide) g93 ?_
        intro h103 Kp104 A105
        have Z106 := Nat.le_trans Z100 Kp104.1
        have A107 : IA Z h103 a88 .byte [nar .byte q1.toInt32.toInt8.toInt32, nar .byte (((XT.ushrL q1 (8 : Int32)).toInt32).toInt8.toInt32), 0] := (by have q := A105; rw [show (1 : Int32).toNatClampNeg = 1 from by decide] at q; exact q)
        refine g_iload K 57 at_57 rfl ?_
        refine g_iconst K 59 (2 : Int32) at_59 (by decide) ?_
        refine g_ii_le K 60 73 at_60 (by decide) (by decide) ?_ ?_
        · intro c108
          exact absurd c108 (by decide)
        · intro c108
          refine g_aload K 63 at_63 rfl rfl ?_
          refine g_iconst K 65 (2 : Int32) at_65 (by decide) ?_
          refine g_lloadN K 66 at_66 rfl ?_
          refine g_bipush K 67 (16 : Int32) at_67 (by decide) ?_
          refine g_lushr K 69 at_69 ?_
          refine g_l2i K 70 at_70 ?_
          refine g_i2b K 71 at_71 ?_
          refine g_bastore K 72 at_72 A107 (by decide) (show (2 : Int32).toNatClampNeg < 3 from by decide) g93 ?_
          intro h109 Kp110 A111
          have Z112 := Nat.le_trans Z106 Kp110.1
          have A113 : IA Z h109 a88 .byte [nar .byte q1.toInt32.toInt8.toInt32, nar .byte (((XT.ushrL q1 (8 : Int32)).toInt32).toInt8.toInt32), nar .byte (((XT.ushrL q1 (16 : Int32)).toInt32).toInt8.toInt32)] := (by have q := A111; rw [show (2 : Int32).toNatClampNeg = 2 from by decide] at q; exact q)
          refine g_iload K 73 at_73 rfl ?_
          refine g_iconst K 75 (3 : Int32) at_75 (by decide) ?_
          refine g_ii_le K 76 89 at_76 (by decide) (by decide) ?_ ?_
          · intro c114
            refine g_iload K 89 at_89 rfl ?_
            refine g_iconst K 91 (4 : Int32) at_91 (by decide) ?_
            refine g_ii_le K 92 105 at_92 (by decide) (by decide) ?_ ?_
            · intro c115
              refine g_iload K 105 at_105 rfl ?_
              refine g_iconst K 107 (5 : Int32) at_107 (by decide) ?_
              refine g_ii_le K 108 121 at_108 (by decide) (by decide) ?_ ?_
              · intro c116
                refine g_iload K 121 at_121 rfl ?_
                refine g_bipush K 123 (6 : Int32) at_123 (by decide) ?_
                refine g_ii_le K 125 139 at_125 (by decide) (by decide) ?_ ?_
                · intro c117
                  refine g_iload K 139 at_139 rfl ?_
                  refine g_bipush K 141 (7 : Int32) at_141 (by decide) ?_
                  refine g_ii_le K 143 157 at_143 (by decide) (by decide) ?_ ?_
                  · intro c118
                    refine g_iload K 157 at_157 rfl ?_
                    refine g_bipush K 159 (8 : Int32) at_159 (by decide) ?_
                    refine g_ii_le K 161 171 at_161 (by decide) (by decide) ?_ ?_
                    · intro c119
                      refine g_iload K 171 at_171 rfl ?_
                      refine g_bipush K 173 (9 : Int32) at_173 (by decide) ?_
                      refine g_ii_le K 175 188 at_175 (by decide) (by decide) ?_ ?_
                      · intro c120
                        refine g_iload K 188 at_188 rfl ?_
                        refine g_bipush K 190 (10 : Int32) at_190 (by decide) ?_
                        refine g_ii_le K 192 205 at_192 (by decide) (by decide) ?_ ?_
                        · intro c121
                          refine g_iload K 205 at_205 rfl ?_
                          refine g_iconst K 207 (4 : Int32) at_207 (by decide) ?_
                          refine g_idiv K 208 at_208 (by decide) ?_
                          rw [show ((3 : Int32) / (4 : Int32)) = (0 : Int32) from by decide]
                          refine g_istore K 209 #[.val (.int p0), .val (.long q1), .second, .val (.int p2), .val (.int (3 : Int32)), .val (.int q1.toInt32), .val (.int (XT.ushrL q1 (32 : Int32)).toInt32), .val (.int p2), .val (.ref a88), .val (.int (0 : Int32)), .unset, .unset, .unset, .unset] at_209 rfl ?_
                          refine g_iload K 211 at_211 rfl ?_
                          refine g_iconst K 213 (4 : Int32) at_213 (by decide) ?_
                          refine g_irem K 214 at_214 (by decide) ?_
                          rw [show ((3 : Int32) % (4 : Int32)) = (3 : Int32) from by decide]
                          refine g_istore K 215 #[.val (.int p0), .val (.long q1), .second, .val (.int p2), .val (.int (3 : Int32)), .val (.int q1.toInt32), .val (.int (XT.ushrL q1 (32 : Int32)).toInt32), .val (.int p2), .val (.ref a88), .val (.int (0 : Int32)), .val (.int (3 : Int32)), .unset, .unset, .unset] at_215 rfl ?_
                          refine g_ldc K 217 (v := (-1756908916 : Int32)) at_217 (tw hw 2 rfl) ?_
                          refine g_iload K 219 at_219 rfl ?_
                          refine g_ixor K 221 at_221 ?_
                          rw [show ((-1756908916 : Int32) ^^^ (3 : Int32)) = (-1756908913 : Int32) from by decide]
                          refine g_istore K 222 #[.val (.int p0), .val (.long q1), .second, .val (.int p2), .val (.int (3 : Int32)), .val (.int q1.toInt32), .val (.int (XT.ushrL q1 (32 : Int32)).toInt32), .val (.int p2), .val (.ref a88), .val (.int (0 : Int32)), .val (.int (3 : Int32)), .val (.int (-1756908913 : Int32)), .unset, .unset] at_222 rfl ?_
                          refine g_iload K 224 at_224 rfl ?_
                          refine g_iconst K 226 (1 : Int32) at_226 (by decide) ?_
                          refine g_ii_lt K 227 243 at_227 (by decide) (by decide) ?_ ?_
                          · intro c122
                            refine g_iload K 243 at_243 rfl ?_
                            refine g_iconst K 245 (2 : Int32) at_245 (by decide) ?_
                            refine g_ii_lt K 246 262 at_246 (by decide) (by decide) ?_ ?_
                            · intro c123
                              refine g_iload K 262 at_262 rfl ?_
                              refine g_if_ne K 264 272 at_264 (by decide) (by decide) ?_ ?_
                              · intro c124
                                exact absurd c124 (by decide)
                              · intro c124
                                refine g_iload K 267 at_267 rfl ?_
                                refine g_goto K 269 285 at_269 (by decide) (by decide) ?_
                                refine g_istore K 285 #[.val (.int p0), .val (.long q1), .second, .val (.int p2), .val (.int (3 : Int32)), .val (.int q1.toInt32), .val (.int (XT.ushrL q1 (32 : Int32)).toInt32), .val (.int p2), .val (.ref a88), .val (.int (0 : Int32)), .val (.int (3 : Int32)), .val (.int (-1756908913 : Int32)), .val (.int q1.toInt32), .unset] at_285 rfl ?_
                                refine g_iload K 287 at_287 rfl ?_
                                refine g_if_le K 289 316 at_289 (by decide) (by decide) ?_ ?_
                                · intro c125
                                  exact absurd c125 (by decide)
                                · intro c125
                                  refine g_iconst K 292 (1 : Int32) at_292 (by decide) ?_
                                  refine g_bipush K 293 (8 : Int32) at_293 (by decide) ?_
                                  refine g_iload K 295 at_295 rfl ?_
                                  refine g_imul K 297 at_297 ?_
                                  rw [show ((8 : Int32) * (3 : Int32)) = (24 : Int32) from by decide]
                                  refine g_ishl K 298 at_298 ?_
                                  rw [show ((1 : Int32) <<< ((24 : Int32) &&& 31)) = (16777216 : Int32) from by decide]
                                  refine g_iconst K 299 (1 : Int32) at_299 (by decide) ?_
                                  refine g_isub K 300 at_300 ?_
                                  rw [show ((16777216 : Int32) - (1 : Int32)) = (16777215 : Int32) from by decide]
                                  refine g_istore K 301 #[.val (.int p0), .val (.long q1), .second, .val (.int p2), .val (.int (3 : Int32)), .val (.int q1.toInt32), .val (.int (XT.ushrL q1 (32 : Int32)).toInt32), .val (.int p2), .val (.ref a88), .val (.int (0 : Int32)), .val (.int (3 : Int32)), .val (.int (-1756908913 : Int32)), .val (.int q1.toInt32), .val (.int (16777215 : Int32))] at_301 rfl ?_
                                  refine g_iload K 303 at_303 rfl ?_
                                  refine g_iload K 305 at_305 rfl ?_
                                  refine g_iload K 307 at_307 rfl ?_
                                  refine g_iand K 309 at_309 ?_
                                  refine g_ixor K 310 at_310 ?_
                                  refine g_ldc K 311 (v := (1540483477 : Int32)) at_311 (tw hw 13 rfl) ?_
                                  refine g_imul K 313 at_313 ?_
                                  refine g_istore K 314 #[.val (.int p0), .val (.long q1), .second, .val (.int p2), .val (.int (3 : Int32)), .val (.int q1.toInt32), .val (.int (XT.ushrL q1 (32 : Int32)).toInt32), .val (.int p2), .val (.ref a88), .val (.int (0 : Int32)), .val (.int (3 : Int32)), .val (.int (((-1756908913 : Int32) ^^^ (q1.toInt32 &&& (16777215 : Int32))) * (1540483477 : Int32))), .val (.int q1.toInt32), .val (.int (16777215 : Int32))] at_314 rfl ?_
                                  refine g_aload K 316 at_316 rfl rfl ?_
                                  refine g_callS K 318 [(.ref a88)] 0 at_318 (rm_mur3 l Z a0 hw a88 h109 n0 Z112 (nar .byte q1.toInt32.toInt8.toInt32) (nar .byte (((XT.ushrL q1 (8 : Int32)).toInt32).toInt8.toInt32)) (nar .byte (((XT.ushrL q1 (16 : Int32)).toInt32).toInt8.toInt32)) A113) (tw hw 3 rfl) (tw hw 4 rfl) (tw hw 5 rfl) (tw hw 6 rfl) (by decide) pd0 rfl (st := []) rfl (Nat.le_of_eq rfl) rfl (by decide) (by decide) (by decide) (by decide) ?_
                                  rintro _ _ ⟨hv, hh⟩
                                  rw [hv, hh]
                                  clear hv hh
                                  refine go_cast (k' := (0 + 1)) (n' := (0 + 3)) (st' := [(.int (f_mur3 (nar .byte q1.toInt32.toInt8.toInt32) (nar .byte (((XT.ushrL q1 (8 : Int32)).toInt32).toInt8.toInt32)) (nar .byte (((XT.ushrL q1 (16 : Int32)).toInt32).toInt8.toInt32))))]) rfl rfl rfl ?_
                                  refine g_iload K 321 at_321 rfl ?_
                                  refine g_callS K 323 [(.int (((-1756908913 : Int32) ^^^ (q1.toInt32 &&& (16777215 : Int32))) * (1540483477 : Int32)))] 1 at_323 (rm_fin l Z a0 hw (((-1756908913 : Int32) ^^^ (q1.toInt32 &&& (16777215 : Int32))) * (1540483477 : Int32)) h109 n0 Z112  ) (tw hw 9 rfl) (tw hw 10 rfl) (tw hw 11 rfl) (tw hw 12 rfl) (by decide) pd1 rfl (st := [(.int (f_mur3 (nar .byte q1.toInt32.toInt8.toInt32) (nar .byte (((XT.ushrL q1 (8 : Int32)).toInt32).toInt8.toInt32)) (nar .byte (((XT.ushrL q1 (16 : Int32)).toInt32).toInt8.toInt32))))]) rfl (Nat.le_of_eq rfl) rfl (by decide) (by decide) (by decide) (by decide) ?_
                                  rintro _ _ ⟨hv, hh⟩
                                  rw [hv, hh]
                                  clear hv hh
                                  refine go_cast (k' := (0 + 1)) (n' := (0 + 3)) (st' := [(.int (f_fin (((-1756908913 : Int32) ^^^ (q1.toInt32 &&& (16777215 : Int32))) * (1540483477 : Int32)))), (.int (f_mur3 (nar .byte q1.toInt32.toInt8.toInt32) (nar .byte (((XT.ushrL q1 (8 : Int32)).toInt32).toInt8.toInt32)) (nar .byte (((XT.ushrL q1 (16 : Int32)).toInt32).toInt8.toInt32))))]) rfl rfl rfl ?_
                                  refine g_ii_ne K 326 333 at_326 (by decide) (by decide) ?_ ?_
                                  · intro c126
                                    exfalso
                                    exact c126 (own_mur3 q1 p2)
                                  · intro c126
                                    refine g_iconst K 329 (1 : Int32) at_329 (by decide) ?_
                                    refine g_goto K 330 334 at_330 (by decide) (by decide) ?_
                                    refine g_retN K 334 .boolean at_334 rfl (by simp) (by decide) (by decide) ?_
                                    rw [hQ]
                                    rfl
                            · intro c123
                              exact absurd c123 (by decide)
                          · intro c122
                            exact absurd c122 (by decide)
                        · intro c121
                          exact absurd c121 (by decide)
                      · intro c120
                        exact absurd c120 (by decide)
                    · intro c119
                      exact absurd c119 (by decide)
                  · intro c118
                    exact absurd c118 (by decide)
                · intro c117
                  exact absurd c117 (by decide)
              · intro c116
                exact absurd c116 (by decide)
            · intro c115
              exact absurd c115 (by decide)
          · intro c114
            exact absurd c114 (by decide)
  · rw [hn]
    refine g_istore K 7 #[.val (.int p0), .val (.long q1), .second, .val (.int p2), .val (.int (4 : Int32)), .unset, .unset, .unset, .unset, .unset, .unset, .unset, .unset, .unset] at_7 rfl ?_
    refine g_lloadN K 9 at_9 rfl ?_
    refine g_l2i K 10 at_10 ?_
    refine g_istore K 11 #[.val (.int p0), .val (.long q1), .second, .val (.int p2), .val (.int (4 : Int32)), .val (.int q1.toInt32), .unset, .unset, .unset, .unset, .unset, .unset, .unset, .unset] at_11 rfl ?_
    refine g_lloadN K 13 at_13 rfl ?_
    refine g_bipush K 14 (32 : Int32) at_14 (by decide) ?_
    refine g_lushr K 16 at_16 ?_
    refine g_l2i K 17 at_17 ?_
    refine g_istore K 18 #[.val (.int p0), .val (.long q1), .second, .val (.int p2), .val (.int (4 : Int32)), .val (.int q1.toInt32), .val (.int (XT.ushrL q1 (32 : Int32)).toInt32), .unset, .unset, .unset, .unset, .unset, .unset, .unset] at_18 rfl ?_
    refine g_iloadN K 20 at_20 rfl ?_
    refine g_istore K 21 #[.val (.int p0), .val (.long q1), .second, .val (.int p2), .val (.int (4 : Int32)), .val (.int q1.toInt32), .val (.int (XT.ushrL q1 (32 : Int32)).toInt32), .val (.int p2), .unset, .unset, .unset, .unset, .unset, .unset] at_21 rfl ?_
    refine g_iload K 23 at_23 rfl ?_
    refine g_newI K 25 .byte at_25 rfl rfl (tw hw 1 rfl) (by decide) 4 (by decide) (by decide) (by decide) (by decide) ?_
    intro h128 a127 eq131 Kp129 A130
    have g132 : n0 ≤ a127 := eq131 ▸ Z0
    have Z133 := Nat.le_trans Z0 Kp129.1
    have A134 : IA Z h128 a127 .byte [0, 0, 0, 0] := (by have q := A130; rw [show (4 : Int32).toNatClampNeg = 4 from by decide] at q; exact q)
    refine g_astore K 27 #[.val (.int p0), .val (.long q1), .second, .val (.int p2), .val (.int (4 : Int32)), .val (.int q1.toInt32), .val (.int (XT.ushrL q1 (32 : Int32)).toInt32), .val (.int p2), .val (.ref a127), .unset, .unset, .unset, .unset, .unset] at_27 rfl rfl ?_
    refine g_iload K 29 at_29 rfl ?_
    refine g_if_le K 31 41 at_31 (by decide) (by decide) ?_ ?_
    · intro c135
      exact absurd c135 (by decide)
    · intro c135
      refine g_aload K 34 at_34 rfl rfl ?_
      refine g_iconst K 36 (0 : Int32) at_36 (by decide) ?_
      refine g_lloadN K 37 at_37 rfl ?_
      refine g_l2i K 38 at_38 ?_
      refine g_i2b K 39 at_39 ?_
      refine g_bastore K 40 at_40 A134 (by decide) (show (0 : Int32).toNatClampNeg < 4 from by decide) g132 ?_
      intro h136 Kp137 A138
      have Z139 := Nat.le_trans Z133 Kp137.1
      have A140 : IA Z h136 a127 .byte [nar .byte q1.toInt32.toInt8.toInt32, 0, 0, 0] := (by have q := A138; rw [show (0 : Int32).toNatClampNeg = 0 from by decide] at q; exact q)
      refine g_iload K 41 at_41 rfl ?_
      refine g_iconst K 43 (1 : Int32) at_43 (by decide) ?_
      refine g_ii_le K 44 57 at_44 (by decide) (by decide) ?_ ?_
      · intro c141
        exact absurd c141 (by decide)
      · intro c141
        refine g_aload K 47 at_47 rfl rfl ?_
        refine g_iconst K 49 (1 : Int32) at_49 (by decide) ?_
        refine g_lloadN K 50 at_50 rfl ?_
        refine g_bipush K 51 (8 : Int32) at_51 (by decide) ?_
        refine g_lushr K 53 at_53 ?_
        refine g_l2i K 54 at_54 ?_
        refine g_i2b K 55 at_55 ?_
        refine g_bastore K 56 at_56 A140 (by decide) (show (1 : Int32).toNatClampNeg < 4 from by decide) g132 ?_
        intro h142 Kp143 A144
        have Z145 := Nat.le_trans Z139 Kp143.1
        have A146 : IA Z h142 a127 .byte [nar .byte q1.toInt32.toInt8.toInt32, nar .byte (((XT.ushrL q1 (8 : Int32)).toInt32).toInt8.toInt32), 0, 0] := (by have q := A144; rw [show (1 : Int32).toNatClampNeg = 1 from by decide] at q; exact q)
        refine g_iload K 57 at_57 rfl ?_
        refine g_iconst K 59 (2 : Int32) at_59 (by decide) ?_
        refine g_ii_le K 60 73 at_60 (by decide) (by decide) ?_ ?_
        · intro c147
          exact absurd c147 (by decide)
        · intro c147
          refine g_aload K 63 at_63 rfl rfl ?_
          refine g_iconst K 65 (2 : Int32) at_65 (by decide) ?_
          refine g_lloadN K 66 at_66 rfl ?_
          refine g_bipush K 67 (16 : Int32) at_67 (by decide) ?_
          refine g_lushr K 69 at_69 ?_
          refine g_l2i K 70 at_70 ?_
          refine g_i2b K 71 at_71 ?_
          refine g_bastore K 72 at_72 A146 (by decide) (show (2 : Int32).toNatClampNeg < 4 from by decide) g132 ?_
          intro h148 Kp149 A150
          have Z151 := Nat.le_trans Z145 Kp149.1
          have A152 : IA Z h148 a127 .byte [nar .byte q1.toInt32.toInt8.toInt32, nar .byte (((XT.ushrL q1 (8 : Int32)).toInt32).toInt8.toInt32), nar .byte (((XT.ushrL q1 (16 : Int32)).toInt32).toInt8.toInt32), 0] := (by have q := A150; rw [show (2 : Int32).toNatClampNeg = 2 from by decide] at q; exact q)
          refine g_iload K 73 at_73 rfl ?_
          refine g_iconst K 75 (3 : Int32) at_75 (by decide) ?_
          refine g_ii_le K 76 89 at_76 (by decide) (by decide) ?_ ?_
          · intro c153
            exact absurd c153 (by decide)
          · intro c153
            refine g_aload K 79 at_79 rfl rfl ?_
            refine g_iconst K 81 (3 : Int32) at_81 (by decide) ?_
            refine g_lloadN K 82 at_82 rfl ?_
            refine g_bipush K 83 (24 : Int32) at_83 (by decide) ?_
            refine g_lushr K 85 at_85 ?_
            refine g_l2i K 86 at_86 ?_
            refine g_i2b K 87 at_87 ?_
            refine g_bastore K 88 at_88 A152 (by decide) (show (3 : Int32).toNatClampNeg < 4 from by decide) g132 ?_
            intro h154 Kp155 A156
            have Z157 := Nat.le_trans Z151 Kp155.1
            have A158 : IA Z h154 a127 .byte [nar .byte q1.toInt32.toInt8.toInt32, nar .byte (((XT.ushrL q1 (8 : Int32)).toInt32).toInt8.toInt32), nar .byte (((XT.ushrL q1 (16 : Int32)).toInt32).toInt8.toInt32), nar .byte (((XT.ushrL q1 (24 : Int32)).toInt32).toInt8.toInt32)] := (by have q := A156; rw [show (3 : Int32).toNatClampNeg = 3 from by decide] at q; exact q)
            refine g_iload K 89 at_89 rfl ?_
            refine g_iconst K 91 (4 : Int32) at_91 (by decide) ?_
            refine g_ii_le K 92 105 at_92 (by decide) (by decide) ?_ ?_
            · intro c159
              refine g_iload K 105 at_105 rfl ?_
              refine g_iconst K 107 (5 : Int32) at_107 (by decide) ?_
              refine g_ii_le K 108 121 at_108 (by decide) (by decide) ?_ ?_
              · intro c160
                refine g_iload K 121 at_121 rfl ?_
                refine g_bipush K 123 (6 : Int32) at_123 (by decide) ?_
                refine g_ii_le K 125 139 at_125 (by decide) (by decide) ?_ ?_
                · intro c161
                  refine g_iload K 139 at_139 rfl ?_
                  refine g_bipush K 141 (7 : Int32) at_141 (by decide) ?_
                  refine g_ii_le K 143 157 at_143 (by decide) (by decide) ?_ ?_
                  · intro c162
                    refine g_iload K 157 at_157 rfl ?_
                    refine g_bipush K 159 (8 : Int32) at_159 (by decide) ?_
                    refine g_ii_le K 161 171 at_161 (by decide) (by decide) ?_ ?_
                    · intro c163
                      refine g_iload K 171 at_171 rfl ?_
                      refine g_bipush K 173 (9 : Int32) at_173 (by decide) ?_
                      refine g_ii_le K 175 188 at_175 (by decide) (by decide) ?_ ?_
                      · intro c164
                        refine g_iload K 188 at_188 rfl ?_
                        refine g_bipush K 190 (10 : Int32) at_190 (by decide) ?_
                        refine g_ii_le K 192 205 at_192 (by decide) (by decide) ?_ ?_
                        · intro c165
                          refine g_iload K 205 at_205 rfl ?_
                          refine g_iconst K 207 (4 : Int32) at_207 (by decide) ?_
                          refine g_idiv K 208 at_208 (by decide) ?_
                          rw [show ((4 : Int32) / (4 : Int32)) = (1 : Int32) from by decide]
                          refine g_istore K 209 #[.val (.int p0), .val (.long q1), .second, .val (.int p2), .val (.int (4 : Int32)), .val (.int q1.toInt32), .val (.int (XT.ushrL q1 (32 : Int32)).toInt32), .val (.int p2), .val (.ref a127), .val (.int (1 : Int32)), .unset, .unset, .unset, .unset] at_209 rfl ?_
                          refine g_iload K 211 at_211 rfl ?_
                          refine g_iconst K 213 (4 : Int32) at_213 (by decide) ?_
                          refine g_irem K 214 at_214 (by decide) ?_
                          rw [show ((4 : Int32) % (4 : Int32)) = (0 : Int32) from by decide]
                          refine g_istore K 215 #[.val (.int p0), .val (.long q1), .second, .val (.int p2), .val (.int (4 : Int32)), .val (.int q1.toInt32), .val (.int (XT.ushrL q1 (32 : Int32)).toInt32), .val (.int p2), .val (.ref a127), .val (.int (1 : Int32)), .val (.int (0 : Int32)), .unset, .unset, .unset] at_215 rfl ?_
                          refine g_ldc K 217 (v := (-1756908916 : Int32)) at_217 (tw hw 2 rfl) ?_
                          refine g_iload K 219 at_219 rfl ?_
                          refine g_ixor K 221 at_221 ?_
                          rw [show ((-1756908916 : Int32) ^^^ (4 : Int32)) = (-1756908920 : Int32) from by decide]
                          refine g_istore K 222 #[.val (.int p0), .val (.long q1), .second, .val (.int p2), .val (.int (4 : Int32)), .val (.int q1.toInt32), .val (.int (XT.ushrL q1 (32 : Int32)).toInt32), .val (.int p2), .val (.ref a127), .val (.int (1 : Int32)), .val (.int (0 : Int32)), .val (.int (-1756908920 : Int32)), .unset, .unset] at_222 rfl ?_
                          refine g_iload K 224 at_224 rfl ?_
                          refine g_iconst K 226 (1 : Int32) at_226 (by decide) ?_
                          refine g_ii_lt K 227 243 at_227 (by decide) (by decide) ?_ ?_
                          · intro c166
                            exact absurd c166 (by decide)
                          · intro c166
                            refine g_iload K 230 at_230 rfl ?_
                            refine g_ldc K 232 (v := (1540483477 : Int32)) at_232 (tw hw 13 rfl) ?_
                            refine g_imul K 234 at_234 ?_
                            rw [show ((-1756908920 : Int32) * (1540483477 : Int32)) = (1732292904 : Int32) from by decide]
                            refine g_iload K 235 at_235 rfl ?_
                            refine g_callS K 237 [(.int q1.toInt32)] 1 at_237 (rm_mixK l Z a0 hw q1.toInt32 h154 n0 Z157  ) (tw hw 14 rfl) (tw hw 15 rfl) (tw hw 11 rfl) (tw hw 16 rfl) (by decide) pd1 rfl (st := [(.int (1732292904 : Int32))]) rfl (Nat.le_of_eq rfl) rfl (by decide) (by decide) (by decide) (by decide) ?_
                            rintro _ _ ⟨hv, hh⟩
                            rw [hv, hh]
                            clear hv hh
                            refine go_cast (k' := (0 + 1)) (n' := (0 + 4)) (st' := [(.int (f_mixK q1.toInt32)), (.int (1732292904 : Int32))]) rfl rfl rfl ?_
                            refine g_ixor K 240 at_240 ?_
                            refine g_istore K 241 #[.val (.int p0), .val (.long q1), .second, .val (.int p2), .val (.int (4 : Int32)), .val (.int q1.toInt32), .val (.int (XT.ushrL q1 (32 : Int32)).toInt32), .val (.int p2), .val (.ref a127), .val (.int (1 : Int32)), .val (.int (0 : Int32)), .val (.int ((1732292904 : Int32) ^^^ (f_mixK q1.toInt32))), .unset, .unset] at_241 rfl ?_
                            refine g_iload K 243 at_243 rfl ?_
                            refine g_iconst K 245 (2 : Int32) at_245 (by decide) ?_
                            refine g_ii_lt K 246 262 at_246 (by decide) (by decide) ?_ ?_
                            · intro c167
                              refine g_iload K 262 at_262 rfl ?_
                              refine g_if_ne K 264 272 at_264 (by decide) (by decide) ?_ ?_
                              · intro c168
                                refine g_iload K 272 at_272 rfl ?_
                                refine g_iconst K 274 (1 : Int32) at_274 (by decide) ?_
                                refine g_ii_ne K 275 283 at_275 (by decide) (by decide) ?_ ?_
                                · intro c169
                                  exact absurd c169 (by decide)
                                · intro c169
                                  refine g_iload K 278 at_278 rfl ?_
                                  refine g_goto K 280 285 at_280 (by decide) (by decide) ?_
                                  refine g_istore K 285 #[.val (.int p0), .val (.long q1), .second, .val (.int p2), .val (.int (4 : Int32)), .val (.int q1.toInt32), .val (.int (XT.ushrL q1 (32 : Int32)).toInt32), .val (.int p2), .val (.ref a127), .val (.int (1 : Int32)), .val (.int (0 : Int32)), .val (.int ((1732292904 : Int32) ^^^ (f_mixK q1.toInt32))), .val (.int (XT.ushrL q1 (32 : Int32)).toInt32), .unset] at_285 rfl ?_
                                  refine g_iload K 287 at_287 rfl ?_
                                  refine g_if_le K 289 316 at_289 (by decide) (by decide) ?_ ?_
                                  · intro c170
                                    refine g_aload K 316 at_316 rfl rfl ?_
                                    refine g_callS K 318 [(.ref a127)] 0 at_318 (rm_mur4 l Z a0 hw a127 h154 n0 Z157 (nar .byte q1.toInt32.toInt8.toInt32) (nar .byte (((XT.ushrL q1 (8 : Int32)).toInt32).toInt8.toInt32)) (nar .byte (((XT.ushrL q1 (16 : Int32)).toInt32).toInt8.toInt32)) (nar .byte (((XT.ushrL q1 (24 : Int32)).toInt32).toInt8.toInt32)) A158) (tw hw 3 rfl) (tw hw 4 rfl) (tw hw 5 rfl) (tw hw 6 rfl) (by decide) pd0 rfl (st := []) rfl (Nat.le_of_eq rfl) rfl (by decide) (by decide) (by decide) (by decide) ?_
                                    rintro _ _ ⟨hv, hh⟩
                                    rw [hv, hh]
                                    clear hv hh
                                    refine go_cast (k' := (0 + 1)) (n' := (0 + 4)) (st' := [(.int (f_mur4 (nar .byte q1.toInt32.toInt8.toInt32) (nar .byte (((XT.ushrL q1 (8 : Int32)).toInt32).toInt8.toInt32)) (nar .byte (((XT.ushrL q1 (16 : Int32)).toInt32).toInt8.toInt32)) (nar .byte (((XT.ushrL q1 (24 : Int32)).toInt32).toInt8.toInt32))))]) rfl rfl rfl ?_
                                    refine g_iload K 321 at_321 rfl ?_
                                    refine g_callS K 323 [(.int ((1732292904 : Int32) ^^^ (f_mixK q1.toInt32)))] 1 at_323 (rm_fin l Z a0 hw ((1732292904 : Int32) ^^^ (f_mixK q1.toInt32)) h154 n0 Z157  ) (tw hw 9 rfl) (tw hw 10 rfl) (tw hw 11 rfl) (tw hw 12 rfl) (by decide) pd1 rfl (st := [(.int (f_mur4 (nar .byte q1.toInt32.toInt8.toInt32) (nar .byte (((XT.ushrL q1 (8 : Int32)).toInt32).toInt8.toInt32)) (nar .byte (((XT.ushrL q1 (16 : Int32)).toInt32).toInt8.toInt32)) (nar .byte (((XT.ushrL q1 (24 : Int32)).toInt32).toInt8.toInt32))))]) rfl (Nat.le_of_eq rfl) rfl (by decide) (by decide) (by decide) (by decide) ?_
                                    rintro _ _ ⟨hv, hh⟩
                                    rw [hv, hh]
                                    clear hv hh
                                    refine go_cast (k' := (0 + 1)) (n' := (0 + 4)) (st' := [(.int (f_fin ((1732292904 : Int32) ^^^ (f_mixK q1.toInt32)))), (.int (f_mur4 (nar .byte q1.toInt32.toInt8.toInt32) (nar .byte (((XT.ushrL q1 (8 : Int32)).toInt32).toInt8.toInt32)) (nar .byte (((XT.ushrL q1 (16 : Int32)).toInt32).toInt8.toInt32)) (nar .byte (((XT.ushrL q1 (24 : Int32)).toInt32).toInt8.toInt32))))]) rfl rfl rfl ?_
                                    refine g_ii_ne K 326 333 at_326 (by decide) (by decide) ?_ ?_
                                    · intro c171
                                      exfalso
                                      exact c171 (own_mur4 q1 p2)
                                    · intro c171
                                      refine g_iconst K 329 (1 : Int32) at_329 (by decide) ?_
                                      refine g_goto K 330 334 at_330 (by decide) (by decide) ?_
                                      refine g_retN K 334 .boolean at_334 rfl (by simp) (by decide) (by decide) ?_
                                      rw [hQ]
                                      rfl
                                  · intro c170
                                    exact absurd c170 (by decide)
                              · intro c168
                                exact absurd c168 (by decide)
                            · intro c167
                              exact absurd c167 (by decide)
                        · intro c165
                          exact absurd c165 (by decide)
                      · intro c164
                        exact absurd c164 (by decide)
                    · intro c163
                      exact absurd c163 (by decide)
                  · intro c162
                    exact absurd c162 (by decide)
                · intro c161
                  exact absurd c161 (by decide)
              · intro c160
                exact absurd c160 (by decide)
            · intro c159
              exact absurd c159 (by decide)
  · rw [hn]
    refine g_istore K 7 #[.val (.int p0), .val (.long q1), .second, .val (.int p2), .val (.int (5 : Int32)), .unset, .unset, .unset, .unset, .unset, .unset, .unset, .unset, .unset] at_7 rfl ?_
    refine g_lloadN K 9 at_9 rfl ?_
    refine g_l2i K 10 at_10 ?_
    refine g_istore K 11 #[.val (.int p0), .val (.long q1), .second, .val (.int p2), .val (.int (5 : Int32)), .val (.int q1.toInt32), .unset, .unset, .unset, .unset, .unset, .unset, .unset, .unset] at_11 rfl ?_
    refine g_lloadN K 13 at_13 rfl ?_
    refine g_bipush K 14 (32 : Int32) at_14 (by decide) ?_
    refine g_lushr K 16 at_16 ?_
    refine g_l2i K 17 at_17 ?_
    refine g_istore K 18 #[.val (.int p0), .val (.long q1), .second, .val (.int p2), .val (.int (5 : Int32)), .val (.int q1.toInt32), .val (.int (XT.ushrL q1 (32 : Int32)).toInt32), .unset, .unset, .unset, .unset, .unset, .unset, .unset] at_18 rfl ?_
    refine g_iloadN K 20 at_20 rfl ?_
    refine g_istore K 21 #[.val (.int p0), .val (.long q1), .second, .val (.int p2), .val (.int (5 : Int32)), .val (.int q1.toInt32), .val (.int (XT.ushrL q1 (32 : Int32)).toInt32), .val (.int p2), .unset, .unset, .unset, .unset, .unset, .unset] at_21 rfl ?_
    refine g_iload K 23 at_23 rfl ?_
    refine g_newI K 25 .byte at_25 rfl rfl (tw hw 1 rfl) (by decide) 5 (by decide) (by decide) (by decide) (by decide) ?_
    intro h173 a172 eq176 Kp174 A175
    have g177 : n0 ≤ a172 := eq176 ▸ Z0
    have Z178 := Nat.le_trans Z0 Kp174.1
    have A179 : IA Z h173 a172 .byte [0, 0, 0, 0, 0] := (by have q := A175; rw [show (5 : Int32).toNatClampNeg = 5 from by decide] at q; exact q)
    refine g_astore K 27 #[.val (.int p0), .val (.long q1), .second, .val (.int p2), .val (.int (5 : Int32)), .val (.int q1.toInt32), .val (.int (XT.ushrL q1 (32 : Int32)).toInt32), .val (.int p2), .val (.ref a172), .unset, .unset, .unset, .unset, .unset] at_27 rfl rfl ?_
    refine g_iload K 29 at_29 rfl ?_
    refine g_if_le K 31 41 at_31 (by decide) (by decide) ?_ ?_
    · intro c180
      exact absurd c180 (by decide)
    · intro c180
      refine g_aload K 34 at_34 rfl rfl ?_
      refine g_iconst K 36 (0 : Int32) at_36 (by decide) ?_
      refine g_lloadN K 37 at_37 rfl ?_
      refine g_l2i K 38 at_38 ?_
      refine g_i2b K 39 at_39 ?_
      refine g_bastore K 40 at_40 A179 (by decide) (show (0 : Int32).toNatClampNeg < 5 from by decide) g177 ?_
      intro h181 Kp182 A183
      have Z184 := Nat.le_trans Z178 Kp182.1
      have A185 : IA Z h181 a172 .byte [nar .byte q1.toInt32.toInt8.toInt32, 0, 0, 0, 0] := (by have q := A183; rw [show (0 : Int32).toNatClampNeg = 0 from by decide] at q; exact q)
      refine g_iload K 41 at_41 rfl ?_
      refine g_iconst K 43 (1 : Int32) at_43 (by decide) ?_
      refine g_ii_le K 44 57 at_44 (by decide) (by decide) ?_ ?_
      · intro c186
        exact absurd c186 (by decide)
      · intro c186
        refine g_aload K 47 at_47 rfl rfl ?_
        refine g_iconst K 49 (1 : Int32) at_49 (by decide) ?_
        refine g_lloadN K 50 at_50 rfl ?_
        refine g_bipush K 51 (8 : Int32) at_51 (by decide) ?_
        refine g_lushr K 53 at_53 ?_
        refine g_l2i K 54 at_54 ?_
        refine g_i2b K 55 at_55 ?_
        refine g_bastore K 56 at_56 A185 (by decide) (show (1 : Int32).toNatClampNeg < 5 from by decide) g177 ?_
        intro h187 Kp188 A189
        have Z190 := Nat.le_trans Z184 Kp188.1
        have A191 : IA Z h187 a172 .byte [nar .byte q1.toInt32.toInt8.toInt32, nar .byte (((XT.ushrL q1 (8 : Int32)).toInt32).toInt8.toInt32), 0, 0, 0] := (by have q := A189; rw [show (1 : Int32).toNatClampNeg = 1 from by decide] at q; exact q)
        refine g_iload K 57 at_57 rfl ?_
        refine g_iconst K 59 (2 : Int32) at_59 (by decide) ?_
        refine g_ii_le K 60 73 at_60 (by decide) (by decide) ?_ ?_
        · intro c192
          exact absurd c192 (by decide)
        · intro c192
          refine g_aload K 63 at_63 rfl rfl ?_
          refine g_iconst K 65 (2 : Int32) at_65 (by decide) ?_
          refine g_lloadN K 66 at_66 rfl ?_
          refine g_bipush K 67 (16 : Int32) at_67 (by decide) ?_
          refine g_lushr K 69 at_69 ?_
          refine g_l2i K 70 at_70 ?_
          refine g_i2b K 71 at_71 ?_
          refine g_bastore K 72 at_72 A191 (by decide) (show (2 : Int32).toNatClampNeg < 5 from by decide) g177 ?_
          intro h193 Kp194 A195
          have Z196 := Nat.le_trans Z190 Kp194.1
          have A197 : IA Z h193 a172 .byte [nar .byte q1.toInt32.toInt8.toInt32, nar .byte (((XT.ushrL q1 (8 : Int32)).toInt32).toInt8.toInt32), nar .byte (((XT.ushrL q1 (16 : Int32)).toInt32).toInt8.toInt32), 0, 0] := (by have q := A195; rw [show (2 : Int32).toNatClampNeg = 2 from by decide] at q; exact q)
          refine g_iload K 73 at_73 rfl ?_
          refine g_iconst K 75 (3 : Int32) at_75 (by decide) ?_
          refine g_ii_le K 76 89 at_76 (by decide) (by decide) ?_ ?_
          · intro c198
            exact absurd c198 (by decide)
          · intro c198
            refine g_aload K 79 at_79 rfl rfl ?_
            refine g_iconst K 81 (3 : Int32) at_81 (by decide) ?_
            refine g_lloadN K 82 at_82 rfl ?_
            refine g_bipush K 83 (24 : Int32) at_83 (by decide) ?_
            refine g_lushr K 85 at_85 ?_
            refine g_l2i K 86 at_86 ?_
            refine g_i2b K 87 at_87 ?_
            refine g_bastore K 88 at_88 A197 (by decide) (show (3 : Int32).toNatClampNeg < 5 from by decide) g177 ?_
            intro h199 Kp200 A201
            have Z202 := Nat.le_trans Z196 Kp200.1
            have A203 : IA Z h199 a172 .byte [nar .byte q1.toInt32.toInt8.toInt32, nar .byte (((XT.ushrL q1 (8 : Int32)).toInt32).toInt8.toInt32), nar .byte (((XT.ushrL q1 (16 : Int32)).toInt32).toInt8.toInt32), nar .byte (((XT.ushrL q1 (24 : Int32)).toInt32).toInt8.toInt32), 0] := (by have q := A201; rw [show (3 : Int32).toNatClampNeg = 3 from by decide] at q; exact q)
            refine g_iload K 89 at_89 rfl ?_
            refine g_iconst K 91 (4 : Int32) at_91 (by decide) ?_
            refine g_ii_le K 92 105 at_92 (by decide) (by decide) ?_ ?_
            · intro c204
              exact absurd c204 (by decide)
            · intro c204
              refine g_aload K 95 at_95 rfl rfl ?_
              refine g_iconst K 97 (4 : Int32) at_97 (by decide) ?_
              refine g_lloadN K 98 at_98 rfl ?_
              refine g_bipush K 99 (32 : Int32) at_99 (by decide) ?_
              refine g_lushr K 101 at_101 ?_
              refine g_l2i K 102 at_102 ?_
              refine g_i2b K 103 at_103 ?_
              refine g_bastore K 104 at_104 A203 (by decide) (show (4 : Int32).toNatClampNeg < 5 from by decide) g177 ?_
              intro h205 Kp206 A207
              have Z208 := Nat.le_trans Z202 Kp206.1
              have A209 : IA Z h205 a172 .byte [nar .byte q1.toInt32.toInt8.toInt32, nar .byte (((XT.ushrL q1 (8 : Int32)).toInt32).toInt8.toInt32), nar .byte (((XT.ushrL q1 (16 : Int32)).toInt32).toInt8.toInt32), nar .byte (((XT.ushrL q1 (24 : Int32)).toInt32).toInt8.toInt32), nar .byte (((XT.ushrL q1 (32 : Int32)).toInt32).toInt8.toInt32)] := (by have q := A207; rw [show (4 : Int32).toNatClampNeg = 4 from by decide] at q; exact q)
              refine g_iload K 105 at_105 rfl ?_
              refine g_iconst K 107 (5 : Int32) at_107 (by decide) ?_
              refine g_ii_le K 108 121 at_108 (by decide) (by decide) ?_ ?_
              · intro c210
                refine g_iload K 121 at_121 rfl ?_
                refine g_bipush K 123 (6 : Int32) at_123 (by decide) ?_
                refine g_ii_le K 125 139 at_125 (by decide) (by decide) ?_ ?_
                · intro c211
                  refine g_iload K 139 at_139 rfl ?_
                  refine g_bipush K 141 (7 : Int32) at_141 (by decide) ?_
                  refine g_ii_le K 143 157 at_143 (by decide) (by decide) ?_ ?_
                  · intro c212
                    refine g_iload K 157 at_157 rfl ?_
                    refine g_bipush K 159 (8 : Int32) at_159 (by decide) ?_
                    refine g_ii_le K 161 171 at_161 (by decide) (by decide) ?_ ?_
                    · intro c213
                      refine g_iload K 171 at_171 rfl ?_
                      refine g_bipush K 173 (9 : Int32) at_173 (by decide) ?_
                      refine g_ii_le K 175 188 at_175 (by decide) (by decide) ?_ ?_
                      · intro c214
                        refine g_iload K 188 at_188 rfl ?_
                        refine g_bipush K 190 (10 : Int32) at_190 (by decide) ?_
                        refine g_ii_le K 192 205 at_192 (by decide) (by decide) ?_ ?_
                        · intro c215
                          refine g_iload K 205 at_205 rfl ?_
                          refine g_iconst K 207 (4 : Int32) at_207 (by decide) ?_
                          refine g_idiv K 208 at_208 (by decide) ?_
                          rw [show ((5 : Int32) / (4 : Int32)) = (1 : Int32) from by decide]
                          refine g_istore K 209 #[.val (.int p0), .val (.long q1), .second, .val (.int p2), .val (.int (5 : Int32)), .val (.int q1.toInt32), .val (.int (XT.ushrL q1 (32 : Int32)).toInt32), .val (.int p2), .val (.ref a172), .val (.int (1 : Int32)), .unset, .unset, .unset, .unset] at_209 rfl ?_
                          refine g_iload K 211 at_211 rfl ?_
                          refine g_iconst K 213 (4 : Int32) at_213 (by decide) ?_
                          refine g_irem K 214 at_214 (by decide) ?_
                          rw [show ((5 : Int32) % (4 : Int32)) = (1 : Int32) from by decide]
                          refine g_istore K 215 #[.val (.int p0), .val (.long q1), .second, .val (.int p2), .val (.int (5 : Int32)), .val (.int q1.toInt32), .val (.int (XT.ushrL q1 (32 : Int32)).toInt32), .val (.int p2), .val (.ref a172), .val (.int (1 : Int32)), .val (.int (1 : Int32)), .unset, .unset, .unset] at_215 rfl ?_
                          refine g_ldc K 217 (v := (-1756908916 : Int32)) at_217 (tw hw 2 rfl) ?_
                          refine g_iload K 219 at_219 rfl ?_
                          refine g_ixor K 221 at_221 ?_
                          rw [show ((-1756908916 : Int32) ^^^ (5 : Int32)) = (-1756908919 : Int32) from by decide]
                          refine g_istore K 222 #[.val (.int p0), .val (.long q1), .second, .val (.int p2), .val (.int (5 : Int32)), .val (.int q1.toInt32), .val (.int (XT.ushrL q1 (32 : Int32)).toInt32), .val (.int p2), .val (.ref a172), .val (.int (1 : Int32)), .val (.int (1 : Int32)), .val (.int (-1756908919 : Int32)), .unset, .unset] at_222 rfl ?_
                          refine g_iload K 224 at_224 rfl ?_
                          refine g_iconst K 226 (1 : Int32) at_226 (by decide) ?_
                          refine g_ii_lt K 227 243 at_227 (by decide) (by decide) ?_ ?_
                          · intro c216
                            exact absurd c216 (by decide)
                          · intro c216
                            refine g_iload K 230 at_230 rfl ?_
                            refine g_ldc K 232 (v := (1540483477 : Int32)) at_232 (tw hw 13 rfl) ?_
                            refine g_imul K 234 at_234 ?_
                            rw [show ((-1756908919 : Int32) * (1540483477 : Int32)) = (-1022190915 : Int32) from by decide]
                            refine g_iload K 235 at_235 rfl ?_
                            refine g_callS K 237 [(.int q1.toInt32)] 1 at_237 (rm_mixK l Z a0 hw q1.toInt32 h205 n0 Z208  ) (tw hw 14 rfl) (tw hw 15 rfl) (tw hw 11 rfl) (tw hw 16 rfl) (by decide) pd1 rfl (st := [(.int (-1022190915 : Int32))]) rfl (Nat.le_of_eq rfl) rfl (by decide) (by decide) (by decide) (by decide) ?_
                            rintro _ _ ⟨hv, hh⟩
                            rw [hv, hh]
                            clear hv hh
                            refine go_cast (k' := (0 + 1)) (n' := (0 + 5)) (st' := [(.int (f_mixK q1.toInt32)), (.int (-1022190915 : Int32))]) rfl rfl rfl ?_
                            refine g_ixor K 240 at_240 ?_
                            refine g_istore K 241 #[.val (.int p0), .val (.long q1), .second, .val (.int p2), .val (.int (5 : Int32)), .val (.int q1.toInt32), .val (.int (XT.ushrL q1 (32 : Int32)).toInt32), .val (.int p2), .val (.ref a172), .val (.int (1 : Int32)), .val (.int (1 : Int32)), .val (.int ((-1022190915 : Int32) ^^^ (f_mixK q1.toInt32))), .unset, .unset] at_241 rfl ?_
                            refine g_iload K 243 at_243 rfl ?_
                            refine g_iconst K 245 (2 : Int32) at_245 (by decide) ?_
                            refine g_ii_lt K 246 262 at_246 (by decide) (by decide) ?_ ?_
                            · intro c217
                              refine g_iload K 262 at_262 rfl ?_
                              refine g_if_ne K 264 272 at_264 (by decide) (by decide) ?_ ?_
                              · intro c218
                                refine g_iload K 272 at_272 rfl ?_
                                refine g_iconst K 274 (1 : Int32) at_274 (by decide) ?_
                                refine g_ii_ne K 275 283 at_275 (by decide) (by decide) ?_ ?_
                                · intro c219
                                  exact absurd c219 (by decide)
                                · intro c219
                                  refine g_iload K 278 at_278 rfl ?_
                                  refine g_goto K 280 285 at_280 (by decide) (by decide) ?_
                                  refine g_istore K 285 #[.val (.int p0), .val (.long q1), .second, .val (.int p2), .val (.int (5 : Int32)), .val (.int q1.toInt32), .val (.int (XT.ushrL q1 (32 : Int32)).toInt32), .val (.int p2), .val (.ref a172), .val (.int (1 : Int32)), .val (.int (1 : Int32)), .val (.int ((-1022190915 : Int32) ^^^ (f_mixK q1.toInt32))), .val (.int (XT.ushrL q1 (32 : Int32)).toInt32), .unset] at_285 rfl ?_
                                  refine g_iload K 287 at_287 rfl ?_
                                  refine g_if_le K 289 316 at_289 (by decide) (by decide) ?_ ?_
                                  · intro c220
                                    exact absurd c220 (by decide)
                                  · intro c220
                                    refine g_iconst K 292 (1 : Int32) at_292 (by decide) ?_
                                    refine g_bipush K 293 (8 : Int32) at_293 (by decide) ?_
                                    refine g_iload K 295 at_295 rfl ?_
                                    refine g_imul K 297 at_297 ?_
                                    rw [show ((8 : Int32) * (1 : Int32)) = (8 : Int32) from by decide]
                                    refine g_ishl K 298 at_298 ?_
                                    rw [show ((1 : Int32) <<< ((8 : Int32) &&& 31)) = (256 : Int32) from by decide]
                                    refine g_iconst K 299 (1 : Int32) at_299 (by decide) ?_
                                    refine g_isub K 300 at_300 ?_
                                    rw [show ((256 : Int32) - (1 : Int32)) = (255 : Int32) from by decide]
                                    refine g_istore K 301 #[.val (.int p0), .val (.long q1), .second, .val (.int p2), .val (.int (5 : Int32)), .val (.int q1.toInt32), .val (.int (XT.ushrL q1 (32 : Int32)).toInt32), .val (.int p2), .val (.ref a172), .val (.int (1 : Int32)), .val (.int (1 : Int32)), .val (.int ((-1022190915 : Int32) ^^^ (f_mixK q1.toInt32))), .val (.int (XT.ushrL q1 (32 : Int32)).toInt32), .val (.int (255 : Int32))] at_301 rfl ?_
                                    refine g_iload K 303 at_303 rfl ?_
                                    refine g_iload K 305 at_305 rfl ?_
                                    refine g_iload K 307 at_307 rfl ?_
                                    refine g_iand K 309 at_309 ?_
                                    refine g_ixor K 310 at_310 ?_
                                    refine g_ldc K 311 (v := (1540483477 : Int32)) at_311 (tw hw 13 rfl) ?_
                                    refine g_imul K 313 at_313 ?_
                                    refine g_istore K 314 #[.val (.int p0), .val (.long q1), .second, .val (.int p2), .val (.int (5 : Int32)), .val (.int q1.toInt32), .val (.int (XT.ushrL q1 (32 : Int32)).toInt32), .val (.int p2), .val (.ref a172), .val (.int (1 : Int32)), .val (.int (1 : Int32)), .val (.int ((((-1022190915 : Int32) ^^^ (f_mixK q1.toInt32)) ^^^ (((XT.ushrL q1 (32 : Int32)).toInt32) &&& (255 : Int32))) * (1540483477 : Int32))), .val (.int (XT.ushrL q1 (32 : Int32)).toInt32), .val (.int (255 : Int32))] at_314 rfl ?_
                                    refine g_aload K 316 at_316 rfl rfl ?_
                                    refine g_callS K 318 [(.ref a172)] 0 at_318 (rm_mur5 l Z a0 hw a172 h205 n0 Z208 (nar .byte q1.toInt32.toInt8.toInt32) (nar .byte (((XT.ushrL q1 (8 : Int32)).toInt32).toInt8.toInt32)) (nar .byte (((XT.ushrL q1 (16 : Int32)).toInt32).toInt8.toInt32)) (nar .byte (((XT.ushrL q1 (24 : Int32)).toInt32).toInt8.toInt32)) (nar .byte (((XT.ushrL q1 (32 : Int32)).toInt32).toInt8.toInt32)) A209) (tw hw 3 rfl) (tw hw 4 rfl) (tw hw 5 rfl) (tw hw 6 rfl) (by decide) pd0 rfl (st := []) rfl (Nat.le_of_eq rfl) rfl (by decide) (by decide) (by decide) (by decide) ?_
                                    rintro _ _ ⟨hv, hh⟩
                                    rw [hv, hh]
                                    clear hv hh
                                    refine go_cast (k' := (0 + 1)) (n' := (0 + 5)) (st' := [(.int (f_mur5 (nar .byte q1.toInt32.toInt8.toInt32) (nar .byte (((XT.ushrL q1 (8 : Int32)).toInt32).toInt8.toInt32)) (nar .byte (((XT.ushrL q1 (16 : Int32)).toInt32).toInt8.toInt32)) (nar .byte (((XT.ushrL q1 (24 : Int32)).toInt32).toInt8.toInt32)) (nar .byte (((XT.ushrL q1 (32 : Int32)).toInt32).toInt8.toInt32))))]) rfl rfl rfl ?_
                                    refine g_iload K 321 at_321 rfl ?_
                                    refine g_callS K 323 [(.int ((((-1022190915 : Int32) ^^^ (f_mixK q1.toInt32)) ^^^ (((XT.ushrL q1 (32 : Int32)).toInt32) &&& (255 : Int32))) * (1540483477 : Int32)))] 1 at_323 (rm_fin l Z a0 hw ((((-1022190915 : Int32) ^^^ (f_mixK q1.toInt32)) ^^^ (((XT.ushrL q1 (32 : Int32)).toInt32) &&& (255 : Int32))) * (1540483477 : Int32)) h205 n0 Z208  ) (tw hw 9 rfl) (tw hw 10 rfl) (tw hw 11 rfl) (tw hw 12 rfl) (by decide) pd1 rfl (st := [(.int (f_mur5 (nar .byte q1.toInt32.toInt8.toInt32) (nar .byte (((XT.ushrL q1 (8 : Int32)).toInt32).toInt8.toInt32)) (nar .byte (((XT.ushrL q1 (16 : Int32)).toInt32).toInt8.toInt32)) (nar .byte (((XT.ushrL q1 (24 : Int32)).toInt32).toInt8.toInt32)) (nar .byte (((XT.ushrL q1 (32 : Int32)).toInt32).toInt8.toInt32))))]) rfl (Nat.le_of_eq rfl) rfl (by decide) (by decide) (by decide) (by decide) ?_
                                    rintro _ _ ⟨hv, hh⟩
                                    rw [hv, hh]
                                    clear hv hh
                                    refine go_cast (k' := (0 + 1)) (n' := (0 + 5)) (st' := [(.int (f_fin ((((-1022190915 : Int32) ^^^ (f_mixK q1.toInt32)) ^^^ (((XT.ushrL q1 (32 : Int32)).toInt32) &&& (255 : Int32))) * (1540483477 : Int32)))), (.int (f_mur5 (nar .byte q1.toInt32.toInt8.toInt32) (nar .byte (((XT.ushrL q1 (8 : Int32)).toInt32).toInt8.toInt32)) (nar .byte (((XT.ushrL q1 (16 : Int32)).toInt32).toInt8.toInt32)) (nar .byte (((XT.ushrL q1 (24 : Int32)).toInt32).toInt8.toInt32)) (nar .byte (((XT.ushrL q1 (32 : Int32)).toInt32).toInt8.toInt32))))]) rfl rfl rfl ?_
                                    refine g_ii_ne K 326 333 at_326 (by decide) (by decide) ?_ ?_
                                    · intro c221
                                      exfalso
                                      exact c221 (own_mur5 q1 p2)
                                    · intro c221
                                      refine g_iconst K 329 (1 : Int32) at_329 (by decide) ?_
                                      refine g_goto K 330 334 at_330 (by decide) (by decide) ?_
                                      refine g_retN K 334 .boolean at_334 rfl (by simp) (by decide) (by decide) ?_
                                      rw [hQ]
                                      rfl
                              · intro c218
                                exact absurd c218 (by decide)
                            · intro c217
                              exact absurd c217 (by decide)
                        · intro c215
                          exact absurd c215 (by decide)
                      · intro c214
                        exact absurd c214 (by decide)
                    · intro c213
                      exact absurd c213 (by decide)
                  · intro c212
                    exact absurd c212 (by decide)
                · intro c211
                  exact absurd c211 (by decide)
              · intro c210
                exact absurd c210 (by decide)
  · rw [hn]
    refine g_istore K 7 #[.val (.int p0), .val (.long q1), .second, .val (.int p2), .val (.int (6 : Int32)), .unset, .unset, .unset, .unset, .unset, .unset, .unset, .unset, .unset] at_7 rfl ?_
    refine g_lloadN K 9 at_9 rfl ?_
    refine g_l2i K 10 at_10 ?_
    refine g_istore K 11 #[.val (.int p0), .val (.long q1), .second, .val (.int p2), .val (.int (6 : Int32)), .val (.int q1.toInt32), .unset, .unset, .unset, .unset, .unset, .unset, .unset, .unset] at_11 rfl ?_
    refine g_lloadN K 13 at_13 rfl ?_
    refine g_bipush K 14 (32 : Int32) at_14 (by decide) ?_
    refine g_lushr K 16 at_16 ?_
    refine g_l2i K 17 at_17 ?_
    refine g_istore K 18 #[.val (.int p0), .val (.long q1), .second, .val (.int p2), .val (.int (6 : Int32)), .val (.int q1.toInt32), .val (.int (XT.ushrL q1 (32 : Int32)).toInt32), .unset, .unset, .unset, .unset, .unset, .unset, .unset] at_18 rfl ?_
    refine g_iloadN K 20 at_20 rfl ?_
    refine g_istore K 21 #[.val (.int p0), .val (.long q1), .second, .val (.int p2), .val (.int (6 : Int32)), .val (.int q1.toInt32), .val (.int (XT.ushrL q1 (32 : Int32)).toInt32), .val (.int p2), .unset, .unset, .unset, .unset, .unset, .unset] at_21 rfl ?_
    refine g_iload K 23 at_23 rfl ?_
    refine g_newI K 25 .byte at_25 rfl rfl (tw hw 1 rfl) (by decide) 6 (by decide) (by decide) (by decide) (by decide) ?_
    intro h223 a222 eq226 Kp224 A225
    have g227 : n0 ≤ a222 := eq226 ▸ Z0
    have Z228 := Nat.le_trans Z0 Kp224.1
    have A229 : IA Z h223 a222 .byte [0, 0, 0, 0, 0, 0] := (by have q := A225; rw [show (6 : Int32).toNatClampNeg = 6 from by decide] at q; exact q)
    refine g_astore K 27 #[.val (.int p0), .val (.long q1), .second, .val (.int p2), .val (.int (6 : Int32)), .val (.int q1.toInt32), .val (.int (XT.ushrL q1 (32 : Int32)).toInt32), .val (.int p2), .val (.ref a222), .unset, .unset, .unset, .unset, .unset] at_27 rfl rfl ?_
    refine g_iload K 29 at_29 rfl ?_
    refine g_if_le K 31 41 at_31 (by decide) (by decide) ?_ ?_
    · intro c230
      exact absurd c230 (by decide)
    · intro c230
      refine g_aload K 34 at_34 rfl rfl ?_
      refine g_iconst K 36 (0 : Int32) at_36 (by decide) ?_
      refine g_lloadN K 37 at_37 rfl ?_
      refine g_l2i K 38 at_38 ?_
      refine g_i2b K 39 at_39 ?_
      refine g_bastore K 40 at_40 A229 (by decide) (show (0 : Int32).toNatClampNeg < 6 from by decide) g227 ?_
      intro h231 Kp232 A233
      have Z234 := Nat.le_trans Z228 Kp232.1
      have A235 : IA Z h231 a222 .byte [nar .byte q1.toInt32.toInt8.toInt32, 0, 0, 0, 0, 0] := (by have q := A233; rw [show (0 : Int32).toNatClampNeg = 0 from by decide] at q; exact q)
      refine g_iload K 41 at_41 rfl ?_
      refine g_iconst K 43 (1 : Int32) at_43 (by decide) ?_
      refine g_ii_le K 44 57 at_44 (by decide) (by decide) ?_ ?_
      · intro c236
        exact absurd c236 (by decide)
      · intro c236
        refine g_aload K 47 at_47 rfl rfl ?_
        refine g_iconst K 49 (1 : Int32) at_49 (by decide) ?_
        refine g_lloadN K 50 at_50 rfl ?_
        refine g_bipush K 51 (8 : Int32) at_51 (by decide) ?_
        refine g_lushr K 53 at_53 ?_
        refine g_l2i K 54 at_54 ?_
        refine g_i2b K 55 at_55 ?_
        refine g_bastore K 56 at_56 A235 (by decide) (show (1 : Int32).toNatClampNeg < 6 from by decide) g227 ?_
        intro h237 Kp238 A239
        have Z240 := Nat.le_trans Z234 Kp238.1
        have A241 : IA Z h237 a222 .byte [nar .byte q1.toInt32.toInt8.toInt32, nar .byte (((XT.ushrL q1 (8 : Int32)).toInt32).toInt8.toInt32), 0, 0, 0, 0] := (by have q := A239; rw [show (1 : Int32).toNatClampNeg = 1 from by decide] at q; exact q)
        refine g_iload K 57 at_57 rfl ?_
        refine g_iconst K 59 (2 : Int32) at_59 (by decide) ?_
        refine g_ii_le K 60 73 at_60 (by decide) (by decide) ?_ ?_
        · intro c242
          exact absurd c242 (by decide)
        · intro c242
          refine g_aload K 63 at_63 rfl rfl ?_
          refine g_iconst K 65 (2 : Int32) at_65 (by decide) ?_
          refine g_lloadN K 66 at_66 rfl ?_
          refine g_bipush K 67 (16 : Int32) at_67 (by decide) ?_
          refine g_lushr K 69 at_69 ?_
          refine g_l2i K 70 at_70 ?_
          refine g_i2b K 71 at_71 ?_
          refine g_bastore K 72 at_72 A241 (by decide) (show (2 : Int32).toNatClampNeg < 6 from by decide) g227 ?_
          intro h243 Kp244 A245
          have Z246 := Nat.le_trans Z240 Kp244.1
          have A247 : IA Z h243 a222 .byte [nar .byte q1.toInt32.toInt8.toInt32, nar .byte (((XT.ushrL q1 (8 : Int32)).toInt32).toInt8.toInt32), nar .byte (((XT.ushrL q1 (16 : Int32)).toInt32).toInt8.toInt32), 0, 0, 0] := (by have q := A245; rw [show (2 : Int32).toNatClampNeg = 2 from by decide] at q; exact q)
          refine g_iload K 73 at_73 rfl ?_
          refine g_iconst K 75 (3 : Int32) at_75 (by decide) ?_
          refine g_ii_le K 76 89 at_76 (by decide) (by decide) ?_ ?_
          · intro c248
            exact absurd c248 (by decide)
          · intro c248
            refine g_aload K 79 at_79 rfl rfl ?_
            refine g_iconst K 81 (3 : Int32) at_81 (by decide) ?_
            refine g_lloadN K 82 at_82 rfl ?_
            refine g_bipush K 83 (24 : Int32) at_83 (by decide) ?_
            refine g_lushr K 85 at_85 ?_
            refine g_l2i K 86 at_86 ?_
            refine g_i2b K 87 at_87 ?_
            refine g_bastore K 88 at_88 A247 (by decide) (show (3 : Int32).toNatClampNeg < 6 from by decide) g227 ?_
            intro h249 Kp250 A251
            have Z252 := Nat.le_trans Z246 Kp250.1
            have A253 : IA Z h249 a222 .byte [nar .byte q1.toInt32.toInt8.toInt32, nar .byte (((XT.ushrL q1 (8 : Int32)).toInt32).toInt8.toInt32), nar .byte (((XT.ushrL q1 (16 : Int32)).toInt32).toInt8.toInt32), nar .byte (((XT.ushrL q1 (24 : Int32)).toInt32).toInt8.toInt32), 0, 0] := (by have q := A251; rw [show (3 : Int32).toNatClampNeg = 3 from by decide] at q; exact q)
            refine g_iload K 89 at_89 rfl ?_
            refine g_iconst K 91 (4 : Int32) at_91 (by decide) ?_
            refine g_ii_le K 92 105 at_92 (by decide) (by decide) ?_ ?_
            · intro c254
              exact absurd c254 (by decide)
            · intro c254
              refine g_aload K 95 at_95 rfl rfl ?_
              refine g_iconst K 97 (4 : Int32) at_97 (by decide) ?_
              refine g_lloadN K 98 at_98 rfl ?_
              refine g_bipush K 99 (32 : Int32) at_99 (by decide) ?_
              refine g_lushr K 101 at_101 ?_
              refine g_l2i K 102 at_102 ?_
              refine g_i2b K 103 at_103 ?_
              refine g_bastore K 104 at_104 A253 (by decide) (show (4 : Int32).toNatClampNeg < 6 from by decide) g227 ?_
              intro h255 Kp256 A257
              have Z258 := Nat.le_trans Z252 Kp256.1
              have A259 : IA Z h255 a222 .byte [nar .byte q1.toInt32.toInt8.toInt32, nar .byte (((XT.ushrL q1 (8 : Int32)).toInt32).toInt8.toInt32), nar .byte (((XT.ushrL q1 (16 : Int32)).toInt32).toInt8.toInt32), nar .byte (((XT.ushrL q1 (24 : Int32)).toInt32).toInt8.toInt32), nar .byte (((XT.ushrL q1 (32 : Int32)).toInt32).toInt8.toInt32), 0] := (by have q := A257; rw [show (4 : Int32).toNatClampNeg = 4 from by decide] at q; exact q)
              refine g_iload K 105 at_105 rfl ?_
              refine g_iconst K 107 (5 : Int32) at_107 (by decide) ?_
              refine g_ii_le K 108 121 at_108 (by decide) (by decide) ?_ ?_
              · intro c260
                exact absurd c260 (by decide)
              · intro c260
                refine g_aload K 111 at_111 rfl rfl ?_
                refine g_iconst K 113 (5 : Int32) at_113 (by decide) ?_
                refine g_lloadN K 114 at_114 rfl ?_
                refine g_bipush K 115 (40 : Int32) at_115 (by decide) ?_
                refine g_lushr K 117 at_117 ?_
                refine g_l2i K 118 at_118 ?_
                refine g_i2b K 119 at_119 ?_
                refine g_bastore K 120 at_120 A259 (by decide) (show (5 : Int32).toNatClampNeg < 6 from by decide) g227 ?_
                intro h261 Kp262 A263
                have Z264 := Nat.le_trans Z258 Kp262.1
                have A265 : IA Z h261 a222 .byte [nar .byte q1.toInt32.toInt8.toInt32, nar .byte (((XT.ushrL q1 (8 : Int32)).toInt32).toInt8.toInt32), nar .byte (((XT.ushrL q1 (16 : Int32)).toInt32).toInt8.toInt32), nar .byte (((XT.ushrL q1 (24 : Int32)).toInt32).toInt8.toInt32), nar .byte (((XT.ushrL q1 (32 : Int32)).toInt32).toInt8.toInt32), nar .byte (((XT.ushrL q1 (40 : Int32)).toInt32).toInt8.toInt32)] := (by have q := A263; rw [show (5 : Int32).toNatClampNeg = 5 from by decide] at q; exact q)
                refine g_iload K 121 at_121 rfl ?_
                refine g_bipush K 123 (6 : Int32) at_123 (by decide) ?_
                refine g_ii_le K 125 139 at_125 (by decide) (by decide) ?_ ?_
                · intro c266
                  refine g_iload K 139 at_139 rfl ?_
                  refine g_bipush K 141 (7 : Int32) at_141 (by decide) ?_
                  refine g_ii_le K 143 157 at_143 (by decide) (by decide) ?_ ?_
                  · intro c267
                    refine g_iload K 157 at_157 rfl ?_
                    refine g_bipush K 159 (8 : Int32) at_159 (by decide) ?_
                    refine g_ii_le K 161 171 at_161 (by decide) (by decide) ?_ ?_
                    · intro c268
                      refine g_iload K 171 at_171 rfl ?_
                      refine g_bipush K 173 (9 : Int32) at_173 (by decide) ?_
                      refine g_ii_le K 175 188 at_175 (by decide) (by decide) ?_ ?_
                      · intro c269
                        refine g_iload K 188 at_188 rfl ?_
                        refine g_bipush K 190 (10 : Int32) at_190 (by decide) ?_
                        refine g_ii_le K 192 205 at_192 (by decide) (by decide) ?_ ?_
                        · intro c270
                          refine g_iload K 205 at_205 rfl ?_
                          refine g_iconst K 207 (4 : Int32) at_207 (by decide) ?_
                          refine g_idiv K 208 at_208 (by decide) ?_
                          rw [show ((6 : Int32) / (4 : Int32)) = (1 : Int32) from by decide]
                          refine g_istore K 209 #[.val (.int p0), .val (.long q1), .second, .val (.int p2), .val (.int (6 : Int32)), .val (.int q1.toInt32), .val (.int (XT.ushrL q1 (32 : Int32)).toInt32), .val (.int p2), .val (.ref a222), .val (.int (1 : Int32)), .unset, .unset, .unset, .unset] at_209 rfl ?_
                          refine g_iload K 211 at_211 rfl ?_
                          refine g_iconst K 213 (4 : Int32) at_213 (by decide) ?_
                          refine g_irem K 214 at_214 (by decide) ?_
                          rw [show ((6 : Int32) % (4 : Int32)) = (2 : Int32) from by decide]
                          refine g_istore K 215 #[.val (.int p0), .val (.long q1), .second, .val (.int p2), .val (.int (6 : Int32)), .val (.int q1.toInt32), .val (.int (XT.ushrL q1 (32 : Int32)).toInt32), .val (.int p2), .val (.ref a222), .val (.int (1 : Int32)), .val (.int (2 : Int32)), .unset, .unset, .unset] at_215 rfl ?_
                          refine g_ldc K 217 (v := (-1756908916 : Int32)) at_217 (tw hw 2 rfl) ?_
                          refine g_iload K 219 at_219 rfl ?_
                          refine g_ixor K 221 at_221 ?_
                          rw [show ((-1756908916 : Int32) ^^^ (6 : Int32)) = (-1756908918 : Int32) from by decide]
                          refine g_istore K 222 #[.val (.int p0), .val (.long q1), .second, .val (.int p2), .val (.int (6 : Int32)), .val (.int q1.toInt32), .val (.int (XT.ushrL q1 (32 : Int32)).toInt32), .val (.int p2), .val (.ref a222), .val (.int (1 : Int32)), .val (.int (2 : Int32)), .val (.int (-1756908918 : Int32)), .unset, .unset] at_222 rfl ?_
                          refine g_iload K 224 at_224 rfl ?_
                          refine g_iconst K 226 (1 : Int32) at_226 (by decide) ?_
                          refine g_ii_lt K 227 243 at_227 (by decide) (by decide) ?_ ?_
                          · intro c271
                            exact absurd c271 (by decide)
                          · intro c271
                            refine g_iload K 230 at_230 rfl ?_
                            refine g_ldc K 232 (v := (1540483477 : Int32)) at_232 (tw hw 13 rfl) ?_
                            refine g_imul K 234 at_234 ?_
                            rw [show ((-1756908918 : Int32) * (1540483477 : Int32)) = (518292562 : Int32) from by decide]
                            refine g_iload K 235 at_235 rfl ?_
                            refine g_callS K 237 [(.int q1.toInt32)] 1 at_237 (rm_mixK l Z a0 hw q1.toInt32 h261 n0 Z264  ) (tw hw 14 rfl) (tw hw 15 rfl) (tw hw 11 rfl) (tw hw 16 rfl) (by decide) pd1 rfl (st := [(.int (518292562 : Int32))]) rfl (Nat.le_of_eq rfl) rfl (by decide) (by decide) (by decide) (by decide) ?_
                            rintro _ _ ⟨hv, hh⟩
                            rw [hv, hh]
                            clear hv hh
                            refine go_cast (k' := (0 + 1)) (n' := (0 + 6)) (st' := [(.int (f_mixK q1.toInt32)), (.int (518292562 : Int32))]) rfl rfl rfl ?_
                            refine g_ixor K 240 at_240 ?_
                            refine g_istore K 241 #[.val (.int p0), .val (.long q1), .second, .val (.int p2), .val (.int (6 : Int32)), .val (.int q1.toInt32), .val (.int (XT.ushrL q1 (32 : Int32)).toInt32), .val (.int p2), .val (.ref a222), .val (.int (1 : Int32)), .val (.int (2 : Int32)), .val (.int ((518292562 : Int32) ^^^ (f_mixK q1.toInt32))), .unset, .unset] at_241 rfl ?_
                            refine g_iload K 243 at_243 rfl ?_
                            refine g_iconst K 245 (2 : Int32) at_245 (by decide) ?_
                            refine g_ii_lt K 246 262 at_246 (by decide) (by decide) ?_ ?_
                            · intro c272
                              refine g_iload K 262 at_262 rfl ?_
                              refine g_if_ne K 264 272 at_264 (by decide) (by decide) ?_ ?_
                              · intro c273
                                refine g_iload K 272 at_272 rfl ?_
                                refine g_iconst K 274 (1 : Int32) at_274 (by decide) ?_
                                refine g_ii_ne K 275 283 at_275 (by decide) (by decide) ?_ ?_
                                · intro c274
                                  exact absurd c274 (by decide)
                                · intro c274
                                  refine g_iload K 278 at_278 rfl ?_
                                  refine g_goto K 280 285 at_280 (by decide) (by decide) ?_
                                  refine g_istore K 285 #[.val (.int p0), .val (.long q1), .second, .val (.int p2), .val (.int (6 : Int32)), .val (.int q1.toInt32), .val (.int (XT.ushrL q1 (32 : Int32)).toInt32), .val (.int p2), .val (.ref a222), .val (.int (1 : Int32)), .val (.int (2 : Int32)), .val (.int ((518292562 : Int32) ^^^ (f_mixK q1.toInt32))), .val (.int (XT.ushrL q1 (32 : Int32)).toInt32), .unset] at_285 rfl ?_
                                  refine g_iload K 287 at_287 rfl ?_
                                  refine g_if_le K 289 316 at_289 (by decide) (by decide) ?_ ?_
                                  · intro c275
                                    exact absurd c275 (by decide)
                                  · intro c275
                                    refine g_iconst K 292 (1 : Int32) at_292 (by decide) ?_
                                    refine g_bipush K 293 (8 : Int32) at_293 (by decide) ?_
                                    refine g_iload K 295 at_295 rfl ?_
                                    refine g_imul K 297 at_297 ?_
                                    rw [show ((8 : Int32) * (2 : Int32)) = (16 : Int32) from by decide]
                                    refine g_ishl K 298 at_298 ?_
                                    rw [show ((1 : Int32) <<< ((16 : Int32) &&& 31)) = (65536 : Int32) from by decide]
                                    refine g_iconst K 299 (1 : Int32) at_299 (by decide) ?_
                                    refine g_isub K 300 at_300 ?_
                                    rw [show ((65536 : Int32) - (1 : Int32)) = (65535 : Int32) from by decide]
                                    refine g_istore K 301 #[.val (.int p0), .val (.long q1), .second, .val (.int p2), .val (.int (6 : Int32)), .val (.int q1.toInt32), .val (.int (XT.ushrL q1 (32 : Int32)).toInt32), .val (.int p2), .val (.ref a222), .val (.int (1 : Int32)), .val (.int (2 : Int32)), .val (.int ((518292562 : Int32) ^^^ (f_mixK q1.toInt32))), .val (.int (XT.ushrL q1 (32 : Int32)).toInt32), .val (.int (65535 : Int32))] at_301 rfl ?_
                                    refine g_iload K 303 at_303 rfl ?_
                                    refine g_iload K 305 at_305 rfl ?_
                                    refine g_iload K 307 at_307 rfl ?_
                                    refine g_iand K 309 at_309 ?_
                                    refine g_ixor K 310 at_310 ?_
                                    refine g_ldc K 311 (v := (1540483477 : Int32)) at_311 (tw hw 13 rfl) ?_
                                    refine g_imul K 313 at_313 ?_
                                    refine g_istore K 314 #[.val (.int p0), .val (.long q1), .second, .val (.int p2), .val (.int (6 : Int32)), .val (.int q1.toInt32), .val (.int (XT.ushrL q1 (32 : Int32)).toInt32), .val (.int p2), .val (.ref a222), .val (.int (1 : Int32)), .val (.int (2 : Int32)), .val (.int ((((518292562 : Int32) ^^^ (f_mixK q1.toInt32)) ^^^ (((XT.ushrL q1 (32 : Int32)).toInt32) &&& (65535 : Int32))) * (1540483477 : Int32))), .val (.int (XT.ushrL q1 (32 : Int32)).toInt32), .val (.int (65535 : Int32))] at_314 rfl ?_
                                    refine g_aload K 316 at_316 rfl rfl ?_
                                    refine g_callS K 318 [(.ref a222)] 0 at_318 (rm_mur6 l Z a0 hw a222 h261 n0 Z264 (nar .byte q1.toInt32.toInt8.toInt32) (nar .byte (((XT.ushrL q1 (8 : Int32)).toInt32).toInt8.toInt32)) (nar .byte (((XT.ushrL q1 (16 : Int32)).toInt32).toInt8.toInt32)) (nar .byte (((XT.ushrL q1 (24 : Int32)).toInt32).toInt8.toInt32)) (nar .byte (((XT.ushrL q1 (32 : Int32)).toInt32).toInt8.toInt32)) (nar .byte (((XT.ushrL q1 (40 : Int32)).toInt32).toInt8.toInt32)) A265) (tw hw 3 rfl) (tw hw 4 rfl) (tw hw 5 rfl) (tw hw 6 rfl) (by decide) pd0 rfl (st := []) rfl (Nat.le_of_eq rfl) rfl (by decide) (by decide) (by decide) (by decide) ?_
                                    rintro _ _ ⟨hv, hh⟩
                                    rw [hv, hh]
                                    clear hv hh
                                    refine go_cast (k' := (0 + 1)) (n' := (0 + 6)) (st' := [(.int (f_mur6 (nar .byte q1.toInt32.toInt8.toInt32) (nar .byte (((XT.ushrL q1 (8 : Int32)).toInt32).toInt8.toInt32)) (nar .byte (((XT.ushrL q1 (16 : Int32)).toInt32).toInt8.toInt32)) (nar .byte (((XT.ushrL q1 (24 : Int32)).toInt32).toInt8.toInt32)) (nar .byte (((XT.ushrL q1 (32 : Int32)).toInt32).toInt8.toInt32)) (nar .byte (((XT.ushrL q1 (40 : Int32)).toInt32).toInt8.toInt32))))]) rfl rfl rfl ?_
                                    refine g_iload K 321 at_321 rfl ?_
                                    refine g_callS K 323 [(.int ((((518292562 : Int32) ^^^ (f_mixK q1.toInt32)) ^^^ (((XT.ushrL q1 (32 : Int32)).toInt32) &&& (65535 : Int32))) * (1540483477 : Int32)))] 1 at_323 (rm_fin l Z a0 hw ((((518292562 : Int32) ^^^ (f_mixK q1.toInt32)) ^^^ (((XT.ushrL q1 (32 : Int32)).toInt32) &&& (65535 : Int32))) * (1540483477 : Int32)) h261 n0 Z264  ) (tw hw 9 rfl) (tw hw 10 rfl) (tw hw 11 rfl) (tw hw 12 rfl) (by decide) pd1 rfl (st := [(.int (f_mur6 (nar .byte q1.toInt32.toInt8.toInt32) (nar .byte (((XT.ushrL q1 (8 : Int32)).toInt32).toInt8.toInt32)) (nar .byte (((XT.ushrL q1 (16 : Int32)).toInt32).toInt8.toInt32)) (nar .byte (((XT.ushrL q1 (24 : Int32)).toInt32).toInt8.toInt32)) (nar .byte (((XT.ushrL q1 (32 : Int32)).toInt32).toInt8.toInt32)) (nar .byte (((XT.ushrL q1 (40 : Int32)).toInt32).toInt8.toInt32))))]) rfl (Nat.le_of_eq rfl) rfl (by decide) (by decide) (by decide) (by decide) ?_
                                    rintro _ _ ⟨hv, hh⟩
                                    rw [hv, hh]
                                    clear hv hh
                                    refine go_cast (k' := (0 + 1)) (n' := (0 + 6)) (st' := [(.int (f_fin ((((518292562 : Int32) ^^^ (f_mixK q1.toInt32)) ^^^ (((XT.ushrL q1 (32 : Int32)).toInt32) &&& (65535 : Int32))) * (1540483477 : Int32)))), (.int (f_mur6 (nar .byte q1.toInt32.toInt8.toInt32) (nar .byte (((XT.ushrL q1 (8 : Int32)).toInt32).toInt8.toInt32)) (nar .byte (((XT.ushrL q1 (16 : Int32)).toInt32).toInt8.toInt32)) (nar .byte (((XT.ushrL q1 (24 : Int32)).toInt32).toInt8.toInt32)) (nar .byte (((XT.ushrL q1 (32 : Int32)).toInt32).toInt8.toInt32)) (nar .byte (((XT.ushrL q1 (40 : Int32)).toInt32).toInt8.toInt32))))]) rfl rfl rfl ?_
                                    refine g_ii_ne K 326 333 at_326 (by decide) (by decide) ?_ ?_
                                    · intro c276
                                      exfalso
                                      exact c276 (own_mur6 q1 p2)
                                    · intro c276
                                      refine g_iconst K 329 (1 : Int32) at_329 (by decide) ?_
                                      refine g_goto K 330 334 at_330 (by decide) (by decide) ?_
                                      refine g_retN K 334 .boolean at_334 rfl (by simp) (by decide) (by decide) ?_
                                      rw [hQ]
                                      rfl
                              · intro c273
                                exact absurd c273 (by decide)
                            · intro c272
                              exact absurd c272 (by decide)
                        · intro c270
                          exact absurd c270 (by decide)
                      · intro c269
                        exact absurd c269 (by decide)
                    · intro c268
                      exact absurd c268 (by decide)
                  · intro c267
                    exact absurd c267 (by decide)
                · intro c266
                  exact absurd c266 (by decide)
  · rw [hn]
    refine g_istore K 7 #[.val (.int p0), .val (.long q1), .second, .val (.int p2), .val (.int (7 : Int32)), .unset, .unset, .unset, .unset, .unset, .unset, .unset, .unset, .unset] at_7 rfl ?_
    refine g_lloadN K 9 at_9 rfl ?_
    refine g_l2i K 10 at_10 ?_
    refine g_istore K 11 #[.val (.int p0), .val (.long q1), .second, .val (.int p2), .val (.int (7 : Int32)), .val (.int q1.toInt32), .unset, .unset, .unset, .unset, .unset, .unset, .unset, .unset] at_11 rfl ?_
    refine g_lloadN K 13 at_13 rfl ?_
    refine g_bipush K 14 (32 : Int32) at_14 (by decide) ?_
    refine g_lushr K 16 at_16 ?_
    refine g_l2i K 17 at_17 ?_
    refine g_istore K 18 #[.val (.int p0), .val (.long q1), .second, .val (.int p2), .val (.int (7 : Int32)), .val (.int q1.toInt32), .val (.int (XT.ushrL q1 (32 : Int32)).toInt32), .unset, .unset, .unset, .unset, .unset, .unset, .unset] at_18 rfl ?_
    refine g_iloadN K 20 at_20 rfl ?_
    refine g_istore K 21 #[.val (.int p0), .val (.long q1), .second, .val (.int p2), .val (.int (7 : Int32)), .val (.int q1.toInt32), .val (.int (XT.ushrL q1 (32 : Int32)).toInt32), .val (.int p2), .unset, .unset, .unset, .unset, .unset, .unset] at_21 rfl ?_
    refine g_iload K 23 at_23 rfl ?_
    refine g_newI K 25 .byte at_25 rfl rfl (tw hw 1 rfl) (by decide) 7 (by decide) (by decide) (by decide) (by decide) ?_
    intro h278 a277 eq281 Kp279 A280
    have g282 : n0 ≤ a277 := eq281 ▸ Z0
    have Z283 := Nat.le_trans Z0 Kp279.1
    have A284 : IA Z h278 a277 .byte [0, 0, 0, 0, 0, 0, 0] := (by have q := A280; rw [show (7 : Int32).toNatClampNeg = 7 from by decide] at q; exact q)
    refine g_astore K 27 #[.val (.int p0), .val (.long q1), .second, .val (.int p2), .val (.int (7 : Int32)), .val (.int q1.toInt32), .val (.int (XT.ushrL q1 (32 : Int32)).toInt32), .val (.int p2), .val (.ref a277), .unset, .unset, .unset, .unset, .unset] at_27 rfl rfl ?_
    refine g_iload K 29 at_29 rfl ?_
    refine g_if_le K 31 41 at_31 (by decide) (by decide) ?_ ?_
    · intro c285
      exact absurd c285 (by decide)
    · intro c285
      refine g_aload K 34 at_34 rfl rfl ?_
      refine g_iconst K 36 (0 : Int32) at_36 (by decide) ?_
      refine g_lloadN K 37 at_37 rfl ?_
      refine g_l2i K 38 at_38 ?_
      refine g_i2b K 39 at_39 ?_
      refine g_bastore K 40 at_40 A284 (by decide) (show (0 : Int32).toNatClampNeg < 7 from by decide) g282 ?_
      intro h286 Kp287 A288
      have Z289 := Nat.le_trans Z283 Kp287.1
      have A290 : IA Z h286 a277 .byte [nar .byte q1.toInt32.toInt8.toInt32, 0, 0, 0, 0, 0, 0] := (by have q := A288; rw [show (0 : Int32).toNatClampNeg = 0 from by decide] at q; exact q)
      refine g_iload K 41 at_41 rfl ?_
      refine g_iconst K 43 (1 : Int32) at_43 (by decide) ?_
      refine g_ii_le K 44 57 at_44 (by decide) (by decide) ?_ ?_
      · intro c291
        exact absurd c291 (by decide)
      · intro c291
        refine g_aload K 47 at_47 rfl rfl ?_
        refine g_iconst K 49 (1 : Int32) at_49 (by decide) ?_
        refine g_lloadN K 50 at_50 rfl ?_
        refine g_bipush K 51 (8 : Int32) at_51 (by decide) ?_
        refine g_lushr K 53 at_53 ?_
        refine g_l2i K 54 at_54 ?_
        refine g_i2b K 55 at_55 ?_
        refine g_bastore K 56 at_56 A290 (by decide) (show (1 : Int32).toNatClampNeg < 7 from by decide) g282 ?_
        intro h292 Kp293 A294
        have Z295 := Nat.le_trans Z289 Kp293.1
        have A296 : IA Z h292 a277 .byte [nar .byte q1.toInt32.toInt8.toInt32, nar .byte (((XT.ushrL q1 (8 : Int32)).toInt32).toInt8.toInt32), 0, 0, 0, 0, 0] := (by have q := A294; rw [show (1 : Int32).toNatClampNeg = 1 from by decide] at q; exact q)
        refine g_iload K 57 at_57 rfl ?_
        refine g_iconst K 59 (2 : Int32) at_59 (by decide) ?_
        refine g_ii_le K 60 73 at_60 (by decide) (by decide) ?_ ?_
        · intro c297
          exact absurd c297 (by decide)
        · intro c297
          refine g_aload K 63 at_63 rfl rfl ?_
          refine g_iconst K 65 (2 : Int32) at_65 (by decide) ?_
          refine g_lloadN K 66 at_66 rfl ?_
          refine g_bipush K 67 (16 : Int32) at_67 (by decide) ?_
          refine g_lushr K 69 at_69 ?_
          refine g_l2i K 70 at_70 ?_
          refine g_i2b K 71 at_71 ?_
          refine g_bastore K 72 at_72 A296 (by decide) (show (2 : Int32).toNatClampNeg < 7 from by decide) g282 ?_
          intro h298 Kp299 A300
          have Z301 := Nat.le_trans Z295 Kp299.1
          have A302 : IA Z h298 a277 .byte [nar .byte q1.toInt32.toInt8.toInt32, nar .byte (((XT.ushrL q1 (8 : Int32)).toInt32).toInt8.toInt32), nar .byte (((XT.ushrL q1 (16 : Int32)).toInt32).toInt8.toInt32), 0, 0, 0, 0] := (by have q := A300; rw [show (2 : Int32).toNatClampNeg = 2 from by decide] at q; exact q)
          refine g_iload K 73 at_73 rfl ?_
          refine g_iconst K 75 (3 : Int32) at_75 (by decide) ?_
          refine g_ii_le K 76 89 at_76 (by decide) (by decide) ?_ ?_
          · intro c303
            exact absurd c303 (by decide)
          · intro c303
            refine g_aload K 79 at_79 rfl rfl ?_
            refine g_iconst K 81 (3 : Int32) at_81 (by decide) ?_
            refine g_lloadN K 82 at_82 rfl ?_
            refine g_bipush K 83 (24 : Int32) at_83 (by decide) ?_
            refine g_lushr K 85 at_85 ?_
            refine g_l2i K 86 at_86 ?_
            refine g_i2b K 87 at_87 ?_
            refine g_bastore K 88 at_88 A302 (by decide) (show (3 : Int32).toNatClampNeg < 7 from by decide) g282 ?_
            intro h304 Kp305 A306
            have Z307 := Nat.le_trans Z301 Kp305.1
            have A308 : IA Z h304 a277 .byte [nar .byte q1.toInt32.toInt8.toInt32, nar .byte (((XT.ushrL q1 (8 : Int32)).toInt32).toInt8.toInt32), nar .byte (((XT.ushrL q1 (16 : Int32)).toInt32).toInt8.toInt32), nar .byte (((XT.ushrL q1 (24 : Int32)).toInt32).toInt8.toInt32), 0, 0, 0] := (by have q := A306; rw [show (3 : Int32).toNatClampNeg = 3 from by decide] at q; exact q)
            refine g_iload K 89 at_89 rfl ?_
            refine g_iconst K 91 (4 : Int32) at_91 (by decide) ?_
            refine g_ii_le K 92 105 at_92 (by decide) (by decide) ?_ ?_
            · intro c309
              exact absurd c309 (by decide)
            · intro c309
              refine g_aload K 95 at_95 rfl rfl ?_
              refine g_iconst K 97 (4 : Int32) at_97 (by decide) ?_
              refine g_lloadN K 98 at_98 rfl ?_
              refine g_bipush K 99 (32 : Int32) at_99 (by decide) ?_
              refine g_lushr K 101 at_101 ?_
              refine g_l2i K 102 at_102 ?_
              refine g_i2b K 103 at_103 ?_
              refine g_bastore K 104 at_104 A308 (by decide) (show (4 : Int32).toNatClampNeg < 7 from by decide) g282 ?_
              intro h310 Kp311 A312
              have Z313 := Nat.le_trans Z307 Kp311.1
              have A314 : IA Z h310 a277 .byte [nar .byte q1.toInt32.toInt8.toInt32, nar .byte (((XT.ushrL q1 (8 : Int32)).toInt32).toInt8.toInt32), nar .byte (((XT.ushrL q1 (16 : Int32)).toInt32).toInt8.toInt32), nar .byte (((XT.ushrL q1 (24 : Int32)).toInt32).toInt8.toInt32), nar .byte (((XT.ushrL q1 (32 : Int32)).toInt32).toInt8.toInt32), 0, 0] := (by have q := A312; rw [show (4 : Int32).toNatClampNeg = 4 from by decide] at q; exact q)
              refine g_iload K 105 at_105 rfl ?_
              refine g_iconst K 107 (5 : Int32) at_107 (by decide) ?_
              refine g_ii_le K 108 121 at_108 (by decide) (by decide) ?_ ?_
              · intro c315
                exact absurd c315 (by decide)
              · intro c315
                refine g_aload K 111 at_111 rfl rfl ?_
                refine g_iconst K 113 (5 : Int32) at_113 (by decide) ?_
                refine g_lloadN K 114 at_114 rfl ?_
                refine g_bipush K 115 (40 : Int32) at_115 (by decide) ?_
                refine g_lushr K 117 at_117 ?_
                refine g_l2i K 118 at_118 ?_
                refine g_i2b K 119 at_119 ?_
                refine g_bastore K 120 at_120 A314 (by decide) (show (5 : Int32).toNatClampNeg < 7 from by decide) g282 ?_
                intro h316 Kp317 A318
                have Z319 := Nat.le_trans Z313 Kp317.1
                have A320 : IA Z h316 a277 .byte [nar .byte q1.toInt32.toInt8.toInt32, nar .byte (((XT.ushrL q1 (8 : Int32)).toInt32).toInt8.toInt32), nar .byte (((XT.ushrL q1 (16 : Int32)).toInt32).toInt8.toInt32), nar .byte (((XT.ushrL q1 (24 : Int32)).toInt32).toInt8.toInt32), nar .byte (((XT.ushrL q1 (32 : Int32)).toInt32).toInt8.toInt32), nar .byte (((XT.ushrL q1 (40 : Int32)).toInt32).toInt8.toInt32), 0] := (by have q := A318; rw [show (5 : Int32).toNatClampNeg = 5 from by decide] at q; exact q)
                refine g_iload K 121 at_121 rfl ?_
                refine g_bipush K 123 (6 : Int32) at_123 (by decide) ?_
                refine g_ii_le K 125 139 at_125 (by decide) (by decide) ?_ ?_
                · intro c321
                  exact absurd c321 (by decide)
                · intro c321
                  refine g_aload K 128 at_128 rfl rfl ?_
                  refine g_bipush K 130 (6 : Int32) at_130 (by decide) ?_
                  refine g_lloadN K 132 at_132 rfl ?_
                  refine g_bipush K 133 (48 : Int32) at_133 (by decide) ?_
                  refine g_lushr K 135 at_135 ?_
                  refine g_l2i K 136 at_136 ?_
                  refine g_i2b K 137 at_137 ?_
                  refine g_bastore K 138 at_138 A320 (by decide) (show (6 : Int32).toNatClampNeg < 7 from by decide) g282 ?_
                  intro h322 Kp323 A324
                  have Z325 := Nat.le_trans Z319 Kp323.1
                  have A326 : IA Z h322 a277 .byte [nar .byte q1.toInt32.toInt8.toInt32, nar .byte (((XT.ushrL q1 (8 : Int32)).toInt32).toInt8.toInt32), nar .byte (((XT.ushrL q1 (16 : Int32)).toInt32).toInt8.toInt32), nar .byte (((XT.ushrL q1 (24 : Int32)).toInt32).toInt8.toInt32), nar .byte (((XT.ushrL q1 (32 : Int32)).toInt32).toInt8.toInt32), nar .byte (((XT.ushrL q1 (40 : Int32)).toInt32).toInt8.toInt32), nar .byte (((XT.ushrL q1 (48 : Int32)).toInt32).toInt8.toInt32)] := (by have q := A324; rw [show (6 : Int32).toNatClampNeg = 6 from by decide] at q; exact q)
                  refine g_iload K 139 at_139 rfl ?_
                  refine g_bipush K 141 (7 : Int32) at_141 (by decide) ?_
                  refine g_ii_le K 143 157 at_143 (by decide) (by decide) ?_ ?_
                  · intro c327
                    refine g_iload K 157 at_157 rfl ?_
                    refine g_bipush K 159 (8 : Int32) at_159 (by decide) ?_
                    refine g_ii_le K 161 171 at_161 (by decide) (by decide) ?_ ?_
                    · intro c328
                      refine g_iload K 171 at_171 rfl ?_
                      refine g_bipush K 173 (9 : Int32) at_173 (by decide) ?_
                      refine g_ii_le K 175 188 at_175 (by decide) (by decide) ?_ ?_
                      · intro c329
                        refine g_iload K 188 at_188 rfl ?_
                        refine g_bipush K 190 (10 : Int32) at_190 (by decide) ?_
                        refine g_ii_le K 192 205 at_192 (by decide) (by decide) ?_ ?_
                        · intro c330
                          refine g_iload K 205 at_205 rfl ?_
                          refine g_iconst K 207 (4 : Int32) at_207 (by decide) ?_
                          refine g_idiv K 208 at_208 (by decide) ?_
                          rw [show ((7 : Int32) / (4 : Int32)) = (1 : Int32) from by decide]
                          refine g_istore K 209 #[.val (.int p0), .val (.long q1), .second, .val (.int p2), .val (.int (7 : Int32)), .val (.int q1.toInt32), .val (.int (XT.ushrL q1 (32 : Int32)).toInt32), .val (.int p2), .val (.ref a277), .val (.int (1 : Int32)), .unset, .unset, .unset, .unset] at_209 rfl ?_
                          refine g_iload K 211 at_211 rfl ?_
                          refine g_iconst K 213 (4 : Int32) at_213 (by decide) ?_
                          refine g_irem K 214 at_214 (by decide) ?_
                          rw [show ((7 : Int32) % (4 : Int32)) = (3 : Int32) from by decide]
                          refine g_istore K 215 #[.val (.int p0), .val (.long q1), .second, .val (.int p2), .val (.int (7 : Int32)), .val (.int q1.toInt32), .val (.int (XT.ushrL q1 (32 : Int32)).toInt32), .val (.int p2), .val (.ref a277), .val (.int (1 : Int32)), .val (.int (3 : Int32)), .unset, .unset, .unset] at_215 rfl ?_
                          refine g_ldc K 217 (v := (-1756908916 : Int32)) at_217 (tw hw 2 rfl) ?_
                          refine g_iload K 219 at_219 rfl ?_
                          refine g_ixor K 221 at_221 ?_
                          rw [show ((-1756908916 : Int32) ^^^ (7 : Int32)) = (-1756908917 : Int32) from by decide]
                          refine g_istore K 222 #[.val (.int p0), .val (.long q1), .second, .val (.int p2), .val (.int (7 : Int32)), .val (.int q1.toInt32), .val (.int (XT.ushrL q1 (32 : Int32)).toInt32), .val (.int p2), .val (.ref a277), .val (.int (1 : Int32)), .val (.int (3 : Int32)), .val (.int (-1756908917 : Int32)), .unset, .unset] at_222 rfl ?_
                          refine g_iload K 224 at_224 rfl ?_
                          refine g_iconst K 226 (1 : Int32) at_226 (by decide) ?_
                          refine g_ii_lt K 227 243 at_227 (by decide) (by decide) ?_ ?_
                          · intro c331
                            exact absurd c331 (by decide)
                          · intro c331
                            refine g_iload K 230 at_230 rfl ?_
                            refine g_ldc K 232 (v := (1540483477 : Int32)) at_232 (tw hw 13 rfl) ?_
                            refine g_imul K 234 at_234 ?_
                            rw [show ((-1756908917 : Int32) * (1540483477 : Int32)) = (2058776039 : Int32) from by decide]
                            refine g_iload K 235 at_235 rfl ?_
                            refine g_callS K 237 [(.int q1.toInt32)] 1 at_237 (rm_mixK l Z a0 hw q1.toInt32 h322 n0 Z325  ) (tw hw 14 rfl) (tw hw 15 rfl) (tw hw 11 rfl) (tw hw 16 rfl) (by decide) pd1 rfl (st := [(.int (2058776039 : Int32))]) rfl (Nat.le_of_eq rfl) rfl (by decide) (by decide) (by decide) (by decide) ?_
                            rintro _ _ ⟨hv, hh⟩
                            rw [hv, hh]
                            clear hv hh
                            refine go_cast (k' := (0 + 1)) (n' := (0 + 7)) (st' := [(.int (f_mixK q1.toInt32)), (.int (2058776039 : Int32))]) rfl rfl rfl ?_
                            refine g_ixor K 240 at_240 ?_
                            refine g_istore K 241 #[.val (.int p0), .val (.long q1), .second, .val (.int p2), .val (.int (7 : Int32)), .val (.int q1.toInt32), .val (.int (XT.ushrL q1 (32 : Int32)).toInt32), .val (.int p2), .val (.ref a277), .val (.int (1 : Int32)), .val (.int (3 : Int32)), .val (.int ((2058776039 : Int32) ^^^ (f_mixK q1.toInt32))), .unset, .unset] at_241 rfl ?_
                            refine g_iload K 243 at_243 rfl ?_
                            refine g_iconst K 245 (2 : Int32) at_245 (by decide) ?_
                            refine g_ii_lt K 246 262 at_246 (by decide) (by decide) ?_ ?_
                            · intro c332
                              refine g_iload K 262 at_262 rfl ?_
                              refine g_if_ne K 264 272 at_264 (by decide) (by decide) ?_ ?_
                              · intro c333
                                refine g_iload K 272 at_272 rfl ?_
                                refine g_iconst K 274 (1 : Int32) at_274 (by decide) ?_
                                refine g_ii_ne K 275 283 at_275 (by decide) (by decide) ?_ ?_
                                · intro c334
                                  exact absurd c334 (by decide)
                                · intro c334
                                  refine g_iload K 278 at_278 rfl ?_
                                  refine g_goto K 280 285 at_280 (by decide) (by decide) ?_
                                  refine g_istore K 285 #[.val (.int p0), .val (.long q1), .second, .val (.int p2), .val (.int (7 : Int32)), .val (.int q1.toInt32), .val (.int (XT.ushrL q1 (32 : Int32)).toInt32), .val (.int p2), .val (.ref a277), .val (.int (1 : Int32)), .val (.int (3 : Int32)), .val (.int ((2058776039 : Int32) ^^^ (f_mixK q1.toInt32))), .val (.int (XT.ushrL q1 (32 : Int32)).toInt32), .unset] at_285 rfl ?_
                                  refine g_iload K 287 at_287 rfl ?_
                                  refine g_if_le K 289 316 at_289 (by decide) (by decide) ?_ ?_
                                  · intro c335
                                    exact absurd c335 (by decide)
                                  · intro c335
                                    refine g_iconst K 292 (1 : Int32) at_292 (by decide) ?_
                                    refine g_bipush K 293 (8 : Int32) at_293 (by decide) ?_
                                    refine g_iload K 295 at_295 rfl ?_
                                    refine g_imul K 297 at_297 ?_
                                    rw [show ((8 : Int32) * (3 : Int32)) = (24 : Int32) from by decide]
                                    refine g_ishl K 298 at_298 ?_
                                    rw [show ((1 : Int32) <<< ((24 : Int32) &&& 31)) = (16777216 : Int32) from by decide]
                                    refine g_iconst K 299 (1 : Int32) at_299 (by decide) ?_
                                    refine g_isub K 300 at_300 ?_
                                    rw [show ((16777216 : Int32) - (1 : Int32)) = (16777215 : Int32) from by decide]
                                    refine g_istore K 301 #[.val (.int p0), .val (.long q1), .second, .val (.int p2), .val (.int (7 : Int32)), .val (.int q1.toInt32), .val (.int (XT.ushrL q1 (32 : Int32)).toInt32), .val (.int p2), .val (.ref a277), .val (.int (1 : Int32)), .val (.int (3 : Int32)), .val (.int ((2058776039 : Int32) ^^^ (f_mixK q1.toInt32))), .val (.int (XT.ushrL q1 (32 : Int32)).toInt32), .val (.int (16777215 : Int32))] at_301 rfl ?_
                                    refine g_iload K 303 at_303 rfl ?_
                                    refine g_iload K 305 at_305 rfl ?_
                                    refine g_iload K 307 at_307 rfl ?_
                                    refine g_iand K 309 at_309 ?_
                                    refine g_ixor K 310 at_310 ?_
                                    refine g_ldc K 311 (v := (1540483477 : Int32)) at_311 (tw hw 13 rfl) ?_
                                    refine g_imul K 313 at_313 ?_
                                    refine g_istore K 314 #[.val (.int p0), .val (.long q1), .second, .val (.int p2), .val (.int (7 : Int32)), .val (.int q1.toInt32), .val (.int (XT.ushrL q1 (32 : Int32)).toInt32), .val (.int p2), .val (.ref a277), .val (.int (1 : Int32)), .val (.int (3 : Int32)), .val (.int ((((2058776039 : Int32) ^^^ (f_mixK q1.toInt32)) ^^^ (((XT.ushrL q1 (32 : Int32)).toInt32) &&& (16777215 : Int32))) * (1540483477 : Int32))), .val (.int (XT.ushrL q1 (32 : Int32)).toInt32), .val (.int (16777215 : Int32))] at_314 rfl ?_
                                    refine g_aload K 316 at_316 rfl rfl ?_
                                    refine g_callS K 318 [(.ref a277)] 0 at_318 (rm_mur7 l Z a0 hw a277 h322 n0 Z325 (nar .byte q1.toInt32.toInt8.toInt32) (nar .byte (((XT.ushrL q1 (8 : Int32)).toInt32).toInt8.toInt32)) (nar .byte (((XT.ushrL q1 (16 : Int32)).toInt32).toInt8.toInt32)) (nar .byte (((XT.ushrL q1 (24 : Int32)).toInt32).toInt8.toInt32)) (nar .byte (((XT.ushrL q1 (32 : Int32)).toInt32).toInt8.toInt32)) (nar .byte (((XT.ushrL q1 (40 : Int32)).toInt32).toInt8.toInt32)) (nar .byte (((XT.ushrL q1 (48 : Int32)).toInt32).toInt8.toInt32)) A326) (tw hw 3 rfl) (tw hw 4 rfl) (tw hw 5 rfl) (tw hw 6 rfl) (by decide) pd0 rfl (st := []) rfl (Nat.le_of_eq rfl) rfl (by decide) (by decide) (by decide) (by decide) ?_
                                    rintro _ _ ⟨hv, hh⟩
                                    rw [hv, hh]
                                    clear hv hh
                                    refine go_cast (k' := (0 + 1)) (n' := (0 + 7)) (st' := [(.int (f_mur7 (nar .byte q1.toInt32.toInt8.toInt32) (nar .byte (((XT.ushrL q1 (8 : Int32)).toInt32).toInt8.toInt32)) (nar .byte (((XT.ushrL q1 (16 : Int32)).toInt32).toInt8.toInt32)) (nar .byte (((XT.ushrL q1 (24 : Int32)).toInt32).toInt8.toInt32)) (nar .byte (((XT.ushrL q1 (32 : Int32)).toInt32).toInt8.toInt32)) (nar .byte (((XT.ushrL q1 (40 : Int32)).toInt32).toInt8.toInt32)) (nar .byte (((XT.ushrL q1 (48 : Int32)).toInt32).toInt8.toInt32))))]) rfl rfl rfl ?_
                                    refine g_iload K 321 at_321 rfl ?_
                                    refine g_callS K 323 [(.int ((((2058776039 : Int32) ^^^ (f_mixK q1.toInt32)) ^^^ (((XT.ushrL q1 (32 : Int32)).toInt32) &&& (16777215 : Int32))) * (1540483477 : Int32)))] 1 at_323 (rm_fin l Z a0 hw ((((2058776039 : Int32) ^^^ (f_mixK q1.toInt32)) ^^^ (((XT.ushrL q1 (32 : Int32)).toInt32) &&& (16777215 : Int32))) * (1540483477 : Int32)) h322 n0 Z325  ) (tw hw 9 rfl) (tw hw 10 rfl) (tw hw 11 rfl) (tw hw 12 rfl) (by decide) pd1 rfl (st := [(.int (f_mur7 (nar .byte q1.toInt32.toInt8.toInt32) (nar .byte (((XT.ushrL q1 (8 : Int32)).toInt32).toInt8.toInt32)) (nar .byte (((XT.ushrL q1 (16 : Int32)).toInt32).toInt8.toInt32)) (nar .byte (((XT.ushrL q1 (24 : Int32)).toInt32).toInt8.toInt32)) (nar .byte (((XT.ushrL q1 (32 : Int32)).toInt32).toInt8.toInt32)) (nar .byte (((XT.ushrL q1 (40 : Int32)).toInt32).toInt8.toInt32)) (nar .byte (((XT.ushrL q1 (48 : Int32)).toInt32).toInt8.toInt32))))]) rfl (Nat.le_of_eq rfl) rfl (by decide) (by decide) (by decide) (by decide) ?_
                                    rintro _ _ ⟨hv, hh⟩
                                    rw [hv, hh]
                                    clear hv hh
                                    refine go_cast (k' := (0 + 1)) (n' := (0 + 7)) (st' := [(.int (f_fin ((((2058776039 : Int32) ^^^ (f_mixK q1.toInt32)) ^^^ (((XT.ushrL q1 (32 : Int32)).toInt32) &&& (16777215 : Int32))) * (1540483477 : Int32)))), (.int (f_mur7 (nar .byte q1.toInt32.toInt8.toInt32) (nar .byte (((XT.ushrL q1 (8 : Int32)).toInt32).toInt8.toInt32)) (nar .byte (((XT.ushrL q1 (16 : Int32)).toInt32).toInt8.toInt32)) (nar .byte (((XT.ushrL q1 (24 : Int32)).toInt32).toInt8.toInt32)) (nar .byte (((XT.ushrL q1 (32 : Int32)).toInt32).toInt8.toInt32)) (nar .byte (((XT.ushrL q1 (40 : Int32)).toInt32).toInt8.toInt32)) (nar .byte (((XT.ushrL q1 (48 : Int32)).toInt32).toInt8.toInt32))))]) rfl rfl rfl ?_
                                    refine g_ii_ne K 326 333 at_326 (by decide) (by decide) ?_ ?_
                                    · intro c336
                                      exfalso
                                      exact c336 (own_mur7 q1 p2)
                                    · intro c336
                                      refine g_iconst K 329 (1 : Int32) at_329 (by decide) ?_
                                      refine g_goto K 330 334 at_330 (by decide) (by decide) ?_
                                      refine g_retN K 334 .boolean at_334 rfl (by simp) (by decide) (by decide) ?_
                                      rw [hQ]
                                      rfl
                              · intro c333
                                exact absurd c333 (by decide)
                            · intro c332
                              exact absurd c332 (by decide)
                        · intro c330
                          exact absurd c330 (by decide)
                      · intro c329
                        exact absurd c329 (by decide)
                    · intro c328
                      exact absurd c328 (by decide)
                  · intro c327
                    exact absurd c327 (by decide)
  · rw [hn]
    refine g_istore K 7 #[.val (.int p0), .val (.long q1), .second, .val (.int p2), .val (.int (8 : Int32)), .unset, .unset, .unset, .unset, .unset, .unset, .unset, .unset, .unset] at_7 rfl ?_
    refine g_lloadN K 9 at_9 rfl ?_
    refine g_l2i K 10 at_10 ?_
    refine g_istore K 11 #[.val (.int p0), .val (.long q1), .second, .val (.int p2), .val (.int (8 : Int32)), .val (.int q1.toInt32), .unset, .unset, .unset, .unset, .unset, .unset, .unset, .unset] at_11 rfl ?_
    refine g_lloadN K 13 at_13 rfl ?_
    refine g_bipush K 14 (32 : Int32) at_14 (by decide) ?_
    refine g_lushr K 16 at_16 ?_
    refine g_l2i K 17 at_17 ?_
    refine g_istore K 18 #[.val (.int p0), .val (.long q1), .second, .val (.int p2), .val (.int (8 : Int32)), .val (.int q1.toInt32), .val (.int (XT.ushrL q1 (32 : Int32)).toInt32), .unset, .unset, .unset, .unset, .unset, .unset, .unset] at_18 rfl ?_
    refine g_iloadN K 20 at_20 rfl ?_
    refine g_istore K 21 #[.val (.int p0), .val (.long q1), .second, .val (.int p2), .val (.int (8 : Int32)), .val (.int q1.toInt32), .val (.int (XT.ushrL q1 (32 : Int32)).toInt32), .val (.int p2), .unset, .unset, .unset, .unset, .unset, .unset] at_21 rfl ?_
    refine g_iload K 23 at_23 rfl ?_
    refine g_newI K 25 .byte at_25 rfl rfl (tw hw 1 rfl) (by decide) 8 (by decide) (by decide) (by decide) (by decide) ?_
    intro h338 a337 eq341 Kp339 A340
    have g342 : n0 ≤ a337 := eq341 ▸ Z0
    have Z343 := Nat.le_trans Z0 Kp339.1
    have A344 : IA Z h338 a337 .byte [0, 0, 0, 0, 0, 0, 0, 0] := (by have q := A340; rw [show (8 : Int32).toNatClampNeg = 8 from by decide] at q; exact q)
    refine g_astore K 27 #[.val (.int p0), .val (.long q1), .second, .val (.int p2), .val (.int (8 : Int32)), .val (.int q1.toInt32), .val (.int (XT.ushrL q1 (32 : Int32)).toInt32), .val (.int p2), .val (.ref a337), .unset, .unset, .unset, .unset, .unset] at_27 rfl rfl ?_
    refine g_iload K 29 at_29 rfl ?_
    refine g_if_le K 31 41 at_31 (by decide) (by decide) ?_ ?_
    · intro c345
      exact absurd c345 (by decide)
    · intro c345
      refine g_aload K 34 at_34 rfl rfl ?_
      refine g_iconst K 36 (0 : Int32) at_36 (by decide) ?_
      refine g_lloadN K 37 at_37 rfl ?_
      refine g_l2i K 38 at_38 ?_
      refine g_i2b K 39 at_39 ?_
      refine g_bastore K 40 at_40 A344 (by decide) (show (0 : Int32).toNatClampNeg < 8 from by decide) g342 ?_
      intro h346 Kp347 A348
      have Z349 := Nat.le_trans Z343 Kp347.1
      have A350 : IA Z h346 a337 .byte [nar .byte q1.toInt32.toInt8.toInt32, 0, 0, 0, 0, 0, 0, 0] := (by have q := A348; rw [show (0 : Int32).toNatClampNeg = 0 from by decide] at q; exact q)
      refine g_iload K 41 at_41 rfl ?_
      refine g_iconst K 43 (1 : Int32) at_43 (by decide) ?_
      refine g_ii_le K 44 57 at_44 (by decide) (by decide) ?_ ?_
      · intro c351
        exact absurd c351 (by decide)
      · intro c351
        refine g_aload K 47 at_47 rfl rfl ?_
        refine g_iconst K 49 (1 : Int32) at_49 (by decide) ?_
        refine g_lloadN K 50 at_50 rfl ?_
        refine g_bipush K 51 (8 : Int32) at_51 (by decide) ?_
        refine g_lushr K 53 at_53 ?_
        refine g_l2i K 54 at_54 ?_
        refine g_i2b K 55 at_55 ?_
        refine g_bastore K 56 at_56 A350 (by decide) (show (1 : Int32).toNatClampNeg < 8 from by decide) g342 ?_
        intro h352 Kp353 A354
        have Z355 := Nat.le_trans Z349 Kp353.1
        have A356 : IA Z h352 a337 .byte [nar .byte q1.toInt32.toInt8.toInt32, nar .byte (((XT.ushrL q1 (8 : Int32)).toInt32).toInt8.toInt32), 0, 0, 0, 0, 0, 0] := (by have q := A354; rw [show (1 : Int32).toNatClampNeg = 1 from by decide] at q; exact q)
        refine g_iload K 57 at_57 rfl ?_
        refine g_iconst K 59 (2 : Int32) at_59 (by decide) ?_
        refine g_ii_le K 60 73 at_60 (by decide) (by decide) ?_ ?_
        · intro c357
          exact absurd c357 (by decide)
        · intro c357
          refine g_aload K 63 at_63 rfl rfl ?_
          refine g_iconst K 65 (2 : Int32) at_65 (by decide) ?_
          refine g_lloadN K 66 at_66 rfl ?_
          refine g_bipush K 67 (16 : Int32) at_67 (by decide) ?_
          refine g_lushr K 69 at_69 ?_
          refine g_l2i K 70 at_70 ?_
          refine g_i2b K 71 at_71 ?_
          refine g_bastore K 72 at_72 A356 (by decide) (show (2 : Int32).toNatClampNeg < 8 from by decide) g342 ?_
          intro h358 Kp359 A360
          have Z361 := Nat.le_trans Z355 Kp359.1
          have A362 : IA Z h358 a337 .byte [nar .byte q1.toInt32.toInt8.toInt32, nar .byte (((XT.ushrL q1 (8 : Int32)).toInt32).toInt8.toInt32), nar .byte (((XT.ushrL q1 (16 : Int32)).toInt32).toInt8.toInt32), 0, 0, 0, 0, 0] := (by have q := A360; rw [show (2 : Int32).toNatClampNeg = 2 from by decide] at q; exact q)
          refine g_iload K 73 at_73 rfl ?_
          refine g_iconst K 75 (3 : Int32) at_75 (by decide) ?_
          refine g_ii_le K 76 89 at_76 (by decide) (by decide) ?_ ?_
          · intro c363
            exact absurd c363 (by decide)
          · intro c363
            refine g_aload K 79 at_79 rfl rfl ?_
            refine g_iconst K 81 (3 : Int32) at_81 (by decide) ?_
            refine g_lloadN K 82 at_82 rfl ?_
            refine g_bipush K 83 (24 : Int32) at_83 (by decide) ?_
            refine g_lushr K 85 at_85 ?_
            refine g_l2i K 86 at_86 ?_
            refine g_i2b K 87 at_87 ?_
            refine g_bastore K 88 at_88 A362 (by decide) (show (3 : Int32).toNatClampNeg < 8 from by decide) g342 ?_
            intro h364 Kp365 A366
            have Z367 := Nat.le_trans Z361 Kp365.1
            have A368 : IA Z h364 a337 .byte [nar .byte q1.toInt32.toInt8.toInt32, nar .byte (((XT.ushrL q1 (8 : Int32)).toInt32).toInt8.toInt32), nar .byte (((XT.ushrL q1 (16 : Int32)).toInt32).toInt8.toInt32), nar .byte (((XT.ushrL q1 (24 : Int32)).toInt32).toInt8.toInt32), 0, 0, 0, 0] := (by have q := A366; rw [show (3 : Int32).toNatClampNeg = 3 from by decide] at q; exact q)
            refine g_iload K 89 at_89 rfl ?_
            refine g_iconst K 91 (4 : Int32) at_91 (by decide) ?_
            refine g_ii_le K 92 105 at_92 (by decide) (by decide) ?_ ?_
            · intro c369
              exact absurd c369 (by decide)
            · intro c369
              refine g_aload K 95 at_95 rfl rfl ?_
              refine g_iconst K 97 (4 : Int32) at_97 (by decide) ?_
              refine g_lloadN K 98 at_98 rfl ?_
              refine g_bipush K 99 (32 : Int32) at_99 (by decide) ?_
              refine g_lushr K 101 at_101 ?_
              refine g_l2i K 102 at_102 ?_
              refine g_i2b K 103 at_103 ?_
              refine g_bastore K 104 at_104 A368 (by decide) (show (4 : Int32).toNatClampNeg < 8 from by decide) g342 ?_
              intro h370 Kp371 A372
              have Z373 := Nat.le_trans Z367 Kp371.1
              have A374 : IA Z h370 a337 .byte [nar .byte q1.toInt32.toInt8.toInt32, nar .byte (((XT.ushrL q1 (8 : Int32)).toInt32).toInt8.toInt32), nar .byte (((XT.ushrL q1 (16 : Int32)).toInt32).toInt8.toInt32), nar .byte (((XT.ushrL q1 (24 : Int32)).toInt32).toInt8.toInt32), nar .byte (((XT.ushrL q1 (32 : Int32)).toInt32).toInt8.toInt32), 0, 0, 0] := (by have q := A372; rw [show (4 : Int32).toNatClampNeg = 4 from by decide] at q; exact q)
              refine g_iload K 105 at_105 rfl ?_
              refine g_iconst K 107 (5 : Int32) at_107 (by decide) ?_
              refine g_ii_le K 108 121 at_108 (by decide) (by decide) ?_ ?_
              · intro c375
                exact absurd c375 (by decide)
              · intro c375
                refine g_aload K 111 at_111 rfl rfl ?_
                refine g_iconst K 113 (5 : Int32) at_113 (by decide) ?_
                refine g_lloadN K 114 at_114 rfl ?_
                refine g_bipush K 115 (40 : Int32) at_115 (by decide) ?_
                refine g_lushr K 117 at_117 ?_
                refine g_l2i K 118 at_118 ?_
                refine g_i2b K 119 at_119 ?_
                refine g_bastore K 120 at_120 A374 (by decide) (show (5 : Int32).toNatClampNeg < 8 from by decide) g342 ?_
                intro h376 Kp377 A378
                have Z379 := Nat.le_trans Z373 Kp377.1
                have A380 : IA Z h376 a337 .byte [nar .byte q1.toInt32.toInt8.toInt32, nar .byte (((XT.ushrL q1 (8 : Int32)).toInt32).toInt8.toInt32), nar .byte (((XT.ushrL q1 (16 : Int32)).toInt32).toInt8.toInt32), nar .byte (((XT.ushrL q1 (24 : Int32)).toInt32).toInt8.toInt32), nar .byte (((XT.ushrL q1 (32 : Int32)).toInt32).toInt8.toInt32), nar .byte (((XT.ushrL q1 (40 : Int32)).toInt32).toInt8.toInt32), 0, 0] := (by have q := A378; rw [show (5 : Int32).toNatClampNeg = 5 from by decide] at q; exact q)
                refine g_iload K 121 at_121 rfl ?_
                refine g_bipush K 123 (6 : Int32) at_123 (by decide) ?_
                refine g_ii_le K 125 139 at_125 (by decide) (by decide) ?_ ?_
                · intro c381
                  exact absurd c381 (by decide)
                · intro c381
                  refine g_aload K 128 at_128 rfl rfl ?_
                  refine g_bipush K 130 (6 : Int32) at_130 (by decide) ?_
                  refine g_lloadN K 132 at_132 rfl ?_
                  refine g_bipush K 133 (48 : Int32) at_133 (by decide) ?_
                  refine g_lushr K 135 at_135 ?_
                  refine g_l2i K 136 at_136 ?_
                  refine g_i2b K 137 at_137 ?_
                  refine g_bastore K 138 at_138 A380 (by decide) (show (6 : Int32).toNatClampNeg < 8 from by decide) g342 ?_
                  intro h382 Kp383 A384
                  have Z385 := Nat.le_trans Z379 Kp383.1
                  have A386 : IA Z h382 a337 .byte [nar .byte q1.toInt32.toInt8.toInt32, nar .byte (((XT.ushrL q1 (8 : Int32)).toInt32).toInt8.toInt32), nar .byte (((XT.ushrL q1 (16 : Int32)).toInt32).toInt8.toInt32), nar .byte (((XT.ushrL q1 (24 : Int32)).toInt32).toInt8.toInt32), nar .byte (((XT.ushrL q1 (32 : Int32)).toInt32).toInt8.toInt32), nar .byte (((XT.ushrL q1 (40 : Int32)).toInt32).toInt8.toInt32), nar .byte (((XT.ushrL q1 (48 : Int32)).toInt32).toInt8.toInt32), 0] := (by have q := A384; rw [show (6 : Int32).toNatClampNeg = 6 from by decide] at q; exact q)
                  refine g_iload K 139 at_139 rfl ?_
                  refine g_bipush K 141 (7 : Int32) at_141 (by decide) ?_
                  refine g_ii_le K 143 157 at_143 (by decide) (by decide) ?_ ?_
                  · intro c387
                    exact absurd c387 (by decide)
                  · intro c387
                    refine g_aload K 146 at_146 rfl rfl ?_
                    refine g_bipush K 148 (7 : Int32) at_148 (by decide) ?_
                    refine g_lloadN K 150 at_150 rfl ?_
                    refine g_bipush K 151 (56 : Int32) at_151 (by decide) ?_
                    refine g_lushr K 153 at_153 ?_
                    refine g_l2i K 154 at_154 ?_
                    refine g_i2b K 155 at_155 ?_
                    refine g_bastore K 156 at_156 A386 (by decide) (show (7 : Int32).toNatClampNeg < 8 from by decide) g342 ?_
                    intro h388 Kp389 A390
                    have Z391 := Nat.le_trans Z385 Kp389.1
                    have A392 : IA Z h388 a337 .byte [nar .byte q1.toInt32.toInt8.toInt32, nar .byte (((XT.ushrL q1 (8 : Int32)).toInt32).toInt8.toInt32), nar .byte (((XT.ushrL q1 (16 : Int32)).toInt32).toInt8.toInt32), nar .byte (((XT.ushrL q1 (24 : Int32)).toInt32).toInt8.toInt32), nar .byte (((XT.ushrL q1 (32 : Int32)).toInt32).toInt8.toInt32), nar .byte (((XT.ushrL q1 (40 : Int32)).toInt32).toInt8.toInt32), nar .byte (((XT.ushrL q1 (48 : Int32)).toInt32).toInt8.toInt32), nar .byte (((XT.ushrL q1 (56 : Int32)).toInt32).toInt8.toInt32)] := (by have q := A390; rw [show (7 : Int32).toNatClampNeg = 7 from by decide] at q; exact q)
                    refine g_iload K 157 at_157 rfl ?_
                    refine g_bipush K 159 (8 : Int32) at_159 (by decide) ?_
                    refine g_ii_le K 161 171 at_161 (by decide) (by decide) ?_ ?_
                    · intro c393
                      refine g_iload K 171 at_171 rfl ?_
                      refine g_bipush K 173 (9 : Int32) at_173 (by decide) ?_
                      refine g_ii_le K 175 188 at_175 (by decide) (by decide) ?_ ?_
                      · intro c394
                        refine g_iload K 188 at_188 rfl ?_
                        refine g_bipush K 190 (10 : Int32) at_190 (by decide) ?_
                        refine g_ii_le K 192 205 at_192 (by decide) (by decide) ?_ ?_
                        · intro c395
                          refine g_iload K 205 at_205 rfl ?_
                          refine g_iconst K 207 (4 : Int32) at_207 (by decide) ?_
                          refine g_idiv K 208 at_208 (by decide) ?_
                          rw [show ((8 : Int32) / (4 : Int32)) = (2 : Int32) from by decide]
                          refine g_istore K 209 #[.val (.int p0), .val (.long q1), .second, .val (.int p2), .val (.int (8 : Int32)), .val (.int q1.toInt32), .val (.int (XT.ushrL q1 (32 : Int32)).toInt32), .val (.int p2), .val (.ref a337), .val (.int (2 : Int32)), .unset, .unset, .unset, .unset] at_209 rfl ?_
                          refine g_iload K 211 at_211 rfl ?_
                          refine g_iconst K 213 (4 : Int32) at_213 (by decide) ?_
                          refine g_irem K 214 at_214 (by decide) ?_
                          rw [show ((8 : Int32) % (4 : Int32)) = (0 : Int32) from by decide]
                          refine g_istore K 215 #[.val (.int p0), .val (.long q1), .second, .val (.int p2), .val (.int (8 : Int32)), .val (.int q1.toInt32), .val (.int (XT.ushrL q1 (32 : Int32)).toInt32), .val (.int p2), .val (.ref a337), .val (.int (2 : Int32)), .val (.int (0 : Int32)), .unset, .unset, .unset] at_215 rfl ?_
                          refine g_ldc K 217 (v := (-1756908916 : Int32)) at_217 (tw hw 2 rfl) ?_
                          refine g_iload K 219 at_219 rfl ?_
                          refine g_ixor K 221 at_221 ?_
                          rw [show ((-1756908916 : Int32) ^^^ (8 : Int32)) = (-1756908924 : Int32) from by decide]
                          refine g_istore K 222 #[.val (.int p0), .val (.long q1), .second, .val (.int p2), .val (.int (8 : Int32)), .val (.int q1.toInt32), .val (.int (XT.ushrL q1 (32 : Int32)).toInt32), .val (.int p2), .val (.ref a337), .val (.int (2 : Int32)), .val (.int (0 : Int32)), .val (.int (-1756908924 : Int32)), .unset, .unset] at_222 rfl ?_
                          refine g_iload K 224 at_224 rfl ?_
                          refine g_iconst K 226 (1 : Int32) at_226 (by decide) ?_
                          refine g_ii_lt K 227 243 at_227 (by decide) (by decide) ?_ ?_
                          · intro c396
                            exact absurd c396 (by decide)
                          · intro c396
                            refine g_iload K 230 at_230 rfl ?_
                            refine g_ldc K 232 (v := (1540483477 : Int32)) at_232 (tw hw 13 rfl) ?_
                            refine g_imul K 234 at_234 ?_
                            rw [show ((-1756908924 : Int32) * (1540483477 : Int32)) = (-134673708 : Int32) from by decide]
                            refine g_iload K 235 at_235 rfl ?_
                            refine g_callS K 237 [(.int q1.toInt32)] 1 at_237 (rm_mixK l Z a0 hw q1.toInt32 h388 n0 Z391  ) (tw hw 14 rfl) (tw hw 15 rfl) (tw hw 11 rfl) (tw hw 16 rfl) (by decide) pd1 rfl (st := [(.int (-134673708 : Int32))]) rfl (Nat.le_of_eq rfl) rfl (by decide) (by decide) (by decide) (by decide) ?_
                            rintro _ _ ⟨hv, hh⟩
                            rw [hv, hh]
                            clear hv hh
                            refine go_cast (k' := (0 + 1)) (n' := (0 + 8)) (st' := [(.int (f_mixK q1.toInt32)), (.int (-134673708 : Int32))]) rfl rfl rfl ?_
                            refine g_ixor K 240 at_240 ?_
                            refine g_istore K 241 #[.val (.int p0), .val (.long q1), .second, .val (.int p2), .val (.int (8 : Int32)), .val (.int q1.toInt32), .val (.int (XT.ushrL q1 (32 : Int32)).toInt32), .val (.int p2), .val (.ref a337), .val (.int (2 : Int32)), .val (.int (0 : Int32)), .val (.int ((-134673708 : Int32) ^^^ (f_mixK q1.toInt32))), .unset, .unset] at_241 rfl ?_
                            refine g_iload K 243 at_243 rfl ?_
                            refine g_iconst K 245 (2 : Int32) at_245 (by decide) ?_
                            refine g_ii_lt K 246 262 at_246 (by decide) (by decide) ?_ ?_
                            · intro c397
                              exact absurd c397 (by decide)
                            · intro c397
                              refine g_iload K 249 at_249 rfl ?_
                              refine g_ldc K 251 (v := (1540483477 : Int32)) at_251 (tw hw 13 rfl) ?_
                              refine g_imul K 253 at_253 ?_
                              refine g_iload K 254 at_254 rfl ?_
                              refine g_callS K 256 [(.int (XT.ushrL q1 (32 : Int32)).toInt32)] 1 at_256 (rm_mixK l Z a0 hw ((XT.ushrL q1 (32 : Int32)).toInt32) h388 n0 Z391  ) (tw hw 14 rfl) (tw hw 15 rfl) (tw hw 11 rfl) (tw hw 16 rfl) (by decide) pd1 rfl (st := [(.int (((-134673708 : Int32) ^^^ (f_mixK q1.toInt32)) * (1540483477 : Int32)))]) rfl (Nat.le_of_eq rfl) rfl (by decide) (by decide) (by decide) (by decide) ?_
                              rintro _ _ ⟨hv, hh⟩
                              rw [hv, hh]
                              clear hv hh
                              refine go_cast (k' := (0 + 1)) (n' := (0 + 8)) (st' := [(.int (f_mixK ((XT.ushrL q1 (32 : Int32)).toInt32))), (.int (((-134673708 : Int32) ^^^ (f_mixK q1.toInt32)) * (1540483477 : Int32)))]) rfl rfl rfl ?_
                              refine g_ixor K 259 at_259 ?_
                              refine g_istore K 260 #[.val (.int p0), .val (.long q1), .second, .val (.int p2), .val (.int (8 : Int32)), .val (.int q1.toInt32), .val (.int (XT.ushrL q1 (32 : Int32)).toInt32), .val (.int p2), .val (.ref a337), .val (.int (2 : Int32)), .val (.int (0 : Int32)), .val (.int ((((-134673708 : Int32) ^^^ (f_mixK q1.toInt32)) * (1540483477 : Int32)) ^^^ (f_mixK ((XT.ushrL q1 (32 : Int32)).toInt32)))), .unset, .unset] at_260 rfl ?_
                              refine g_iload K 262 at_262 rfl ?_
                              refine g_if_ne K 264 272 at_264 (by decide) (by decide) ?_ ?_
                              · intro c398
                                refine g_iload K 272 at_272 rfl ?_
                                refine g_iconst K 274 (1 : Int32) at_274 (by decide) ?_
                                refine g_ii_ne K 275 283 at_275 (by decide) (by decide) ?_ ?_
                                · intro c399
                                  refine g_iload K 283 at_283 rfl ?_
                                  refine g_istore K 285 #[.val (.int p0), .val (.long q1), .second, .val (.int p2), .val (.int (8 : Int32)), .val (.int q1.toInt32), .val (.int (XT.ushrL q1 (32 : Int32)).toInt32), .val (.int p2), .val (.ref a337), .val (.int (2 : Int32)), .val (.int (0 : Int32)), .val (.int ((((-134673708 : Int32) ^^^ (f_mixK q1.toInt32)) * (1540483477 : Int32)) ^^^ (f_mixK ((XT.ushrL q1 (32 : Int32)).toInt32)))), .val (.int p2), .unset] at_285 rfl ?_
                                  refine g_iload K 287 at_287 rfl ?_
                                  refine g_if_le K 289 316 at_289 (by decide) (by decide) ?_ ?_
                                  · intro c400
                                    refine g_aload K 316 at_316 rfl rfl ?_
                                    refine g_callS K 318 [(.ref a337)] 0 at_318 (rm_mur8 l Z a0 hw a337 h388 n0 Z391 (nar .byte q1.toInt32.toInt8.toInt32) (nar .byte (((XT.ushrL q1 (8 : Int32)).toInt32).toInt8.toInt32)) (nar .byte (((XT.ushrL q1 (16 : Int32)).toInt32).toInt8.toInt32)) (nar .byte (((XT.ushrL q1 (24 : Int32)).toInt32).toInt8.toInt32)) (nar .byte (((XT.ushrL q1 (32 : Int32)).toInt32).toInt8.toInt32)) (nar .byte (((XT.ushrL q1 (40 : Int32)).toInt32).toInt8.toInt32)) (nar .byte (((XT.ushrL q1 (48 : Int32)).toInt32).toInt8.toInt32)) (nar .byte (((XT.ushrL q1 (56 : Int32)).toInt32).toInt8.toInt32)) A392) (tw hw 3 rfl) (tw hw 4 rfl) (tw hw 5 rfl) (tw hw 6 rfl) (by decide) pd0 rfl (st := []) rfl (Nat.le_of_eq rfl) rfl (by decide) (by decide) (by decide) (by decide) ?_
                                    rintro _ _ ⟨hv, hh⟩
                                    rw [hv, hh]
                                    clear hv hh
                                    refine go_cast (k' := (0 + 1)) (n' := (0 + 8)) (st' := [(.int (f_mur8 (nar .byte q1.toInt32.toInt8.toInt32) (nar .byte (((XT.ushrL q1 (8 : Int32)).toInt32).toInt8.toInt32)) (nar .byte (((XT.ushrL q1 (16 : Int32)).toInt32).toInt8.toInt32)) (nar .byte (((XT.ushrL q1 (24 : Int32)).toInt32).toInt8.toInt32)) (nar .byte (((XT.ushrL q1 (32 : Int32)).toInt32).toInt8.toInt32)) (nar .byte (((XT.ushrL q1 (40 : Int32)).toInt32).toInt8.toInt32)) (nar .byte (((XT.ushrL q1 (48 : Int32)).toInt32).toInt8.toInt32)) (nar .byte (((XT.ushrL q1 (56 : Int32)).toInt32).toInt8.toInt32))))]) rfl rfl rfl ?_
                                    refine g_iload K 321 at_321 rfl ?_
                                    refine g_callS K 323 [(.int ((((-134673708 : Int32) ^^^ (f_mixK q1.toInt32)) * (1540483477 : Int32)) ^^^ (f_mixK ((XT.ushrL q1 (32 : Int32)).toInt32))))] 1 at_323 (rm_fin l Z a0 hw ((((-134673708 : Int32) ^^^ (f_mixK q1.toInt32)) * (1540483477 : Int32)) ^^^ (f_mixK ((XT.ushrL q1 (32 : Int32)).toInt32))) h388 n0 Z391  ) (tw hw 9 rfl) (tw hw 10 rfl) (tw hw 11 rfl) (tw hw 12 rfl) (by decide) pd1 rfl (st := [(.int (f_mur8 (nar .byte q1.toInt32.toInt8.toInt32) (nar .byte (((XT.ushrL q1 (8 : Int32)).toInt32).toInt8.toInt32)) (nar .byte (((XT.ushrL q1 (16 : Int32)).toInt32).toInt8.toInt32)) (nar .byte (((XT.ushrL q1 (24 : Int32)).toInt32).toInt8.toInt32)) (nar .byte (((XT.ushrL q1 (32 : Int32)).toInt32).toInt8.toInt32)) (nar .byte (((XT.ushrL q1 (40 : Int32)).toInt32).toInt8.toInt32)) (nar .byte (((XT.ushrL q1 (48 : Int32)).toInt32).toInt8.toInt32)) (nar .byte (((XT.ushrL q1 (56 : Int32)).toInt32).toInt8.toInt32))))]) rfl (Nat.le_of_eq rfl) rfl (by decide) (by decide) (by decide) (by decide) ?_
                                    rintro _ _ ⟨hv, hh⟩
                                    rw [hv, hh]
                                    clear hv hh
                                    refine go_cast (k' := (0 + 1)) (n' := (0 + 8)) (st' := [(.int (f_fin ((((-134673708 : Int32) ^^^ (f_mixK q1.toInt32)) * (1540483477 : Int32)) ^^^ (f_mixK ((XT.ushrL q1 (32 : Int32)).toInt32))))), (.int (f_mur8 (nar .byte q1.toInt32.toInt8.toInt32) (nar .byte (((XT.ushrL q1 (8 : Int32)).toInt32).toInt8.toInt32)) (nar .byte (((XT.ushrL q1 (16 : Int32)).toInt32).toInt8.toInt32)) (nar .byte (((XT.ushrL q1 (24 : Int32)).toInt32).toInt8.toInt32)) (nar .byte (((XT.ushrL q1 (32 : Int32)).toInt32).toInt8.toInt32)) (nar .byte (((XT.ushrL q1 (40 : Int32)).toInt32).toInt8.toInt32)) (nar .byte (((XT.ushrL q1 (48 : Int32)).toInt32).toInt8.toInt32)) (nar .byte (((XT.ushrL q1 (56 : Int32)).toInt32).toInt8.toInt32))))]) rfl rfl rfl ?_
                                    refine g_ii_ne K 326 333 at_326 (by decide) (by decide) ?_ ?_
                                    · intro c401
                                      exfalso
                                      exact c401 (own_mur8 q1 p2)
                                    · intro c401
                                      refine g_iconst K 329 (1 : Int32) at_329 (by decide) ?_
                                      refine g_goto K 330 334 at_330 (by decide) (by decide) ?_
                                      refine g_retN K 334 .boolean at_334 rfl (by simp) (by decide) (by decide) ?_
                                      rw [hQ]
                                      rfl
                                  · intro c400
                                    exact absurd c400 (by decide)
                                · intro c399
                                  exact absurd c399 (by decide)
                              · intro c398
                                exact absurd c398 (by decide)
                        · intro c395
                          exact absurd c395 (by decide)
                      · intro c394
                        exact absurd c394 (by decide)
                    · intro c393
                      exact absurd c393 (by decide)
  · rw [hn]
    refine g_istore K 7 #[.val (.int p0), .val (.long q1), .second, .val (.int p2), .val (.int (9 : Int32)), .unset, .unset, .unset, .unset, .unset, .unset, .unset, .unset, .unset] at_7 rfl ?_
    refine g_lloadN K 9 at_9 rfl ?_
    refine g_l2i K 10 at_10 ?_
    refine g_istore K 11 #[.val (.int p0), .val (.long q1), .second, .val (.int p2), .val (.int (9 : Int32)), .val (.int q1.toInt32), .unset, .unset, .unset, .unset, .unset, .unset, .unset, .unset] at_11 rfl ?_
    refine g_lloadN K 13 at_13 rfl ?_
    refine g_bipush K 14 (32 : Int32) at_14 (by decide) ?_
    refine g_lushr K 16 at_16 ?_
    refine g_l2i K 17 at_17 ?_
    refine g_istore K 18 #[.val (.int p0), .val (.long q1), .second, .val (.int p2), .val (.int (9 : Int32)), .val (.int q1.toInt32), .val (.int (XT.ushrL q1 (32 : Int32)).toInt32), .unset, .unset, .unset, .unset, .unset, .unset, .unset] at_18 rfl ?_
    refine g_iloadN K 20 at_20 rfl ?_
    refine g_istore K 21 #[.val (.int p0), .val (.long q1), .second, .val (.int p2), .val (.int (9 : Int32)), .val (.int q1.toInt32), .val (.int (XT.ushrL q1 (32 : Int32)).toInt32), .val (.int p2), .unset, .unset, .unset, .unset, .unset, .unset] at_21 rfl ?_
    refine g_iload K 23 at_23 rfl ?_
    refine g_newI K 25 .byte at_25 rfl rfl (tw hw 1 rfl) (by decide) 9 (by decide) (by decide) (by decide) (by decide) ?_
    intro h403 a402 eq406 Kp404 A405
    have g407 : n0 ≤ a402 := eq406 ▸ Z0
    have Z408 := Nat.le_trans Z0 Kp404.1
    have A409 : IA Z h403 a402 .byte [0, 0, 0, 0, 0, 0, 0, 0, 0] := (by have q := A405; rw [show (9 : Int32).toNatClampNeg = 9 from by decide] at q; exact q)
    refine g_astore K 27 #[.val (.int p0), .val (.long q1), .second, .val (.int p2), .val (.int (9 : Int32)), .val (.int q1.toInt32), .val (.int (XT.ushrL q1 (32 : Int32)).toInt32), .val (.int p2), .val (.ref a402), .unset, .unset, .unset, .unset, .unset] at_27 rfl rfl ?_
    refine g_iload K 29 at_29 rfl ?_
    refine g_if_le K 31 41 at_31 (by decide) (by decide) ?_ ?_
    · intro c410
      exact absurd c410 (by decide)
    · intro c410
      refine g_aload K 34 at_34 rfl rfl ?_
      refine g_iconst K 36 (0 : Int32) at_36 (by decide) ?_
      refine g_lloadN K 37 at_37 rfl ?_
      refine g_l2i K 38 at_38 ?_
      refine g_i2b K 39 at_39 ?_
      refine g_bastore K 40 at_40 A409 (by decide) (show (0 : Int32).toNatClampNeg < 9 from by decide) g407 ?_
      intro h411 Kp412 A413
      have Z414 := Nat.le_trans Z408 Kp412.1
      have A415 : IA Z h411 a402 .byte [nar .byte q1.toInt32.toInt8.toInt32, 0, 0, 0, 0, 0, 0, 0, 0] := (by have q := A413; rw [show (0 : Int32).toNatClampNeg = 0 from by decide] at q; exact q)
      refine g_iload K 41 at_41 rfl ?_
      refine g_iconst K 43 (1 : Int32) at_43 (by decide) ?_
      refine g_ii_le K 44 57 at_44 (by decide) (by decide) ?_ ?_
      · intro c416
        exact absurd c416 (by decide)
      · intro c416
        refine g_aload K 47 at_47 rfl rfl ?_
        refine g_iconst K 49 (1 : Int32) at_49 (by decide) ?_
        refine g_lloadN K 50 at_50 rfl ?_
        refine g_bipush K 51 (8 : Int32) at_51 (by decide) ?_
        refine g_lushr K 53 at_53 ?_
        refine g_l2i K 54 at_54 ?_
        refine g_i2b K 55 at_55 ?_
        refine g_bastore K 56 at_56 A415 (by decide) (show (1 : Int32).toNatClampNeg < 9 from by decide) g407 ?_
        intro h417 Kp418 A419
        have Z420 := Nat.le_trans Z414 Kp418.1
        have A421 : IA Z h417 a402 .byte [nar .byte q1.toInt32.toInt8.toInt32, nar .byte (((XT.ushrL q1 (8 : Int32)).toInt32).toInt8.toInt32), 0, 0, 0, 0, 0, 0, 0] := (by have q := A419; rw [show (1 : Int32).toNatClampNeg = 1 from by decide] at q; exact q)
        refine g_iload K 57 at_57 rfl ?_
        refine g_iconst K 59 (2 : Int32) at_59 (by decide) ?_
        refine g_ii_le K 60 73 at_60 (by decide) (by decide) ?_ ?_
        · intro c422
          exact absurd c422 (by decide)
        · intro c422
          refine g_aload K 63 at_63 rfl rfl ?_
          refine g_iconst K 65 (2 : Int32) at_65 (by decide) ?_
          refine g_lloadN K 66 at_66 rfl ?_
          refine g_bipush K 67 (16 : Int32) at_67 (by decide) ?_
          refine g_lushr K 69 at_69 ?_
          refine g_l2i K 70 at_70 ?_
          refine g_i2b K 71 at_71 ?_
          refine g_bastore K 72 at_72 A421 (by decide) (show (2 : Int32).toNatClampNeg < 9 from by decide) g407 ?_
          intro h423 Kp424 A425
          have Z426 := Nat.le_trans Z420 Kp424.1
          have A427 : IA Z h423 a402 .byte [nar .byte q1.toInt32.toInt8.toInt32, nar .byte (((XT.ushrL q1 (8 : Int32)).toInt32).toInt8.toInt32), nar .byte (((XT.ushrL q1 (16 : Int32)).toInt32).toInt8.toInt32), 0, 0, 0, 0, 0, 0] := (by have q := A425; rw [show (2 : Int32).toNatClampNeg = 2 from by decide] at q; exact q)
          refine g_iload K 73 at_73 rfl ?_
          refine g_iconst K 75 (3 : Int32) at_75 (by decide) ?_
          refine g_ii_le K 76 89 at_76 (by decide) (by decide) ?_ ?_
          · intro c428
            exact absurd c428 (by decide)
          · intro c428
            refine g_aload K 79 at_79 rfl rfl ?_
            refine g_iconst K 81 (3 : Int32) at_81 (by decide) ?_
            refine g_lloadN K 82 at_82 rfl ?_
            refine g_bipush K 83 (24 : Int32) at_83 (by decide) ?_
            refine g_lushr K 85 at_85 ?_
            refine g_l2i K 86 at_86 ?_
            refine g_i2b K 87 at_87 ?_
            refine g_bastore K 88 at_88 A427 (by decide) (show (3 : Int32).toNatClampNeg < 9 from by decide) g407 ?_
            intro h429 Kp430 A431
            have Z432 := Nat.le_trans Z426 Kp430.1
            have A433 : IA Z h429 a402 .byte [nar .byte q1.toInt32.toInt8.toInt32, nar .byte (((XT.ushrL q1 (8 : Int32)).toInt32).toInt8.toInt32), nar .byte (((XT.ushrL q1 (16 : Int32)).toInt32).toInt8.toInt32), nar .byte (((XT.ushrL q1 (24 : Int32)).toInt32).toInt8.toInt32), 0, 0, 0, 0, 0] := (by have q := A431; rw [show (3 : Int32).toNatClampNeg = 3 from by decide] at q; exact q)
            refine g_iload K 89 at_89 rfl ?_
            refine g_iconst K 91 (4 : Int32) at_91 (by decide) ?_
            refine g_ii_le K 92 105 at_92 (by decide) (by decide) ?_ ?_
            · intro c434
              exact absurd c434 (by decide)
            · intro c434
              refine g_aload K 95 at_95 rfl rfl ?_
              refine g_iconst K 97 (4 : Int32) at_97 (by decide) ?_
              refine g_lloadN K 98 at_98 rfl ?_
              refine g_bipush K 99 (32 : Int32) at_99 (by decide) ?_
              refine g_lushr K 101 at_101 ?_
              refine g_l2i K 102 at_102 ?_
              refine g_i2b K 103 at_103 ?_
              refine g_bastore K 104 at_104 A433 (by decide) (show (4 : Int32).toNatClampNeg < 9 from by decide) g407 ?_
              intro h435 Kp436 A437
              have Z438 := Nat.le_trans Z432 Kp436.1
              have A439 : IA Z h435 a402 .byte [nar .byte q1.toInt32.toInt8.toInt32, nar .byte (((XT.ushrL q1 (8 : Int32)).toInt32).toInt8.toInt32), nar .byte (((XT.ushrL q1 (16 : Int32)).toInt32).toInt8.toInt32), nar .byte (((XT.ushrL q1 (24 : Int32)).toInt32).toInt8.toInt32), nar .byte (((XT.ushrL q1 (32 : Int32)).toInt32).toInt8.toInt32), 0, 0, 0, 0] := (by have q := A437; rw [show (4 : Int32).toNatClampNeg = 4 from by decide] at q; exact q)
              refine g_iload K 105 at_105 rfl ?_
              refine g_iconst K 107 (5 : Int32) at_107 (by decide) ?_
              refine g_ii_le K 108 121 at_108 (by decide) (by decide) ?_ ?_
              · intro c440
                exact absurd c440 (by decide)
              · intro c440
                refine g_aload K 111 at_111 rfl rfl ?_
                refine g_iconst K 113 (5 : Int32) at_113 (by decide) ?_
                refine g_lloadN K 114 at_114 rfl ?_
                refine g_bipush K 115 (40 : Int32) at_115 (by decide) ?_
                refine g_lushr K 117 at_117 ?_
                refine g_l2i K 118 at_118 ?_
                refine g_i2b K 119 at_119 ?_
                refine g_bastore K 120 at_120 A439 (by decide) (show (5 : Int32).toNatClampNeg < 9 from by decide) g407 ?_
                intro h441 Kp442 A443
                have Z444 := Nat.le_trans Z438 Kp442.1
                have A445 : IA Z h441 a402 .byte [nar .byte q1.toInt32.toInt8.toInt32, nar .byte (((XT.ushrL q1 (8 : Int32)).toInt32).toInt8.toInt32), nar .byte (((XT.ushrL q1 (16 : Int32)).toInt32).toInt8.toInt32), nar .byte (((XT.ushrL q1 (24 : Int32)).toInt32).toInt8.toInt32), nar .byte (((XT.ushrL q1 (32 : Int32)).toInt32).toInt8.toInt32), nar .byte (((XT.ushrL q1 (40 : Int32)).toInt32).toInt8.toInt32), 0, 0, 0] := (by have q := A443; rw [show (5 : Int32).toNatClampNeg = 5 from by decide] at q; exact q)
                refine g_iload K 121 at_121 rfl ?_
                refine g_bipush K 123 (6 : Int32) at_123 (by decide) ?_
                refine g_ii_le K 125 139 at_125 (by decide) (by decide) ?_ ?_
                · intro c446
                  exact absurd c446 (by decide)
                · intro c446
                  refine g_aload K 128 at_128 rfl rfl ?_
                  refine g_bipush K 130 (6 : Int32) at_130 (by decide) ?_
                  refine g_lloadN K 132 at_132 rfl ?_
                  refine g_bipush K 133 (48 : Int32) at_133 (by decide) ?_
                  refine g_lushr K 135 at_135 ?_
                  refine g_l2i K 136 at_136 ?_
                  refine g_i2b K 137 at_137 ?_
                  refine g_bastore K 138 at_138 A445 (by decide) (show (6 : Int32).toNatClampNeg < 9 from by decide) g407 ?_
                  intro h447 Kp448 A449
                  have Z450 := Nat.le_trans Z444 Kp448.1
                  have A451 : IA Z h447 a402 .byte [nar .byte q1.toInt32.toInt8.toInt32, nar .byte (((XT.ushrL q1 (8 : Int32)).toInt32).toInt8.toInt32), nar .byte (((XT.ushrL q1 (16 : Int32)).toInt32).toInt8.toInt32), nar .byte (((XT.ushrL q1 (24 : Int32)).toInt32).toInt8.toInt32), nar .byte (((XT.ushrL q1 (32 : Int32)).toInt32).toInt8.toInt32), nar .byte (((XT.ushrL q1 (40 : Int32)).toInt32).toInt8.toInt32), nar .byte (((XT.ushrL q1 (48 : Int32)).toInt32).toInt8.toInt32), 0, 0] := (by have q := A449; rw [show (6 : Int32).toNatClampNeg = 6 from by decide] at q; exact q)
                  refine g_iload K 139 at_139 rfl ?_
                  refine g_bipush K 141 (7 : Int32) at_141 (by decide) ?_
                  refine g_ii_le K 143 157 at_143 (by decide) (by decide) ?_ ?_
                  · intro c452
                    exact absurd c452 (by decide)
                  · intro c452
                    refine g_aload K 146 at_146 rfl rfl ?_
                    refine g_bipush K 148 (7 : Int32) at_148 (by decide) ?_
                    refine g_lloadN K 150 at_150 rfl ?_
                    refine g_bipush K 151 (56 : Int32) at_151 (by decide) ?_
                    refine g_lushr K 153 at_153 ?_
                    refine g_l2i K 154 at_154 ?_
                    refine g_i2b K 155 at_155 ?_
                    refine g_bastore K 156 at_156 A451 (by decide) (show (7 : Int32).toNatClampNeg < 9 from by decide) g407 ?_
                    intro h453 Kp454 A455
                    have Z456 := Nat.le_trans Z450 Kp454.1
                    have A457 : IA Z h453 a402 .byte [nar .byte q1.toInt32.toInt8.toInt32, nar .byte (((XT.ushrL q1 (8 : Int32)).toInt32).toInt8.toInt32), nar .byte (((XT.ushrL q1 (16 : Int32)).toInt32).toInt8.toInt32), nar .byte (((XT.ushrL q1 (24 : Int32)).toInt32).toInt8.toInt32), nar .byte (((XT.ushrL q1 (32 : Int32)).toInt32).toInt8.toInt32), nar .byte (((XT.ushrL q1 (40 : Int32)).toInt32).toInt8.toInt32), nar .byte (((XT.ushrL q1 (48 : Int32)).toInt32).toInt8.toInt32), nar .byte (((XT.ushrL q1 (56 : Int32)).toInt32).toInt8.toInt32), 0] := (by have q := A455; rw [show (7 : Int32).toNatClampNeg = 7 from by decide] at q; exact q)
                    refine g_iload K 157 at_157 rfl ?_
                    refine g_bipush K 159 (8 : Int32) at_159 (by decide) ?_
                    refine g_ii_le K 161 171 at_161 (by decide) (by decide) ?_ ?_
                    · intro c458
                      exact absurd c458 (by decide)
                    · intro c458
                      refine g_aload K 164 at_164 rfl rfl ?_
                      refine g_bipush K 166 (8 : Int32) at_166 (by decide) ?_
                      refine g_iloadN K 168 at_168 rfl ?_
                      refine g_i2b K 169 at_169 ?_
                      refine g_bastore K 170 at_170 A457 (by decide) (show (8 : Int32).toNatClampNeg < 9 from by decide) g407 ?_
                      intro h459 Kp460 A461
                      have Z462 := Nat.le_trans Z456 Kp460.1
                      have A463 : IA Z h459 a402 .byte [nar .byte q1.toInt32.toInt8.toInt32, nar .byte (((XT.ushrL q1 (8 : Int32)).toInt32).toInt8.toInt32), nar .byte (((XT.ushrL q1 (16 : Int32)).toInt32).toInt8.toInt32), nar .byte (((XT.ushrL q1 (24 : Int32)).toInt32).toInt8.toInt32), nar .byte (((XT.ushrL q1 (32 : Int32)).toInt32).toInt8.toInt32), nar .byte (((XT.ushrL q1 (40 : Int32)).toInt32).toInt8.toInt32), nar .byte (((XT.ushrL q1 (48 : Int32)).toInt32).toInt8.toInt32), nar .byte (((XT.ushrL q1 (56 : Int32)).toInt32).toInt8.toInt32), nar .byte p2.toInt8.toInt32] := (by have q := A461; rw [show (8 : Int32).toNatClampNeg = 8 from by decide] at q; exact q)
                      refine g_iload K 171 at_171 rfl ?_
                      refine g_bipush K 173 (9 : Int32) at_173 (by decide) ?_
                      refine g_ii_le K 175 188 at_175 (by decide) (by decide) ?_ ?_
                      · intro c464
                        refine g_iload K 188 at_188 rfl ?_
                        refine g_bipush K 190 (10 : Int32) at_190 (by decide) ?_
                        refine g_ii_le K 192 205 at_192 (by decide) (by decide) ?_ ?_
                        · intro c465
                          refine g_iload K 205 at_205 rfl ?_
                          refine g_iconst K 207 (4 : Int32) at_207 (by decide) ?_
                          refine g_idiv K 208 at_208 (by decide) ?_
                          rw [show ((9 : Int32) / (4 : Int32)) = (2 : Int32) from by decide]
                          refine g_istore K 209 #[.val (.int p0), .val (.long q1), .second, .val (.int p2), .val (.int (9 : Int32)), .val (.int q1.toInt32), .val (.int (XT.ushrL q1 (32 : Int32)).toInt32), .val (.int p2), .val (.ref a402), .val (.int (2 : Int32)), .unset, .unset, .unset, .unset] at_209 rfl ?_
                          refine g_iload K 211 at_211 rfl ?_
                          refine g_iconst K 213 (4 : Int32) at_213 (by decide) ?_
                          refine g_irem K 214 at_214 (by decide) ?_
                          rw [show ((9 : Int32) % (4 : Int32)) = (1 : Int32) from by decide]
                          refine g_istore K 215 #[.val (.int p0), .val (.long q1), .second, .val (.int p2), .val (.int (9 : Int32)), .val (.int q1.toInt32), .val (.int (XT.ushrL q1 (32 : Int32)).toInt32), .val (.int p2), .val (.ref a402), .val (.int (2 : Int32)), .val (.int (1 : Int32)), .unset, .unset, .unset] at_215 rfl ?_
                          refine g_ldc K 217 (v := (-1756908916 : Int32)) at_217 (tw hw 2 rfl) ?_
                          refine g_iload K 219 at_219 rfl ?_
                          refine g_ixor K 221 at_221 ?_
                          rw [show ((-1756908916 : Int32) ^^^ (9 : Int32)) = (-1756908923 : Int32) from by decide]
                          refine g_istore K 222 #[.val (.int p0), .val (.long q1), .second, .val (.int p2), .val (.int (9 : Int32)), .val (.int q1.toInt32), .val (.int (XT.ushrL q1 (32 : Int32)).toInt32), .val (.int p2), .val (.ref a402), .val (.int (2 : Int32)), .val (.int (1 : Int32)), .val (.int (-1756908923 : Int32)), .unset, .unset] at_222 rfl ?_
                          refine g_iload K 224 at_224 rfl ?_
                          refine g_iconst K 226 (1 : Int32) at_226 (by decide) ?_
                          refine g_ii_lt K 227 243 at_227 (by decide) (by decide) ?_ ?_
                          · intro c466
                            exact absurd c466 (by decide)
                          · intro c466
                            refine g_iload K 230 at_230 rfl ?_
                            refine g_ldc K 232 (v := (1540483477 : Int32)) at_232 (tw hw 13 rfl) ?_
                            refine g_imul K 234 at_234 ?_
                            rw [show ((-1756908923 : Int32) * (1540483477 : Int32)) = (1405809769 : Int32) from by decide]
                            refine g_iload K 235 at_235 rfl ?_
                            refine g_callS K 237 [(.int q1.toInt32)] 1 at_237 (rm_mixK l Z a0 hw q1.toInt32 h459 n0 Z462  ) (tw hw 14 rfl) (tw hw 15 rfl) (tw hw 11 rfl) (tw hw 16 rfl) (by decide) pd1 rfl (st := [(.int (1405809769 : Int32))]) rfl (Nat.le_of_eq rfl) rfl (by decide) (by decide) (by decide) (by decide) ?_
                            rintro _ _ ⟨hv, hh⟩
                            rw [hv, hh]
                            clear hv hh
                            refine go_cast (k' := (0 + 1)) (n' := (0 + 9)) (st' := [(.int (f_mixK q1.toInt32)), (.int (1405809769 : Int32))]) rfl rfl rfl ?_
                            refine g_ixor K 240 at_240 ?_
                            refine g_istore K 241 #[.val (.int p0), .val (.long q1), .second, .val (.int p2), .val (.int (9 : Int32)), .val (.int q1.toInt32), .val (.int (XT.ushrL q1 (32 : Int32)).toInt32), .val (.int p2), .val (.ref a402), .val (.int (2 : Int32)), .val (.int (1 : Int32)), .val (.int ((1405809769 : Int32) ^^^ (f_mixK q1.toInt32))), .unset, .unset] at_241 rfl ?_
                            refine g_iload K 243 at_243 rfl ?_
                            refine g_iconst K 245 (2 : Int32) at_245 (by decide) ?_
                            refine g_ii_lt K 246 262 at_246 (by decide) (by decide) ?_ ?_
                            · intro c467
                              exact absurd c467 (by decide)
                            · intro c467
                              refine g_iload K 249 at_249 rfl ?_
                              refine g_ldc K 251 (v := (1540483477 : Int32)) at_251 (tw hw 13 rfl) ?_
                              refine g_imul K 253 at_253 ?_
                              refine g_iload K 254 at_254 rfl ?_
                              refine g_callS K 256 [(.int (XT.ushrL q1 (32 : Int32)).toInt32)] 1 at_256 (rm_mixK l Z a0 hw ((XT.ushrL q1 (32 : Int32)).toInt32) h459 n0 Z462  ) (tw hw 14 rfl) (tw hw 15 rfl) (tw hw 11 rfl) (tw hw 16 rfl) (by decide) pd1 rfl (st := [(.int (((1405809769 : Int32) ^^^ (f_mixK q1.toInt32)) * (1540483477 : Int32)))]) rfl (Nat.le_of_eq rfl) rfl (by decide) (by decide) (by decide) (by decide) ?_
                              rintro _ _ ⟨hv, hh⟩
                              rw [hv, hh]
                              clear hv hh
                              refine go_cast (k' := (0 + 1)) (n' := (0 + 9)) (st' := [(.int (f_mixK ((XT.ushrL q1 (32 : Int32)).toInt32))), (.int (((1405809769 : Int32) ^^^ (f_mixK q1.toInt32)) * (1540483477 : Int32)))]) rfl rfl rfl ?_
                              refine g_ixor K 259 at_259 ?_
                              refine g_istore K 260 #[.val (.int p0), .val (.long q1), .second, .val (.int p2), .val (.int (9 : Int32)), .val (.int q1.toInt32), .val (.int (XT.ushrL q1 (32 : Int32)).toInt32), .val (.int p2), .val (.ref a402), .val (.int (2 : Int32)), .val (.int (1 : Int32)), .val (.int ((((1405809769 : Int32) ^^^ (f_mixK q1.toInt32)) * (1540483477 : Int32)) ^^^ (f_mixK ((XT.ushrL q1 (32 : Int32)).toInt32)))), .unset, .unset] at_260 rfl ?_
                              refine g_iload K 262 at_262 rfl ?_
                              refine g_if_ne K 264 272 at_264 (by decide) (by decide) ?_ ?_
                              · intro c468
                                refine g_iload K 272 at_272 rfl ?_
                                refine g_iconst K 274 (1 : Int32) at_274 (by decide) ?_
                                refine g_ii_ne K 275 283 at_275 (by decide) (by decide) ?_ ?_
                                · intro c469
                                  refine g_iload K 283 at_283 rfl ?_
                                  refine g_istore K 285 #[.val (.int p0), .val (.long q1), .second, .val (.int p2), .val (.int (9 : Int32)), .val (.int q1.toInt32), .val (.int (XT.ushrL q1 (32 : Int32)).toInt32), .val (.int p2), .val (.ref a402), .val (.int (2 : Int32)), .val (.int (1 : Int32)), .val (.int ((((1405809769 : Int32) ^^^ (f_mixK q1.toInt32)) * (1540483477 : Int32)) ^^^ (f_mixK ((XT.ushrL q1 (32 : Int32)).toInt32)))), .val (.int p2), .unset] at_285 rfl ?_
                                  refine g_iload K 287 at_287 rfl ?_
                                  refine g_if_le K 289 316 at_289 (by decide) (by decide) ?_ ?_
                                  · intro c470
                                    exact absurd c470 (by decide)
                                  · intro c470
                                    refine g_iconst K 292 (1 : Int32) at_292 (by decide) ?_
                                    refine g_bipush K 293 (8 : Int32) at_293 (by decide) ?_
                                    refine g_iload K 295 at_295 rfl ?_
                                    refine g_imul K 297 at_297 ?_
                                    rw [show ((8 : Int32) * (1 : Int32)) = (8 : Int32) from by decide]
                                    refine g_ishl K 298 at_298 ?_
                                    rw [show ((1 : Int32) <<< ((8 : Int32) &&& 31)) = (256 : Int32) from by decide]
                                    refine g_iconst K 299 (1 : Int32) at_299 (by decide) ?_
                                    refine g_isub K 300 at_300 ?_
                                    rw [show ((256 : Int32) - (1 : Int32)) = (255 : Int32) from by decide]
                                    refine g_istore K 301 #[.val (.int p0), .val (.long q1), .second, .val (.int p2), .val (.int (9 : Int32)), .val (.int q1.toInt32), .val (.int (XT.ushrL q1 (32 : Int32)).toInt32), .val (.int p2), .val (.ref a402), .val (.int (2 : Int32)), .val (.int (1 : Int32)), .val (.int ((((1405809769 : Int32) ^^^ (f_mixK q1.toInt32)) * (1540483477 : Int32)) ^^^ (f_mixK ((XT.ushrL q1 (32 : Int32)).toInt32)))), .val (.int p2), .val (.int (255 : Int32))] at_301 rfl ?_
                                    refine g_iload K 303 at_303 rfl ?_
                                    refine g_iload K 305 at_305 rfl ?_
                                    refine g_iload K 307 at_307 rfl ?_
                                    refine g_iand K 309 at_309 ?_
                                    refine g_ixor K 310 at_310 ?_
                                    refine g_ldc K 311 (v := (1540483477 : Int32)) at_311 (tw hw 13 rfl) ?_
                                    refine g_imul K 313 at_313 ?_
                                    refine g_istore K 314 #[.val (.int p0), .val (.long q1), .second, .val (.int p2), .val (.int (9 : Int32)), .val (.int q1.toInt32), .val (.int (XT.ushrL q1 (32 : Int32)).toInt32), .val (.int p2), .val (.ref a402), .val (.int (2 : Int32)), .val (.int (1 : Int32)), .val (.int ((((((1405809769 : Int32) ^^^ (f_mixK q1.toInt32)) * (1540483477 : Int32)) ^^^ (f_mixK ((XT.ushrL q1 (32 : Int32)).toInt32))) ^^^ (p2 &&& (255 : Int32))) * (1540483477 : Int32))), .val (.int p2), .val (.int (255 : Int32))] at_314 rfl ?_
                                    refine g_aload K 316 at_316 rfl rfl ?_
                                    refine g_callS K 318 [(.ref a402)] 0 at_318 (rm_mur9 l Z a0 hw a402 h459 n0 Z462 (nar .byte q1.toInt32.toInt8.toInt32) (nar .byte (((XT.ushrL q1 (8 : Int32)).toInt32).toInt8.toInt32)) (nar .byte (((XT.ushrL q1 (16 : Int32)).toInt32).toInt8.toInt32)) (nar .byte (((XT.ushrL q1 (24 : Int32)).toInt32).toInt8.toInt32)) (nar .byte (((XT.ushrL q1 (32 : Int32)).toInt32).toInt8.toInt32)) (nar .byte (((XT.ushrL q1 (40 : Int32)).toInt32).toInt8.toInt32)) (nar .byte (((XT.ushrL q1 (48 : Int32)).toInt32).toInt8.toInt32)) (nar .byte (((XT.ushrL q1 (56 : Int32)).toInt32).toInt8.toInt32)) (nar .byte p2.toInt8.toInt32) A463) (tw hw 3 rfl) (tw hw 4 rfl) (tw hw 5 rfl) (tw hw 6 rfl) (by decide) pd0 rfl (st := []) rfl (Nat.le_of_eq rfl) rfl (by decide) (by decide) (by decide) (by decide) ?_
                                    rintro _ _ ⟨hv, hh⟩
                                    rw [hv, hh]
                                    clear hv hh
                                    refine go_cast (k' := (0 + 1)) (n' := (0 + 9)) (st' := [(.int (f_mur9 (nar .byte q1.toInt32.toInt8.toInt32) (nar .byte (((XT.ushrL q1 (8 : Int32)).toInt32).toInt8.toInt32)) (nar .byte (((XT.ushrL q1 (16 : Int32)).toInt32).toInt8.toInt32)) (nar .byte (((XT.ushrL q1 (24 : Int32)).toInt32).toInt8.toInt32)) (nar .byte (((XT.ushrL q1 (32 : Int32)).toInt32).toInt8.toInt32)) (nar .byte (((XT.ushrL q1 (40 : Int32)).toInt32).toInt8.toInt32)) (nar .byte (((XT.ushrL q1 (48 : Int32)).toInt32).toInt8.toInt32)) (nar .byte (((XT.ushrL q1 (56 : Int32)).toInt32).toInt8.toInt32)) (nar .byte p2.toInt8.toInt32)))]) rfl rfl rfl ?_
                                    refine g_iload K 321 at_321 rfl ?_
                                    refine g_callS K 323 [(.int ((((((1405809769 : Int32) ^^^ (f_mixK q1.toInt32)) * (1540483477 : Int32)) ^^^ (f_mixK ((XT.ushrL q1 (32 : Int32)).toInt32))) ^^^ (p2 &&& (255 : Int32))) * (1540483477 : Int32)))] 1 at_323 (rm_fin l Z a0 hw ((((((1405809769 : Int32) ^^^ (f_mixK q1.toInt32)) * (1540483477 : Int32)) ^^^ (f_mixK ((XT.ushrL q1 (32 : Int32)).toInt32))) ^^^ (p2 &&& (255 : Int32))) * (1540483477 : Int32)) h459 n0 Z462  ) (tw hw 9 rfl) (tw hw 10 rfl) (tw hw 11 rfl) (tw hw 12 rfl) (by decide) pd1 rfl (st := [(.int (f_mur9 (nar .byte q1.toInt32.toInt8.toInt32) (nar .byte (((XT.ushrL q1 (8 : Int32)).toInt32).toInt8.toInt32)) (nar .byte (((XT.ushrL q1 (16 : Int32)).toInt32).toInt8.toInt32)) (nar .byte (((XT.ushrL q1 (24 : Int32)).toInt32).toInt8.toInt32)) (nar .byte (((XT.ushrL q1 (32 : Int32)).toInt32).toInt8.toInt32)) (nar .byte (((XT.ushrL q1 (40 : Int32)).toInt32).toInt8.toInt32)) (nar .byte (((XT.ushrL q1 (48 : Int32)).toInt32).toInt8.toInt32)) (nar .byte (((XT.ushrL q1 (56 : Int32)).toInt32).toInt8.toInt32)) (nar .byte p2.toInt8.toInt32)))]) rfl (Nat.le_of_eq rfl) rfl (by decide) (by decide) (by decide) (by decide) ?_
                                    rintro _ _ ⟨hv, hh⟩
                                    rw [hv, hh]
                                    clear hv hh
                                    refine go_cast (k' := (0 + 1)) (n' := (0 + 9)) (st' := [(.int (f_fin ((((((1405809769 : Int32) ^^^ (f_mixK q1.toInt32)) * (1540483477 : Int32)) ^^^ (f_mixK ((XT.ushrL q1 (32 : Int32)).toInt32))) ^^^ (p2 &&& (255 : Int32))) * (1540483477 : Int32)))), (.int (f_mur9 (nar .byte q1.toInt32.toInt8.toInt32) (nar .byte (((XT.ushrL q1 (8 : Int32)).toInt32).toInt8.toInt32)) (nar .byte (((XT.ushrL q1 (16 : Int32)).toInt32).toInt8.toInt32)) (nar .byte (((XT.ushrL q1 (24 : Int32)).toInt32).toInt8.toInt32)) (nar .byte (((XT.ushrL q1 (32 : Int32)).toInt32).toInt8.toInt32)) (nar .byte (((XT.ushrL q1 (40 : Int32)).toInt32).toInt8.toInt32)) (nar .byte (((XT.ushrL q1 (48 : Int32)).toInt32).toInt8.toInt32)) (nar .byte (((XT.ushrL q1 (56 : Int32)).toInt32).toInt8.toInt32)) (nar .byte p2.toInt8.toInt32)))]) rfl rfl rfl ?_
                                    refine g_ii_ne K 326 333 at_326 (by decide) (by decide) ?_ ?_
                                    · intro c471
                                      exfalso
                                      exact c471 (own_mur9 q1 p2)
                                    · intro c471
                                      refine g_iconst K 329 (1 : Int32) at_329 (by decide) ?_
                                      refine g_goto K 330 334 at_330 (by decide) (by decide) ?_
                                      refine g_retN K 334 .boolean at_334 rfl (by simp) (by decide) (by decide) ?_
                                      rw [hQ]
                                      rfl
                                · intro c469
                                  exact absurd c469 (by decide)
                              · intro c468
                                exact absurd c468 (by decide)
                        · intro c465
                          exact absurd c465 (by decide)
                      · intro c464
                        exact absurd c464 (by decide)
  · rw [hn]
    refine g_istore K 7 #[.val (.int p0), .val (.long q1), .second, .val (.int p2), .val (.int (10 : Int32)), .unset, .unset, .unset, .unset, .unset, .unset, .unset, .unset, .unset] at_7 rfl ?_
    refine g_lloadN K 9 at_9 rfl ?_
    refine g_l2i K 10 at_10 ?_
    refine g_istore K 11 #[.val (.int p0), .val (.long q1), .second, .val (.int p2), .val (.int (10 : Int32)), .val (.int q1.toInt32), .unset, .unset, .unset, .unset, .unset, .unset, .unset, .unset] at_11 rfl ?_
    refine g_lloadN K 13 at_13 rfl ?_
    refine g_bipush K 14 (32 : Int32) at_14 (by decide) ?_
    refine g_lushr K 16 at_16 ?_
    refine g_l2i K 17 at_17 ?_
    refine g_istore K 18 #[.val (.int p0), .val (.long q1), .second, .val (.int p2), .val (.int (10 : Int32)), .val (.int q1.toInt32), .val (.int (XT.ushrL q1 (32 : Int32)).toInt32), .unset, .unset, .unset, .unset, .unset, .unset, .unset] at_18 rfl ?_
    refine g_iloadN K 20 at_20 rfl ?_
    refine g_istore K 21 #[.val (.int p0), .val (.long q1), .second, .val (.int p2), .val (.int (10 : Int32)), .val (.int q1.toInt32), .val (.int (XT.ushrL q1 (32 : Int32)).toInt32), .val (.int p2), .unset, .unset, .unset, .unset, .unset, .unset] at_21 rfl ?_
    refine g_iload K 23 at_23 rfl ?_
    refine g_newI K 25 .byte at_25 rfl rfl (tw hw 1 rfl) (by decide) 10 (by decide) (by decide) (by decide) (by decide) ?_
    intro h473 a472 eq476 Kp474 A475
    have g477 : n0 ≤ a472 := eq476 ▸ Z0
    have Z478 := Nat.le_trans Z0 Kp474.1
    have A479 : IA Z h473 a472 .byte [0, 0, 0, 0, 0, 0, 0, 0, 0, 0] := (by have q := A475; rw [show (10 : Int32).toNatClampNeg = 10 from by decide] at q; exact q)
    refine g_astore K 27 #[.val (.int p0), .val (.long q1), .second, .val (.int p2), .val (.int (10 : Int32)), .val (.int q1.toInt32), .val (.int (XT.ushrL q1 (32 : Int32)).toInt32), .val (.int p2), .val (.ref a472), .unset, .unset, .unset, .unset, .unset] at_27 rfl rfl ?_
    refine g_iload K 29 at_29 rfl ?_
    refine g_if_le K 31 41 at_31 (by decide) (by decide) ?_ ?_
    · intro c480
      exact absurd c480 (by decide)
    · intro c480
      refine g_aload K 34 at_34 rfl rfl ?_
      refine g_iconst K 36 (0 : Int32) at_36 (by decide) ?_
      refine g_lloadN K 37 at_37 rfl ?_
      refine g_l2i K 38 at_38 ?_
      refine g_i2b K 39 at_39 ?_
      refine g_bastore K 40 at_40 A479 (by decide) (show (0 : Int32).toNatClampNeg < 10 from by decide) g477 ?_
      intro h481 Kp482 A483
      have Z484 := Nat.le_trans Z478 Kp482.1
      have A485 : IA Z h481 a472 .byte [nar .byte q1.toInt32.toInt8.toInt32, 0, 0, 0, 0, 0, 0, 0, 0, 0] := (by have q := A483; rw [show (0 : Int32).toNatClampNeg = 0 from by decide] at q; exact q)
      refine g_iload K 41 at_41 rfl ?_
      refine g_iconst K 43 (1 : Int32) at_43 (by decide) ?_
      refine g_ii_le K 44 57 at_44 (by decide) (by decide) ?_ ?_
      · intro c486
        exact absurd c486 (by decide)
      · intro c486
        refine g_aload K 47 at_47 rfl rfl ?_
        refine g_iconst K 49 (1 : Int32) at_49 (by decide) ?_
        refine g_lloadN K 50 at_50 rfl ?_
        refine g_bipush K 51 (8 : Int32) at_51 (by decide) ?_
        refine g_lushr K 53 at_53 ?_
        refine g_l2i K 54 at_54 ?_
        refine g_i2b K 55 at_55 ?_
        refine g_bastore K 56 at_56 A485 (by decide) (show (1 : Int32).toNatClampNeg < 10 from by decide) g477 ?_
        intro h487 Kp488 A489
        have Z490 := Nat.le_trans Z484 Kp488.1
        have A491 : IA Z h487 a472 .byte [nar .byte q1.toInt32.toInt8.toInt32, nar .byte (((XT.ushrL q1 (8 : Int32)).toInt32).toInt8.toInt32), 0, 0, 0, 0, 0, 0, 0, 0] := (by have q := A489; rw [show (1 : Int32).toNatClampNeg = 1 from by decide] at q; exact q)
        refine g_iload K 57 at_57 rfl ?_
        refine g_iconst K 59 (2 : Int32) at_59 (by decide) ?_
        refine g_ii_le K 60 73 at_60 (by decide) (by decide) ?_ ?_
        · intro c492
          exact absurd c492 (by decide)
        · intro c492
          refine g_aload K 63 at_63 rfl rfl ?_
          refine g_iconst K 65 (2 : Int32) at_65 (by decide) ?_
          refine g_lloadN K 66 at_66 rfl ?_
          refine g_bipush K 67 (16 : Int32) at_67 (by decide) ?_
          refine g_lushr K 69 at_69 ?_
          refine g_l2i K 70 at_70 ?_
          refine g_i2b K 71 at_71 ?_
          refine g_bastore K 72 at_72 A491 (by decide) (show (2 : Int32).toNatClampNeg < 10 from by decide) g477 ?_
          intro h493 Kp494 A495
          have Z496 := Nat.le_trans Z490 Kp494.1
          have A497 : IA Z h493 a472 .byte [nar .byte q1.toInt32.toInt8.toInt32, nar .byte (((XT.ushrL q1 (8 : Int32)).toInt32).toInt8.toInt32), nar .byte (((XT.ushrL q1 (16 : Int32)).toInt32).toInt8.toInt32), 0, 0, 0, 0, 0, 0, 0] := (by have q := A495; rw [show (2 : Int32).toNatClampNeg = 2 from by decide] at q; exact q)
          refine g_iload K 73 at_73 rfl ?_
          refine g_iconst K 75 (3 : Int32) at_75 (by decide) ?_
          refine g_ii_le K 76 89 at_76 (by decide) (by decide) ?_ ?_
          · intro c498
            exact absurd c498 (by decide)
          · intro c498
            refine g_aload K 79 at_79 rfl rfl ?_
            refine g_iconst K 81 (3 : Int32) at_81 (by decide) ?_
            refine g_lloadN K 82 at_82 rfl ?_
            refine g_bipush K 83 (24 : Int32) at_83 (by decide) ?_
            refine g_lushr K 85 at_85 ?_
            refine g_l2i K 86 at_86 ?_
            refine g_i2b K 87 at_87 ?_
            refine g_bastore K 88 at_88 A497 (by decide) (show (3 : Int32).toNatClampNeg < 10 from by decide) g477 ?_
            intro h499 Kp500 A501
            have Z502 := Nat.le_trans Z496 Kp500.1
            have A503 : IA Z h499 a472 .byte [nar .byte q1.toInt32.toInt8.toInt32, nar .byte (((XT.ushrL q1 (8 : Int32)).toInt32).toInt8.toInt32), nar .byte (((XT.ushrL q1 (16 : Int32)).toInt32).toInt8.toInt32), nar .byte (((XT.ushrL q1 (24 : Int32)).toInt32).toInt8.toInt32), 0, 0, 0, 0, 0, 0] := (by have q := A501; rw [show (3 : Int32).toNatClampNeg = 3 from by decide] at q; exact q)
            refine g_iload K 89 at_89 rfl ?_
            refine g_iconst K 91 (4 : Int32) at_91 (by decide) ?_
            refine g_ii_le K 92 105 at_92 (by decide) (by decide) ?_ ?_
            · intro c504
              exact absurd c504 (by decide)
            · intro c504
              refine g_aload K 95 at_95 rfl rfl ?_
              refine g_iconst K 97 (4 : Int32) at_97 (by decide) ?_
              refine g_lloadN K 98 at_98 rfl ?_
              refine g_bipush K 99 (32 : Int32) at_99 (by decide) ?_
              refine g_lushr K 101 at_101 ?_
              refine g_l2i K 102 at_102 ?_
              refine g_i2b K 103 at_103 ?_
              refine g_bastore K 104 at_104 A503 (by decide) (show (4 : Int32).toNatClampNeg < 10 from by decide) g477 ?_
              intro h505 Kp506 A507
              have Z508 := Nat.le_trans Z502 Kp506.1
              have A509 : IA Z h505 a472 .byte [nar .byte q1.toInt32.toInt8.toInt32, nar .byte (((XT.ushrL q1 (8 : Int32)).toInt32).toInt8.toInt32), nar .byte (((XT.ushrL q1 (16 : Int32)).toInt32).toInt8.toInt32), nar .byte (((XT.ushrL q1 (24 : Int32)).toInt32).toInt8.toInt32), nar .byte (((XT.ushrL q1 (32 : Int32)).toInt32).toInt8.toInt32), 0, 0, 0, 0, 0] := (by have q := A507; rw [show (4 : Int32).toNatClampNeg = 4 from by decide] at q; exact q)
              refine g_iload K 105 at_105 rfl ?_
              refine g_iconst K 107 (5 : Int32) at_107 (by decide) ?_
              refine g_ii_le K 108 121 at_108 (by decide) (by decide) ?_ ?_
              · intro c510
                exact absurd c510 (by decide)
              · intro c510
                refine g_aload K 111 at_111 rfl rfl ?_
                refine g_iconst K 113 (5 : Int32) at_113 (by decide) ?_
                refine g_lloadN K 114 at_114 rfl ?_
                refine g_bipush K 115 (40 : Int32) at_115 (by decide) ?_
                refine g_lushr K 117 at_117 ?_
                refine g_l2i K 118 at_118 ?_
                refine g_i2b K 119 at_119 ?_
                refine g_bastore K 120 at_120 A509 (by decide) (show (5 : Int32).toNatClampNeg < 10 from by decide) g477 ?_
                intro h511 Kp512 A513
                have Z514 := Nat.le_trans Z508 Kp512.1
                have A515 : IA Z h511 a472 .byte [nar .byte q1.toInt32.toInt8.toInt32, nar .byte (((XT.ushrL q1 (8 : Int32)).toInt32).toInt8.toInt32), nar .byte (((XT.ushrL q1 (16 : Int32)).toInt32).toInt8.toInt32), nar .byte (((XT.ushrL q1 (24 : Int32)).toInt32).toInt8.toInt32), nar .byte (((XT.ushrL q1 (32 : Int32)).toInt32).toInt8.toInt32), nar .byte (((XT.ushrL q1 (40 : Int32)).toInt32).toInt8.toInt32), 0, 0, 0, 0] := (by have q := A513; rw [show (5 : Int32).toNatClampNeg = 5 from by decide] at q; exact q)
                refine g_iload K 121 at_121 rfl ?_
                refine g_bipush K 123 (6 : Int32) at_123 (by decide) ?_
                refine g_ii_le K 125 139 at_125 (by decide) (by decide) ?_ ?_
                · intro c516
                  exact absurd c516 (by decide)
                · intro c516
                  refine g_aload K 128 at_128 rfl rfl ?_
                  refine g_bipush K 130 (6 : Int32) at_130 (by decide) ?_
                  refine g_lloadN K 132 at_132 rfl ?_
                  refine g_bipush K 133 (48 : Int32) at_133 (by decide) ?_
                  refine g_lushr K 135 at_135 ?_
                  refine g_l2i K 136 at_136 ?_
                  refine g_i2b K 137 at_137 ?_
                  refine g_bastore K 138 at_138 A515 (by decide) (show (6 : Int32).toNatClampNeg < 10 from by decide) g477 ?_
                  intro h517 Kp518 A519
                  have Z520 := Nat.le_trans Z514 Kp518.1
                  have A521 : IA Z h517 a472 .byte [nar .byte q1.toInt32.toInt8.toInt32, nar .byte (((XT.ushrL q1 (8 : Int32)).toInt32).toInt8.toInt32), nar .byte (((XT.ushrL q1 (16 : Int32)).toInt32).toInt8.toInt32), nar .byte (((XT.ushrL q1 (24 : Int32)).toInt32).toInt8.toInt32), nar .byte (((XT.ushrL q1 (32 : Int32)).toInt32).toInt8.toInt32), nar .byte (((XT.ushrL q1 (40 : Int32)).toInt32).toInt8.toInt32), nar .byte (((XT.ushrL q1 (48 : Int32)).toInt32).toInt8.toInt32), 0, 0, 0] := (by have q := A519; rw [show (6 : Int32).toNatClampNeg = 6 from by decide] at q; exact q)
                  refine g_iload K 139 at_139 rfl ?_
                  refine g_bipush K 141 (7 : Int32) at_141 (by decide) ?_
                  refine g_ii_le K 143 157 at_143 (by decide) (by decide) ?_ ?_
                  · intro c522
                    exact absurd c522 (by decide)
                  · intro c522
                    refine g_aload K 146 at_146 rfl rfl ?_
                    refine g_bipush K 148 (7 : Int32) at_148 (by decide) ?_
                    refine g_lloadN K 150 at_150 rfl ?_
                    refine g_bipush K 151 (56 : Int32) at_151 (by decide) ?_
                    refine g_lushr K 153 at_153 ?_
                    refine g_l2i K 154 at_154 ?_
                    refine g_i2b K 155 at_155 ?_
                    refine g_bastore K 156 at_156 A521 (by decide) (show (7 : Int32).toNatClampNeg < 10 from by decide) g477 ?_
                    intro h523 Kp524 A525
                    have Z526 := Nat.le_trans Z520 Kp524.1
                    have A527 : IA Z h523 a472 .byte [nar .byte q1.toInt32.toInt8.toInt32, nar .byte (((XT.ushrL q1 (8 : Int32)).toInt32).toInt8.toInt32), nar .byte (((XT.ushrL q1 (16 : Int32)).toInt32).toInt8.toInt32), nar .byte (((XT.ushrL q1 (24 : Int32)).toInt32).toInt8.toInt32), nar .byte (((XT.ushrL q1 (32 : Int32)).toInt32).toInt8.toInt32), nar .byte (((XT.ushrL q1 (40 : Int32)).toInt32).toInt8.toInt32), nar .byte (((XT.ushrL q1 (48 : Int32)).toInt32).toInt8.toInt32), nar .byte (((XT.ushrL q1 (56 : Int32)).toInt32).toInt8.toInt32), 0, 0] := (by have q := A525; rw [show (7 : Int32).toNatClampNeg = 7 from by decide] at q; exact q)
                    refine g_iload K 157 at_157 rfl ?_
                    refine g_bipush K 159 (8 : Int32) at_159 (by decide) ?_
                    refine g_ii_le K 161 171 at_161 (by decide) (by decide) ?_ ?_
                    · intro c528
                      exact absurd c528 (by decide)
                    · intro c528
                      refine g_aload K 164 at_164 rfl rfl ?_
                      refine g_bipush K 166 (8 : Int32) at_166 (by decide) ?_
                      refine g_iloadN K 168 at_168 rfl ?_
                      refine g_i2b K 169 at_169 ?_
                      refine g_bastore K 170 at_170 A527 (by decide) (show (8 : Int32).toNatClampNeg < 10 from by decide) g477 ?_
                      intro h529 Kp530 A531
                      have Z532 := Nat.le_trans Z526 Kp530.1
                      have A533 : IA Z h529 a472 .byte [nar .byte q1.toInt32.toInt8.toInt32, nar .byte (((XT.ushrL q1 (8 : Int32)).toInt32).toInt8.toInt32), nar .byte (((XT.ushrL q1 (16 : Int32)).toInt32).toInt8.toInt32), nar .byte (((XT.ushrL q1 (24 : Int32)).toInt32).toInt8.toInt32), nar .byte (((XT.ushrL q1 (32 : Int32)).toInt32).toInt8.toInt32), nar .byte (((XT.ushrL q1 (40 : Int32)).toInt32).toInt8.toInt32), nar .byte (((XT.ushrL q1 (48 : Int32)).toInt32).toInt8.toInt32), nar .byte (((XT.ushrL q1 (56 : Int32)).toInt32).toInt8.toInt32), nar .byte p2.toInt8.toInt32, 0] := (by have q := A531; rw [show (8 : Int32).toNatClampNeg = 8 from by decide] at q; exact q)
                      refine g_iload K 171 at_171 rfl ?_
                      refine g_bipush K 173 (9 : Int32) at_173 (by decide) ?_
                      refine g_ii_le K 175 188 at_175 (by decide) (by decide) ?_ ?_
                      · intro c534
                        exact absurd c534 (by decide)
                      · intro c534
                        refine g_aload K 178 at_178 rfl rfl ?_
                        refine g_bipush K 180 (9 : Int32) at_180 (by decide) ?_
                        refine g_iloadN K 182 at_182 rfl ?_
                        refine g_bipush K 183 (8 : Int32) at_183 (by decide) ?_
                        refine g_iushr K 185 at_185 ?_
                        refine g_i2b K 186 at_186 ?_
                        refine g_bastore K 187 at_187 A533 (by decide) (show (9 : Int32).toNatClampNeg < 10 from by decide) g477 ?_
                        intro h535 Kp536 A537
                        have Z538 := Nat.le_trans Z532 Kp536.1
                        have A539 : IA Z h535 a472 .byte [nar .byte q1.toInt32.toInt8.toInt32, nar .byte (((XT.ushrL q1 (8 : Int32)).toInt32).toInt8.toInt32), nar .byte (((XT.ushrL q1 (16 : Int32)).toInt32).toInt8.toInt32), nar .byte (((XT.ushrL q1 (24 : Int32)).toInt32).toInt8.toInt32), nar .byte (((XT.ushrL q1 (32 : Int32)).toInt32).toInt8.toInt32), nar .byte (((XT.ushrL q1 (40 : Int32)).toInt32).toInt8.toInt32), nar .byte (((XT.ushrL q1 (48 : Int32)).toInt32).toInt8.toInt32), nar .byte (((XT.ushrL q1 (56 : Int32)).toInt32).toInt8.toInt32), nar .byte p2.toInt8.toInt32, nar .byte ((XT.ushr p2 (8 : Int32)).toInt8.toInt32)] := (by have q := A537; rw [show (9 : Int32).toNatClampNeg = 9 from by decide] at q; exact q)
                        refine g_iload K 188 at_188 rfl ?_
                        refine g_bipush K 190 (10 : Int32) at_190 (by decide) ?_
                        refine g_ii_le K 192 205 at_192 (by decide) (by decide) ?_ ?_
                        · intro c540
                          refine g_iload K 205 at_205 rfl ?_
                          refine g_iconst K 207 (4 : Int32) at_207 (by decide) ?_
                          refine g_idiv K 208 at_208 (by decide) ?_
                          rw [show ((10 : Int32) / (4 : Int32)) = (2 : Int32) from by decide]
                          refine g_istore K 209 #[.val (.int p0), .val (.long q1), .second, .val (.int p2), .val (.int (10 : Int32)), .val (.int q1.toInt32), .val (.int (XT.ushrL q1 (32 : Int32)).toInt32), .val (.int p2), .val (.ref a472), .val (.int (2 : Int32)), .unset, .unset, .unset, .unset] at_209 rfl ?_
                          refine g_iload K 211 at_211 rfl ?_
                          refine g_iconst K 213 (4 : Int32) at_213 (by decide) ?_
                          refine g_irem K 214 at_214 (by decide) ?_
                          rw [show ((10 : Int32) % (4 : Int32)) = (2 : Int32) from by decide]
                          refine g_istore K 215 #[.val (.int p0), .val (.long q1), .second, .val (.int p2), .val (.int (10 : Int32)), .val (.int q1.toInt32), .val (.int (XT.ushrL q1 (32 : Int32)).toInt32), .val (.int p2), .val (.ref a472), .val (.int (2 : Int32)), .val (.int (2 : Int32)), .unset, .unset, .unset] at_215 rfl ?_
                          refine g_ldc K 217 (v := (-1756908916 : Int32)) at_217 (tw hw 2 rfl) ?_
                          refine g_iload K 219 at_219 rfl ?_
                          refine g_ixor K 221 at_221 ?_
                          rw [show ((-1756908916 : Int32) ^^^ (10 : Int32)) = (-1756908922 : Int32) from by decide]
                          refine g_istore K 222 #[.val (.int p0), .val (.long q1), .second, .val (.int p2), .val (.int (10 : Int32)), .val (.int q1.toInt32), .val (.int (XT.ushrL q1 (32 : Int32)).toInt32), .val (.int p2), .val (.ref a472), .val (.int (2 : Int32)), .val (.int (2 : Int32)), .val (.int (-1756908922 : Int32)), .unset, .unset] at_222 rfl ?_
                          refine g_iload K 224 at_224 rfl ?_
                          refine g_iconst K 226 (1 : Int32) at_226 (by decide) ?_
                          refine g_ii_lt K 227 243 at_227 (by decide) (by decide) ?_ ?_
                          · intro c541
                            exact absurd c541 (by decide)
                          · intro c541
                            refine g_iload K 230 at_230 rfl ?_
                            refine g_ldc K 232 (v := (1540483477 : Int32)) at_232 (tw hw 13 rfl) ?_
                            refine g_imul K 234 at_234 ?_
                            rw [show ((-1756908922 : Int32) * (1540483477 : Int32)) = (-1348674050 : Int32) from by decide]
                            refine g_iload K 235 at_235 rfl ?_
                            refine g_callS K 237 [(.int q1.toInt32)] 1 at_237 (rm_mixK l Z a0 hw q1.toInt32 h535 n0 Z538  ) (tw hw 14 rfl) (tw hw 15 rfl) (tw hw 11 rfl) (tw hw 16 rfl) (by decide) pd1 rfl (st := [(.int (-1348674050 : Int32))]) rfl (Nat.le_of_eq rfl) rfl (by decide) (by decide) (by decide) (by decide) ?_
                            rintro _ _ ⟨hv, hh⟩
                            rw [hv, hh]
                            clear hv hh
                            refine go_cast (k' := (0 + 1)) (n' := (0 + 10)) (st' := [(.int (f_mixK q1.toInt32)), (.int (-1348674050 : Int32))]) rfl rfl rfl ?_
                            refine g_ixor K 240 at_240 ?_
                            refine g_istore K 241 #[.val (.int p0), .val (.long q1), .second, .val (.int p2), .val (.int (10 : Int32)), .val (.int q1.toInt32), .val (.int (XT.ushrL q1 (32 : Int32)).toInt32), .val (.int p2), .val (.ref a472), .val (.int (2 : Int32)), .val (.int (2 : Int32)), .val (.int ((-1348674050 : Int32) ^^^ (f_mixK q1.toInt32))), .unset, .unset] at_241 rfl ?_
                            refine g_iload K 243 at_243 rfl ?_
                            refine g_iconst K 245 (2 : Int32) at_245 (by decide) ?_
                            refine g_ii_lt K 246 262 at_246 (by decide) (by decide) ?_ ?_
                            · intro c542
                              exact absurd c542 (by decide)
                            · intro c542
                              refine g_iload K 249 at_249 rfl ?_
                              refine g_ldc K 251 (v := (1540483477 : Int32)) at_251 (tw hw 13 rfl) ?_
                              refine g_imul K 253 at_253 ?_
                              refine g_iload K 254 at_254 rfl ?_
                              refine g_callS K 256 [(.int (XT.ushrL q1 (32 : Int32)).toInt32)] 1 at_256 (rm_mixK l Z a0 hw ((XT.ushrL q1 (32 : Int32)).toInt32) h535 n0 Z538  ) (tw hw 14 rfl) (tw hw 15 rfl) (tw hw 11 rfl) (tw hw 16 rfl) (by decide) pd1 rfl (st := [(.int (((-1348674050 : Int32) ^^^ (f_mixK q1.toInt32)) * (1540483477 : Int32)))]) rfl (Nat.le_of_eq rfl) rfl (by decide) (by decide) (by decide) (by decide) ?_
                              rintro _ _ ⟨hv, hh⟩
                              rw [hv, hh]
                              clear hv hh
                              refine go_cast (k' := (0 + 1)) (n' := (0 + 10)) (st' := [(.int (f_mixK ((XT.ushrL q1 (32 : Int32)).toInt32))), (.int (((-1348674050 : Int32) ^^^ (f_mixK q1.toInt32)) * (1540483477 : Int32)))]) rfl rfl rfl ?_
                              refine g_ixor K 259 at_259 ?_
                              refine g_istore K 260 #[.val (.int p0), .val (.long q1), .second, .val (.int p2), .val (.int (10 : Int32)), .val (.int q1.toInt32), .val (.int (XT.ushrL q1 (32 : Int32)).toInt32), .val (.int p2), .val (.ref a472), .val (.int (2 : Int32)), .val (.int (2 : Int32)), .val (.int ((((-1348674050 : Int32) ^^^ (f_mixK q1.toInt32)) * (1540483477 : Int32)) ^^^ (f_mixK ((XT.ushrL q1 (32 : Int32)).toInt32)))), .unset, .unset] at_260 rfl ?_
                              refine g_iload K 262 at_262 rfl ?_
                              refine g_if_ne K 264 272 at_264 (by decide) (by decide) ?_ ?_
                              · intro c543
                                refine g_iload K 272 at_272 rfl ?_
                                refine g_iconst K 274 (1 : Int32) at_274 (by decide) ?_
                                refine g_ii_ne K 275 283 at_275 (by decide) (by decide) ?_ ?_
                                · intro c544
                                  refine g_iload K 283 at_283 rfl ?_
                                  refine g_istore K 285 #[.val (.int p0), .val (.long q1), .second, .val (.int p2), .val (.int (10 : Int32)), .val (.int q1.toInt32), .val (.int (XT.ushrL q1 (32 : Int32)).toInt32), .val (.int p2), .val (.ref a472), .val (.int (2 : Int32)), .val (.int (2 : Int32)), .val (.int ((((-1348674050 : Int32) ^^^ (f_mixK q1.toInt32)) * (1540483477 : Int32)) ^^^ (f_mixK ((XT.ushrL q1 (32 : Int32)).toInt32)))), .val (.int p2), .unset] at_285 rfl ?_
                                  refine g_iload K 287 at_287 rfl ?_
                                  refine g_if_le K 289 316 at_289 (by decide) (by decide) ?_ ?_
                                  · intro c545
                                    exact absurd c545 (by decide)
                                  · intro c545
                                    refine g_iconst K 292 (1 : Int32) at_292 (by decide) ?_
                                    refine g_bipush K 293 (8 : Int32) at_293 (by decide) ?_
                                    refine g_iload K 295 at_295 rfl ?_
                                    refine g_imul K 297 at_297 ?_
                                    rw [show ((8 : Int32) * (2 : Int32)) = (16 : Int32) from by decide]
                                    refine g_ishl K 298 at_298 ?_
                                    rw [show ((1 : Int32) <<< ((16 : Int32) &&& 31)) = (65536 : Int32) from by decide]
                                    refine g_iconst K 299 (1 : Int32) at_299 (by decide) ?_
                                    refine g_isub K 300 at_300 ?_
                                    rw [show ((65536 : Int32) - (1 : Int32)) = (65535 : Int32) from by decide]
                                    refine g_istore K 301 #[.val (.int p0), .val (.long q1), .second, .val (.int p2), .val (.int (10 : Int32)), .val (.int q1.toInt32), .val (.int (XT.ushrL q1 (32 : Int32)).toInt32), .val (.int p2), .val (.ref a472), .val (.int (2 : Int32)), .val (.int (2 : Int32)), .val (.int ((((-1348674050 : Int32) ^^^ (f_mixK q1.toInt32)) * (1540483477 : Int32)) ^^^ (f_mixK ((XT.ushrL q1 (32 : Int32)).toInt32)))), .val (.int p2), .val (.int (65535 : Int32))] at_301 rfl ?_
                                    refine g_iload K 303 at_303 rfl ?_
                                    refine g_iload K 305 at_305 rfl ?_
                                    refine g_iload K 307 at_307 rfl ?_
                                    refine g_iand K 309 at_309 ?_
                                    refine g_ixor K 310 at_310 ?_
                                    refine g_ldc K 311 (v := (1540483477 : Int32)) at_311 (tw hw 13 rfl) ?_
                                    refine g_imul K 313 at_313 ?_
                                    refine g_istore K 314 #[.val (.int p0), .val (.long q1), .second, .val (.int p2), .val (.int (10 : Int32)), .val (.int q1.toInt32), .val (.int (XT.ushrL q1 (32 : Int32)).toInt32), .val (.int p2), .val (.ref a472), .val (.int (2 : Int32)), .val (.int (2 : Int32)), .val (.int ((((((-1348674050 : Int32) ^^^ (f_mixK q1.toInt32)) * (1540483477 : Int32)) ^^^ (f_mixK ((XT.ushrL q1 (32 : Int32)).toInt32))) ^^^ (p2 &&& (65535 : Int32))) * (1540483477 : Int32))), .val (.int p2), .val (.int (65535 : Int32))] at_314 rfl ?_
                                    refine g_aload K 316 at_316 rfl rfl ?_
                                    refine g_callS K 318 [(.ref a472)] 0 at_318 (rm_mur10 l Z a0 hw a472 h535 n0 Z538 (nar .byte q1.toInt32.toInt8.toInt32) (nar .byte (((XT.ushrL q1 (8 : Int32)).toInt32).toInt8.toInt32)) (nar .byte (((XT.ushrL q1 (16 : Int32)).toInt32).toInt8.toInt32)) (nar .byte (((XT.ushrL q1 (24 : Int32)).toInt32).toInt8.toInt32)) (nar .byte (((XT.ushrL q1 (32 : Int32)).toInt32).toInt8.toInt32)) (nar .byte (((XT.ushrL q1 (40 : Int32)).toInt32).toInt8.toInt32)) (nar .byte (((XT.ushrL q1 (48 : Int32)).toInt32).toInt8.toInt32)) (nar .byte (((XT.ushrL q1 (56 : Int32)).toInt32).toInt8.toInt32)) (nar .byte p2.toInt8.toInt32) (nar .byte ((XT.ushr p2 (8 : Int32)).toInt8.toInt32)) A539) (tw hw 3 rfl) (tw hw 4 rfl) (tw hw 5 rfl) (tw hw 6 rfl) (by decide) pd0 rfl (st := []) rfl (Nat.le_of_eq rfl) rfl (by decide) (by decide) (by decide) (by decide) ?_
                                    rintro _ _ ⟨hv, hh⟩
                                    rw [hv, hh]
                                    clear hv hh
                                    refine go_cast (k' := (0 + 1)) (n' := (0 + 10)) (st' := [(.int (f_mur10 (nar .byte q1.toInt32.toInt8.toInt32) (nar .byte (((XT.ushrL q1 (8 : Int32)).toInt32).toInt8.toInt32)) (nar .byte (((XT.ushrL q1 (16 : Int32)).toInt32).toInt8.toInt32)) (nar .byte (((XT.ushrL q1 (24 : Int32)).toInt32).toInt8.toInt32)) (nar .byte (((XT.ushrL q1 (32 : Int32)).toInt32).toInt8.toInt32)) (nar .byte (((XT.ushrL q1 (40 : Int32)).toInt32).toInt8.toInt32)) (nar .byte (((XT.ushrL q1 (48 : Int32)).toInt32).toInt8.toInt32)) (nar .byte (((XT.ushrL q1 (56 : Int32)).toInt32).toInt8.toInt32)) (nar .byte p2.toInt8.toInt32) (nar .byte ((XT.ushr p2 (8 : Int32)).toInt8.toInt32))))]) rfl rfl rfl ?_
                                    refine g_iload K 321 at_321 rfl ?_
                                    refine g_callS K 323 [(.int ((((((-1348674050 : Int32) ^^^ (f_mixK q1.toInt32)) * (1540483477 : Int32)) ^^^ (f_mixK ((XT.ushrL q1 (32 : Int32)).toInt32))) ^^^ (p2 &&& (65535 : Int32))) * (1540483477 : Int32)))] 1 at_323 (rm_fin l Z a0 hw ((((((-1348674050 : Int32) ^^^ (f_mixK q1.toInt32)) * (1540483477 : Int32)) ^^^ (f_mixK ((XT.ushrL q1 (32 : Int32)).toInt32))) ^^^ (p2 &&& (65535 : Int32))) * (1540483477 : Int32)) h535 n0 Z538  ) (tw hw 9 rfl) (tw hw 10 rfl) (tw hw 11 rfl) (tw hw 12 rfl) (by decide) pd1 rfl (st := [(.int (f_mur10 (nar .byte q1.toInt32.toInt8.toInt32) (nar .byte (((XT.ushrL q1 (8 : Int32)).toInt32).toInt8.toInt32)) (nar .byte (((XT.ushrL q1 (16 : Int32)).toInt32).toInt8.toInt32)) (nar .byte (((XT.ushrL q1 (24 : Int32)).toInt32).toInt8.toInt32)) (nar .byte (((XT.ushrL q1 (32 : Int32)).toInt32).toInt8.toInt32)) (nar .byte (((XT.ushrL q1 (40 : Int32)).toInt32).toInt8.toInt32)) (nar .byte (((XT.ushrL q1 (48 : Int32)).toInt32).toInt8.toInt32)) (nar .byte (((XT.ushrL q1 (56 : Int32)).toInt32).toInt8.toInt32)) (nar .byte p2.toInt8.toInt32) (nar .byte ((XT.ushr p2 (8 : Int32)).toInt8.toInt32))))]) rfl (Nat.le_of_eq rfl) rfl (by decide) (by decide) (by decide) (by decide) ?_
                                    rintro _ _ ⟨hv, hh⟩
                                    rw [hv, hh]
                                    clear hv hh
                                    refine go_cast (k' := (0 + 1)) (n' := (0 + 10)) (st' := [(.int (f_fin ((((((-1348674050 : Int32) ^^^ (f_mixK q1.toInt32)) * (1540483477 : Int32)) ^^^ (f_mixK ((XT.ushrL q1 (32 : Int32)).toInt32))) ^^^ (p2 &&& (65535 : Int32))) * (1540483477 : Int32)))), (.int (f_mur10 (nar .byte q1.toInt32.toInt8.toInt32) (nar .byte (((XT.ushrL q1 (8 : Int32)).toInt32).toInt8.toInt32)) (nar .byte (((XT.ushrL q1 (16 : Int32)).toInt32).toInt8.toInt32)) (nar .byte (((XT.ushrL q1 (24 : Int32)).toInt32).toInt8.toInt32)) (nar .byte (((XT.ushrL q1 (32 : Int32)).toInt32).toInt8.toInt32)) (nar .byte (((XT.ushrL q1 (40 : Int32)).toInt32).toInt8.toInt32)) (nar .byte (((XT.ushrL q1 (48 : Int32)).toInt32).toInt8.toInt32)) (nar .byte (((XT.ushrL q1 (56 : Int32)).toInt32).toInt8.toInt32)) (nar .byte p2.toInt8.toInt32) (nar .byte ((XT.ushr p2 (8 : Int32)).toInt8.toInt32))))]) rfl rfl rfl ?_
                                    refine g_ii_ne K 326 333 at_326 (by decide) (by decide) ?_ ?_
                                    · intro c546
                                      exfalso
                                      exact c546 (own_mur10 q1 p2)
                                    · intro c546
                                      refine g_iconst K 329 (1 : Int32) at_329 (by decide) ?_
                                      refine g_goto K 330 334 at_330 (by decide) (by decide) ?_
                                      refine g_retN K 334 .boolean at_334 rfl (by simp) (by decide) (by decide) ?_
                                      rw [hQ]
                                      rfl
                                · intro c544
                                  exact absurd c544 (by decide)
                              · intro c543
                                exact absurd c543 (by decide)
                        · intro c540
                          exact absurd c540 (by decide)
  · rw [hn]
    refine g_istore K 7 #[.val (.int p0), .val (.long q1), .second, .val (.int p2), .val (.int (11 : Int32)), .unset, .unset, .unset, .unset, .unset, .unset, .unset, .unset, .unset] at_7 rfl ?_
    refine g_lloadN K 9 at_9 rfl ?_
    refine g_l2i K 10 at_10 ?_
    refine g_istore K 11 #[.val (.int p0), .val (.long q1), .second, .val (.int p2), .val (.int (11 : Int32)), .val (.int q1.toInt32), .unset, .unset, .unset, .unset, .unset, .unset, .unset, .unset] at_11 rfl ?_
    refine g_lloadN K 13 at_13 rfl ?_
    refine g_bipush K 14 (32 : Int32) at_14 (by decide) ?_
    refine g_lushr K 16 at_16 ?_
    refine g_l2i K 17 at_17 ?_
    refine g_istore K 18 #[.val (.int p0), .val (.long q1), .second, .val (.int p2), .val (.int (11 : Int32)), .val (.int q1.toInt32), .val (.int (XT.ushrL q1 (32 : Int32)).toInt32), .unset, .unset, .unset, .unset, .unset, .unset, .unset] at_18 rfl ?_
    refine g_iloadN K 20 at_20 rfl ?_
    refine g_istore K 21 #[.val (.int p0), .val (.long q1), .second, .val (.int p2), .val (.int (11 : Int32)), .val (.int q1.toInt32), .val (.int (XT.ushrL q1 (32 : Int32)).toInt32), .val (.int p2), .unset, .unset, .unset, .unset, .unset, .unset] at_21 rfl ?_
    refine g_iload K 23 at_23 rfl ?_
    refine g_newI K 25 .byte at_25 rfl rfl (tw hw 1 rfl) (by decide) 11 (by decide) (by decide) (by decide) (by decide) ?_
    intro h548 a547 eq551 Kp549 A550
    have g552 : n0 ≤ a547 := eq551 ▸ Z0
    have Z553 := Nat.le_trans Z0 Kp549.1
    have A554 : IA Z h548 a547 .byte [0, 0, 0, 0, 0, 0, 0, 0, 0, 0, 0] := (by have q := A550; rw [show (11 : Int32).toNatClampNeg = 11 from by decide] at q; exact q)
    refine g_astore K 27 #[.val (.int p0), .val (.long q1), .second, .val (.int p2), .val (.int (11 : Int32)), .val (.int q1.toInt32), .val (.int (XT.ushrL q1 (32 : Int32)).toInt32), .val (.int p2), .val (.ref a547), .unset, .unset, .unset, .unset, .unset] at_27 rfl rfl ?_
    refine g_iload K 29 at_29 rfl ?_
    refine g_if_le K 31 41 at_31 (by decide) (by decide) ?_ ?_
    · intro c555
      exact absurd c555 (by decide)
    · intro c555
      refine g_aload K 34 at_34 rfl rfl ?_
      refine g_iconst K 36 (0 : Int32) at_36 (by decide) ?_
      refine g_lloadN K 37 at_37 rfl ?_
      refine g_l2i K 38 at_38 ?_
      refine g_i2b K 39 at_39 ?_
      refine g_bastore K 40 at_40 A554 (by decide) (show (0 : Int32).toNatClampNeg < 11 from by decide) g552 ?_
      intro h556 Kp557 A558
      have Z559 := Nat.le_trans Z553 Kp557.1
      have A560 : IA Z h556 a547 .byte [nar .byte q1.toInt32.toInt8.toInt32, 0, 0, 0, 0, 0, 0, 0, 0, 0, 0] := (by have q := A558; rw [show (0 : Int32).toNatClampNeg = 0 from by decide] at q; exact q)
      refine g_iload K 41 at_41 rfl ?_
      refine g_iconst K 43 (1 : Int32) at_43 (by decide) ?_
      refine g_ii_le K 44 57 at_44 (by decide) (by decide) ?_ ?_
      · intro c561
        exact absurd c561 (by decide)
      · intro c561
        refine g_aload K 47 at_47 rfl rfl ?_
        refine g_iconst K 49 (1 : Int32) at_49 (by decide) ?_
        refine g_lloadN K 50 at_50 rfl ?_
        refine g_bipush K 51 (8 : Int32) at_51 (by decide) ?_
        refine g_lushr K 53 at_53 ?_
        refine g_l2i K 54 at_54 ?_
        refine g_i2b K 55 at_55 ?_
        refine g_bastore K 56 at_56 A560 (by decide) (show (1 : Int32).toNatClampNeg < 11 from by decide) g552 ?_
        intro h562 Kp563 A564
        have Z565 := Nat.le_trans Z559 Kp563.1
        have A566 : IA Z h562 a547 .byte [nar .byte q1.toInt32.toInt8.toInt32, nar .byte (((XT.ushrL q1 (8 : Int32)).toInt32).toInt8.toInt32), 0, 0, 0, 0, 0, 0, 0, 0, 0] := (by have q := A564; rw [show (1 : Int32).toNatClampNeg = 1 from by decide] at q; exact q)
        refine g_iload K 57 at_57 rfl ?_
        refine g_iconst K 59 (2 : Int32) at_59 (by decide) ?_
        refine g_ii_le K 60 73 at_60 (by decide) (by decide) ?_ ?_
        · intro c567
          exact absurd c567 (by decide)
        · intro c567
          refine g_aload K 63 at_63 rfl rfl ?_
          refine g_iconst K 65 (2 : Int32) at_65 (by decide) ?_
          refine g_lloadN K 66 at_66 rfl ?_
          refine g_bipush K 67 (16 : Int32) at_67 (by decide) ?_
          refine g_lushr K 69 at_69 ?_
          refine g_l2i K 70 at_70 ?_
          refine g_i2b K 71 at_71 ?_
          refine g_bastore K 72 at_72 A566 (by decide) (show (2 : Int32).toNatClampNeg < 11 from by decide) g552 ?_
          intro h568 Kp569 A570
          have Z571 := Nat.le_trans Z565 Kp569.1
          have A572 : IA Z h568 a547 .byte [nar .byte q1.toInt32.toInt8.toInt32, nar .byte (((XT.ushrL q1 (8 : Int32)).toInt32).toInt8.toInt32), nar .byte (((XT.ushrL q1 (16 : Int32)).toInt32).toInt8.toInt32), 0, 0, 0, 0, 0, 0, 0, 0] := (by have q := A570; rw [show (2 : Int32).toNatClampNeg = 2 from by decide] at q; exact q)
          refine g_iload K 73 at_73 rfl ?_
          refine g_iconst K 75 (3 : Int32) at_75 (by decide) ?_
          refine g_ii_le K 76 89 at_76 (by decide) (by decide) ?_ ?_
          · intro c573
            exact absurd c573 (by decide)
          · intro c573
            refine g_aload K 79 at_79 rfl rfl ?_
            refine g_iconst K 81 (3 : Int32) at_81 (by decide) ?_
            refine g_lloadN K 82 at_82 rfl ?_
            refine g_bipush K 83 (24 : Int32) at_83 (by decide) ?_
            refine g_lushr K 85 at_85 ?_
            refine g_l2i K 86 at_86 ?_
            refine g_i2b K 87 at_87 ?_
            refine g_bastore K 88 at_88 A572 (by decide) (show (3 : Int32).toNatClampNeg < 11 from by decide) g552 ?_
            intro h574 Kp575 A576
            have Z577 := Nat.le_trans Z571 Kp575.1
            have A578 : IA Z h574 a547 .byte [nar .byte q1.toInt32.toInt8.toInt32, nar .byte (((XT.ushrL q1 (8 : Int32)).toInt32).toInt8.toInt32), nar .byte (((XT.ushrL q1 (16 : Int32)).toInt32).toInt8.toInt32), nar .byte (((XT.ushrL q1 (24 : Int32)).toInt32).toInt8.toInt32), 0, 0, 0, 0, 0, 0, 0] := (by have q := A576; rw [show (3 : Int32).toNatClampNeg = 3 from by decide] at q; exact q)
            refine g_iload K 89 at_89 rfl ?_
            refine g_iconst K 91 (4 : Int32) at_91 (by decide) ?_
            refine g_ii_le K 92 105 at_92 (by decide) (by decide) ?_ ?_
            · intro c579
              exact absurd c579 (by decide)
            · intro c579
              refine g_aload K 95 at_95 rfl rfl ?_
              refine g_iconst K 97 (4 : Int32) at_97 (by decide) ?_
              refine g_lloadN K 98 at_98 rfl ?_
              refine g_bipush K 99 (32 : Int32) at_99 (by decide) ?_
              refine g_lushr K 101 at_101 ?_
              refine g_l2i K 102 at_102 ?_
              refine g_i2b K 103 at_103 ?_
              refine g_bastore K 104 at_104 A578 (by decide) (show (4 : Int32).toNatClampNeg < 11 from by decide) g552 ?_
              intro h580 Kp581 A582
              have Z583 := Nat.le_trans Z577 Kp581.1
              have A584 : IA Z h580 a547 .byte [nar .byte q1.toInt32.toInt8.toInt32, nar .byte (((XT.ushrL q1 (8 : Int32)).toInt32).toInt8.toInt32), nar .byte (((XT.ushrL q1 (16 : Int32)).toInt32).toInt8.toInt32), nar .byte (((XT.ushrL q1 (24 : Int32)).toInt32).toInt8.toInt32), nar .byte (((XT.ushrL q1 (32 : Int32)).toInt32).toInt8.toInt32), 0, 0, 0, 0, 0, 0] := (by have q := A582; rw [show (4 : Int32).toNatClampNeg = 4 from by decide] at q; exact q)
              refine g_iload K 105 at_105 rfl ?_
              refine g_iconst K 107 (5 : Int32) at_107 (by decide) ?_
              refine g_ii_le K 108 121 at_108 (by decide) (by decide) ?_ ?_
              · intro c585
                exact absurd c585 (by decide)
              · intro c585
                refine g_aload K 111 at_111 rfl rfl ?_
                refine g_iconst K 113 (5 : Int32) at_113 (by decide) ?_
                refine g_lloadN K 114 at_114 rfl ?_
                refine g_bipush K 115 (40 : Int32) at_115 (by decide) ?_
                refine g_lushr K 117 at_117 ?_
                refine g_l2i K 118 at_118 ?_
                refine g_i2b K 119 at_119 ?_
                refine g_bastore K 120 at_120 A584 (by decide) (show (5 : Int32).toNatClampNeg < 11 from by decide) g552 ?_
                intro h586 Kp587 A588
                have Z589 := Nat.le_trans Z583 Kp587.1
                have A590 : IA Z h586 a547 .byte [nar .byte q1.toInt32.toInt8.toInt32, nar .byte (((XT.ushrL q1 (8 : Int32)).toInt32).toInt8.toInt32), nar .byte (((XT.ushrL q1 (16 : Int32)).toInt32).toInt8.toInt32), nar .byte (((XT.ushrL q1 (24 : Int32)).toInt32).toInt8.toInt32), nar .byte (((XT.ushrL q1 (32 : Int32)).toInt32).toInt8.toInt32), nar .byte (((XT.ushrL q1 (40 : Int32)).toInt32).toInt8.toInt32), 0, 0, 0, 0, 0] := (by have q := A588; rw [show (5 : Int32).toNatClampNeg = 5 from by decide] at q; exact q)
                refine g_iload K 121 at_121 rfl ?_
                refine g_bipush K 123 (6 : Int32) at_123 (by decide) ?_
                refine g_ii_le K 125 139 at_125 (by decide) (by decide) ?_ ?_
                · intro c591
                  exact absurd c591 (by decide)
                · intro c591
                  refine g_aload K 128 at_128 rfl rfl ?_
                  refine g_bipush K 130 (6 : Int32) at_130 (by decide) ?_
                  refine g_lloadN K 132 at_132 rfl ?_
                  refine g_bipush K 133 (48 : Int32) at_133 (by decide) ?_
                  refine g_lushr K 135 at_135 ?_
                  refine g_l2i K 136 at_136 ?_
                  refine g_i2b K 137 at_137 ?_
                  refine g_bastore K 138 at_138 A590 (by decide) (show (6 : Int32).toNatClampNeg < 11 from by decide) g552 ?_
                  intro h592 Kp593 A594
                  have Z595 := Nat.le_trans Z589 Kp593.1
                  have A596 : IA Z h592 a547 .byte [nar .byte q1.toInt32.toInt8.toInt32, nar .byte (((XT.ushrL q1 (8 : Int32)).toInt32).toInt8.toInt32), nar .byte (((XT.ushrL q1 (16 : Int32)).toInt32).toInt8.toInt32), nar .byte (((XT.ushrL q1 (24 : Int32)).toInt32).toInt8.toInt32), nar .byte (((XT.ushrL q1 (32 : Int32)).toInt32).toInt8.toInt32), nar .byte (((XT.ushrL q1 (40 : Int32)).toInt32).toInt8.toInt32), nar .byte (((XT.ushrL q1 (48 : Int32)).toInt32).toInt8.toInt32), 0, 0, 0, 0] := (by have q := A594; rw [show (6 : Int32).toNatClampNeg = 6 from by decide] at q; exact q)
                  refine g_iload K 139 at_139 rfl ?_
                  refine g_bipush K 141 (7 : Int32) at_141 (by decide) ?_
                  refine g_ii_le K 143 157 at_143 (by decide) (by decide) ?_ ?_
                  · intro c597
                    exact absurd c597 (by decide)
                  · intro c597
                    refine g_aload K 146 at_146 rfl rfl ?_
                    refine g_bipush K 148 (7 : Int32) at_148 (by decide) ?_
                    refine g_lloadN K 150 at_150 rfl ?_
                    refine g_bipush K 151 (56 : Int32) at_151 (by decide) ?_
                    refine g_lushr K 153 at_153 ?_
                    refine g_l2i K 154 at_154 ?_
                    refine g_i2b K 155 at_155 ?_
                    refine g_bastore K 156 at_156 A596 (by decide) (show (7 : Int32).toNatClampNeg < 11 from by decide) g552 ?_
                    intro h598 Kp599 A600
                    have Z601 := Nat.le_trans Z595 Kp599.1
                    have A602 : IA Z h598 a547 .byte [nar .byte q1.toInt32.toInt8.toInt32, nar .byte (((XT.ushrL q1 (8 : Int32)).toInt32).toInt8.toInt32), nar .byte (((XT.ushrL q1 (16 : Int32)).toInt32).toInt8.toInt32), nar .byte (((XT.ushrL q1 (24 : Int32)).toInt32).toInt8.toInt32), nar .byte (((XT.ushrL q1 (32 : Int32)).toInt32).toInt8.toInt32), nar .byte (((XT.ushrL q1 (40 : Int32)).toInt32).toInt8.toInt32), nar .byte (((XT.ushrL q1 (48 : Int32)).toInt32).toInt8.toInt32), nar .byte (((XT.ushrL q1 (56 : Int32)).toInt32).toInt8.toInt32), 0, 0, 0] := (by have q := A600; rw [show (7 : Int32).toNatClampNeg = 7 from by decide] at q; exact q)
                    refine g_iload K 157 at_157 rfl ?_
                    refine g_bipush K 159 (8 : Int32) at_159 (by decide) ?_
                    refine g_ii_le K 161 171 at_161 (by decide) (by decide) ?_ ?_
                    · intro c603
                      exact absurd c603 (by decide)
                    · intro c603
                      refine g_aload K 164 at_164 rfl rfl ?_
                      refine g_bipush K 166 (8 : Int32) at_166 (by decide) ?_
                      refine g_iloadN K 168 at_168 rfl ?_
                      refine g_i2b K 169 at_169 ?_
                      refine g_bastore K 170 at_170 A602 (by decide) (show (8 : Int32).toNatClampNeg < 11 from by decide) g552 ?_
                      intro h604 Kp605 A606
                      have Z607 := Nat.le_trans Z601 Kp605.1
                      have A608 : IA Z h604 a547 .byte [nar .byte q1.toInt32.toInt8.toInt32, nar .byte (((XT.ushrL q1 (8 : Int32)).toInt32).toInt8.toInt32), nar .byte (((XT.ushrL q1 (16 : Int32)).toInt32).toInt8.toInt32), nar .byte (((XT.ushrL q1 (24 : Int32)).toInt32).toInt8.toInt32), nar .byte (((XT.ushrL q1 (32 : Int32)).toInt32).toInt8.toInt32), nar .byte (((XT.ushrL q1 (40 : Int32)).toInt32).toInt8.toInt32), nar .byte (((XT.ushrL q1 (48 : Int32)).toInt32).toInt8.toInt32), nar .byte (((XT.ushrL q1 (56 : Int32)).toInt32).toInt8.toInt32), nar .byte p2.toInt8.toInt32, 0, 0] := (by have q := A606; rw [show (8 : Int32).toNatClampNeg = 8 from by decide] at q; exact q)
                      refine g_iload K 171 at_171 rfl ?_
                      refine g_bipush K 173 (9 : Int32) at_173 (by decide) ?_
                      refine g_ii_le K 175 188 at_175 (by decide) (by decide) ?_ ?_
                      · intro c609
                        exact absurd c609 (by decide)
                      · intro c609
                        refine g_aload K 178 at_178 rfl rfl ?_
                        refine g_bipush K 180 (9 : Int32) at_180 (by decide) ?_
                        refine g_iloadN K 182 at_182 rfl ?_
                        refine g_bipush K 183 (8 : Int32) at_183 (by decide) ?_
                        refine g_iushr K 185 at_185 ?_
                        refine g_i2b K 186 at_186 ?_
                        refine g_bastore K 187 at_187 A608 (by decide) (show (9 : Int32).toNatClampNeg < 11 from by decide) g552 ?_
                        intro h610 Kp611 A612
                        have Z613 := Nat.le_trans Z607 Kp611.1
                        have A614 : IA Z h610 a547 .byte [nar .byte q1.toInt32.toInt8.toInt32, nar .byte (((XT.ushrL q1 (8 : Int32)).toInt32).toInt8.toInt32), nar .byte (((XT.ushrL q1 (16 : Int32)).toInt32).toInt8.toInt32), nar .byte (((XT.ushrL q1 (24 : Int32)).toInt32).toInt8.toInt32), nar .byte (((XT.ushrL q1 (32 : Int32)).toInt32).toInt8.toInt32), nar .byte (((XT.ushrL q1 (40 : Int32)).toInt32).toInt8.toInt32), nar .byte (((XT.ushrL q1 (48 : Int32)).toInt32).toInt8.toInt32), nar .byte (((XT.ushrL q1 (56 : Int32)).toInt32).toInt8.toInt32), nar .byte p2.toInt8.toInt32, nar .byte ((XT.ushr p2 (8 : Int32)).toInt8.toInt32), 0] := (by have q := A612; rw [show (9 : Int32).toNatClampNeg = 9 from by decide] at q; exact q)
                        refine g_iload K 188 at_188 rfl ?_
                        refine g_bipush K 190 (10 : Int32) at_190 (by decide) ?_
                        refine g_ii_le K 192 205 at_192 (by decide) (by decide) ?_ ?_
                        · intro c615
                          exact absurd c615 (by decide)
                        · intro c615
                          refine g_aload K 195 at_195 rfl rfl ?_
                          refine g_bipush K 197 (10 : Int32) at_197 (by decide) ?_
                          refine g_iloadN K 199 at_199 rfl ?_
                          refine g_bipush K 200 (16 : Int32) at_200 (by decide) ?_
                          refine g_iushr K 202 at_202 ?_
                          refine g_i2b K 203 at_203 ?_
                          refine g_bastore K 204 at_204 A614 (by decide) (show (10 : Int32).toNatClampNeg < 11 from by decide) g552 ?_
                          intro h616 Kp617 A618
                          have Z619 := Nat.le_trans Z613 Kp617.1
                          have A620 : IA Z h616 a547 .byte [nar .byte q1.toInt32.toInt8.toInt32, nar .byte (((XT.ushrL q1 (8 : Int32)).toInt32).toInt8.toInt32), nar .byte (((XT.ushrL q1 (16 : Int32)).toInt32).toInt8.toInt32), nar .byte (((XT.ushrL q1 (24 : Int32)).toInt32).toInt8.toInt32), nar .byte (((XT.ushrL q1 (32 : Int32)).toInt32).toInt8.toInt32), nar .byte (((XT.ushrL q1 (40 : Int32)).toInt32).toInt8.toInt32), nar .byte (((XT.ushrL q1 (48 : Int32)).toInt32).toInt8.toInt32), nar .byte (((XT.ushrL q1 (56 : Int32)).toInt32).toInt8.toInt32), nar .byte p2.toInt8.toInt32, nar .byte ((XT.ushr p2 (8 : Int32)).toInt8.toInt32), nar .byte ((XT.ushr p2 (16 : Int32)).toInt8.toInt32)] := (by have q := A618; rw [show (10 : Int32).toNatClampNeg = 10 from by decide] at q; exact q)
                          refine g_iload K 205 at_205 rfl ?_
                          refine g_iconst K 207 (4 : Int32) at_207 (by decide) ?_
                          refine g_idiv K 208 at_208 (by decide) ?_
                          rw [show ((11 : Int32) / (4 : Int32)) = (2 : Int32) from by decide]
                          refine g_istore K 209 #[.val (.int p0), .val (.long q1), .second, .val (.int p2), .val (.int (11 : Int32)), .val (.int q1.toInt32), .val (.int (XT.ushrL q1 (32 : Int32)).toInt32), .val (.int p2), .val (.ref a547), .val (.int (2 : Int32)), .unset, .unset, .unset, .unset] at_209 rfl ?_
                          refine g_iload K 211 at_211 rfl ?_
                          refine g_iconst K 213 (4 : Int32) at_213 (by decide) ?_
                          refine g_irem K 214 at_214 (by decide) ?_
                          rw [show ((11 : Int32) % (4 : Int32)) = (3 : Int32) from by decide]
                          refine g_istore K 215 #[.val (.int p0), .val (.long q1), .second, .val (.int p2), .val (.int (11 : Int32)), .val (.int q1.toInt32), .val (.int (XT.ushrL q1 (32 : Int32)).toInt32), .val (.int p2), .val (.ref a547), .val (.int (2 : Int32)), .val (.int (3 : Int32)), .unset, .unset, .unset] at_215 rfl ?_
                          refine g_ldc K 217 (v := (-1756908916 : Int32)) at_217 (tw hw 2 rfl) ?_
                          refine g_iload K 219 at_219 rfl ?_
                          refine g_ixor K 221 at_221 ?_
                          rw [show ((-1756908916 : Int32) ^^^ (11 : Int32)) = (-1756908921 : Int32) from by decide]
                          refine g_istore K 222 #[.val (.int p0), .val (.long q1), .second, .val (.int p2), .val (.int (11 : Int32)), .val (.int q1.toInt32), .val (.int (XT.ushrL q1 (32 : Int32)).toInt32), .val (.int p2), .val (.ref a547), .val (.int (2 : Int32)), .val (.int (3 : Int32)), .val (.int (-1756908921 : Int32)), .unset, .unset] at_222 rfl ?_
                          refine g_iload K 224 at_224 rfl ?_
                          refine g_iconst K 226 (1 : Int32) at_226 (by decide) ?_
                          refine g_ii_lt K 227 243 at_227 (by decide) (by decide) ?_ ?_
                          · intro c621
                            exact absurd c621 (by decide)
                          · intro c621
                            refine g_iload K 230 at_230 rfl ?_
                            refine g_ldc K 232 (v := (1540483477 : Int32)) at_232 (tw hw 13 rfl) ?_
                            refine g_imul K 234 at_234 ?_
                            rw [show ((-1756908921 : Int32) * (1540483477 : Int32)) = (191809427 : Int32) from by decide]
                            refine g_iload K 235 at_235 rfl ?_
                            refine g_callS K 237 [(.int q1.toInt32)] 1 at_237 (rm_mixK l Z a0 hw q1.toInt32 h616 n0 Z619  ) (tw hw 14 rfl) (tw hw 15 rfl) (tw hw 11 rfl) (tw hw 16 rfl) (by decide) pd1 rfl (st := [(.int (191809427 : Int32))]) rfl (Nat.le_of_eq rfl) rfl (by decide) (by decide) (by decide) (by decide) ?_
                            rintro _ _ ⟨hv, hh⟩
                            rw [hv, hh]
                            clear hv hh
                            refine go_cast (k' := (0 + 1)) (n' := (0 + 11)) (st' := [(.int (f_mixK q1.toInt32)), (.int (191809427 : Int32))]) rfl rfl rfl ?_
                            refine g_ixor K 240 at_240 ?_
                            refine g_istore K 241 #[.val (.int p0), .val (.long q1), .second, .val (.int p2), .val (.int (11 : Int32)), .val (.int q1.toInt32), .val (.int (XT.ushrL q1 (32 : Int32)).toInt32), .val (.int p2), .val (.ref a547), .val (.int (2 : Int32)), .val (.int (3 : Int32)), .val (.int ((191809427 : Int32) ^^^ (f_mixK q1.toInt32))), .unset, .unset] at_241 rfl ?_
                            refine g_iload K 243 at_243 rfl ?_
                            refine g_iconst K 245 (2 : Int32) at_245 (by decide) ?_
                            refine g_ii_lt K 246 262 at_246 (by decide) (by decide) ?_ ?_
                            · intro c622
                              exact absurd c622 (by decide)
                            · intro c622
                              refine g_iload K 249 at_249 rfl ?_
                              refine g_ldc K 251 (v := (1540483477 : Int32)) at_251 (tw hw 13 rfl) ?_
                              refine g_imul K 253 at_253 ?_
                              refine g_iload K 254 at_254 rfl ?_
                              refine g_callS K 256 [(.int (XT.ushrL q1 (32 : Int32)).toInt32)] 1 at_256 (rm_mixK l Z a0 hw ((XT.ushrL q1 (32 : Int32)).toInt32) h616 n0 Z619  ) (tw hw 14 rfl) (tw hw 15 rfl) (tw hw 11 rfl) (tw hw 16 rfl) (by decide) pd1 rfl (st := [(.int (((191809427 : Int32) ^^^ (f_mixK q1.toInt32)) * (1540483477 : Int32)))]) rfl (Nat.le_of_eq rfl) rfl (by decide) (by decide) (by decide) (by decide) ?_
                              rintro _ _ ⟨hv, hh⟩
                              rw [hv, hh]
                              clear hv hh
                              refine go_cast (k' := (0 + 1)) (n' := (0 + 11)) (st' := [(.int (f_mixK ((XT.ushrL q1 (32 : Int32)).toInt32))), (.int (((191809427 : Int32) ^^^ (f_mixK q1.toInt32)) * (1540483477 : Int32)))]) rfl rfl rfl ?_
                              refine g_ixor K 259 at_259 ?_
                              refine g_istore K 260 #[.val (.int p0), .val (.long q1), .second, .val (.int p2), .val (.int (11 : Int32)), .val (.int q1.toInt32), .val (.int (XT.ushrL q1 (32 : Int32)).toInt32), .val (.int p2), .val (.ref a547), .val (.int (2 : Int32)), .val (.int (3 : Int32)), .val (.int ((((191809427 : Int32) ^^^ (f_mixK q1.toInt32)) * (1540483477 : Int32)) ^^^ (f_mixK ((XT.ushrL q1 (32 : Int32)).toInt32)))), .unset, .unset] at_260 rfl ?_
                              refine g_iload K 262 at_262 rfl ?_
                              refine g_if_ne K 264 272 at_264 (by decide) (by decide) ?_ ?_
                              · intro c623
                                refine g_iload K 272 at_272 rfl ?_
                                refine g_iconst K 274 (1 : Int32) at_274 (by decide) ?_
                                refine g_ii_ne K 275 283 at_275 (by decide) (by decide) ?_ ?_
                                · intro c624
                                  refine g_iload K 283 at_283 rfl ?_
                                  refine g_istore K 285 #[.val (.int p0), .val (.long q1), .second, .val (.int p2), .val (.int (11 : Int32)), .val (.int q1.toInt32), .val (.int (XT.ushrL q1 (32 : Int32)).toInt32), .val (.int p2), .val (.ref a547), .val (.int (2 : Int32)), .val (.int (3 : Int32)), .val (.int ((((191809427 : Int32) ^^^ (f_mixK q1.toInt32)) * (1540483477 : Int32)) ^^^ (f_mixK ((XT.ushrL q1 (32 : Int32)).toInt32)))), .val (.int p2), .unset] at_285 rfl ?_
                                  refine g_iload K 287 at_287 rfl ?_
                                  refine g_if_le K 289 316 at_289 (by decide) (by decide) ?_ ?_
                                  · intro c625
                                    exact absurd c625 (by decide)
                                  · intro c625
                                    refine g_iconst K 292 (1 : Int32) at_292 (by decide) ?_
                                    refine g_bipush K 293 (8 : Int32) at_293 (by decide) ?_
                                    refine g_iload K 295 at_295 rfl ?_
                                    refine g_imul K 297 at_297 ?_
                                    rw [show ((8 : Int32) * (3 : Int32)) = (24 : Int32) from by decide]
                                    refine g_ishl K 298 at_298 ?_
                                    rw [show ((1 : Int32) <<< ((24 : Int32) &&& 31)) = (16777216 : Int32) from by decide]
                                    refine g_iconst K 299 (1 : Int32) at_299 (by decide) ?_
                                    refine g_isub K 300 at_300 ?_
                                    rw [show ((16777216 : Int32) - (1 : Int32)) = (16777215 : Int32) from by decide]
                                    refine g_istore K 301 #[.val (.int p0), .val (.long q1), .second, .val (.int p2), .val (.int (11 : Int32)), .val (.int q1.toInt32), .val (.int (XT.ushrL q1 (32 : Int32)).toInt32), .val (.int p2), .val (.ref a547), .val (.int (2 : Int32)), .val (.int (3 : Int32)), .val (.int ((((191809427 : Int32) ^^^ (f_mixK q1.toInt32)) * (1540483477 : Int32)) ^^^ (f_mixK ((XT.ushrL q1 (32 : Int32)).toInt32)))), .val (.int p2), .val (.int (16777215 : Int32))] at_301 rfl ?_
                                    refine g_iload K 303 at_303 rfl ?_
                                    refine g_iload K 305 at_305 rfl ?_
                                    refine g_iload K 307 at_307 rfl ?_
                                    refine g_iand K 309 at_309 ?_
                                    refine g_ixor K 310 at_310 ?_
                                    refine g_ldc K 311 (v := (1540483477 : Int32)) at_311 (tw hw 13 rfl) ?_
                                    refine g_imul K 313 at_313 ?_
                                    refine g_istore K 314 #[.val (.int p0), .val (.long q1), .second, .val (.int p2), .val (.int (11 : Int32)), .val (.int q1.toInt32), .val (.int (XT.ushrL q1 (32 : Int32)).toInt32), .val (.int p2), .val (.ref a547), .val (.int (2 : Int32)), .val (.int (3 : Int32)), .val (.int ((((((191809427 : Int32) ^^^ (f_mixK q1.toInt32)) * (1540483477 : Int32)) ^^^ (f_mixK ((XT.ushrL q1 (32 : Int32)).toInt32))) ^^^ (p2 &&& (16777215 : Int32))) * (1540483477 : Int32))), .val (.int p2), .val (.int (16777215 : Int32))] at_314 rfl ?_
                                    refine g_aload K 316 at_316 rfl rfl ?_
                                    refine g_callS K 318 [(.ref a547)] 0 at_318 (rm_mur11 l Z a0 hw a547 h616 n0 Z619 (nar .byte q1.toInt32.toInt8.toInt32) (nar .byte (((XT.ushrL q1 (8 : Int32)).toInt32).toInt8.toInt32)) (nar .byte (((XT.ushrL q1 (16 : Int32)).toInt32).toInt8.toInt32)) (nar .byte (((XT.ushrL q1 (24 : Int32)).toInt32).toInt8.toInt32)) (nar .byte (((XT.ushrL q1 (32 : Int32)).toInt32).toInt8.toInt32)) (nar .byte (((XT.ushrL q1 (40 : Int32)).toInt32).toInt8.toInt32)) (nar .byte (((XT.ushrL q1 (48 : Int32)).toInt32).toInt8.toInt32)) (nar .byte (((XT.ushrL q1 (56 : Int32)).toInt32).toInt8.toInt32)) (nar .byte p2.toInt8.toInt32) (nar .byte ((XT.ushr p2 (8 : Int32)).toInt8.toInt32)) (nar .byte ((XT.ushr p2 (16 : Int32)).toInt8.toInt32)) A620) (tw hw 3 rfl) (tw hw 4 rfl) (tw hw 5 rfl) (tw hw 6 rfl) (by decide) pd0 rfl (st := []) rfl (Nat.le_of_eq rfl) rfl (by decide) (by decide) (by decide) (by decide) ?_
                                    rintro _ _ ⟨hv, hh⟩
                                    rw [hv, hh]
                                    clear hv hh
                                    refine go_cast (k' := (0 + 1)) (n' := (0 + 11)) (st' := [(.int (f_mur11 (nar .byte q1.toInt32.toInt8.toInt32) (nar .byte (((XT.ushrL q1 (8 : Int32)).toInt32).toInt8.toInt32)) (nar .byte (((XT.ushrL q1 (16 : Int32)).toInt32).toInt8.toInt32)) (nar .byte (((XT.ushrL q1 (24 : Int32)).toInt32).toInt8.toInt32)) (nar .byte (((XT.ushrL q1 (32 : Int32)).toInt32).toInt8.toInt32)) (nar .byte (((XT.ushrL q1 (40 : Int32)).toInt32).toInt8.toInt32)) (nar .byte (((XT.ushrL q1 (48 : Int32)).toInt32).toInt8.toInt32)) (nar .byte (((XT.ushrL q1 (56 : Int32)).toInt32).toInt8.toInt32)) (nar .byte p2.toInt8.toInt32) (nar .byte ((XT.ushr p2 (8 : Int32)).toInt8.toInt32)) (nar .byte ((XT.ushr p2 (16 : Int32)).toInt8.toInt32))))]) rfl rfl rfl ?_
                                    refine g_iload K 321 at_321 rfl ?_
                                    refine g_callS K 323 [(.int ((((((191809427 : Int32) ^^^ (f_mixK q1.toInt32)) * (1540483477 : Int32)) ^^^ (f_mixK ((XT.ushrL q1 (32 : Int32)).toInt32))) ^^^ (p2 &&& (16777215 : Int32))) * (1540483477 : Int32)))] 1 at_323 (rm_fin l Z a0 hw ((((((191809427 : Int32) ^^^ (f_mixK q1.toInt32)) * (1540483477 : Int32)) ^^^ (f_mixK ((XT.ushrL q1 (32 : Int32)).toInt32))) ^^^ (p2 &&& (16777215 : Int32))) * (1540483477 : Int32)) h616 n0 Z619  ) (tw hw 9 rfl) (tw hw 10 rfl) (tw hw 11 rfl) (tw hw 12 rfl) (by decide) pd1 rfl (st := [(.int (f_mur11 (nar .byte q1.toInt32.toInt8.toInt32) (nar .byte (((XT.ushrL q1 (8 : Int32)).toInt32).toInt8.toInt32)) (nar .byte (((XT.ushrL q1 (16 : Int32)).toInt32).toInt8.toInt32)) (nar .byte (((XT.ushrL q1 (24 : Int32)).toInt32).toInt8.toInt32)) (nar .byte (((XT.ushrL q1 (32 : Int32)).toInt32).toInt8.toInt32)) (nar .byte (((XT.ushrL q1 (40 : Int32)).toInt32).toInt8.toInt32)) (nar .byte (((XT.ushrL q1 (48 : Int32)).toInt32).toInt8.toInt32)) (nar .byte (((XT.ushrL q1 (56 : Int32)).toInt32).toInt8.toInt32)) (nar .byte p2.toInt8.toInt32) (nar .byte ((XT.ushr p2 (8 : Int32)).toInt8.toInt32)) (nar .byte ((XT.ushr p2 (16 : Int32)).toInt8.toInt32))))]) rfl (Nat.le_of_eq rfl) rfl (by decide) (by decide) (by decide) (by decide) ?_
                                    rintro _ _ ⟨hv, hh⟩
                                    rw [hv, hh]
                                    clear hv hh
                                    refine go_cast (k' := (0 + 1)) (n' := (0 + 11)) (st' := [(.int (f_fin ((((((191809427 : Int32) ^^^ (f_mixK q1.toInt32)) * (1540483477 : Int32)) ^^^ (f_mixK ((XT.ushrL q1 (32 : Int32)).toInt32))) ^^^ (p2 &&& (16777215 : Int32))) * (1540483477 : Int32)))), (.int (f_mur11 (nar .byte q1.toInt32.toInt8.toInt32) (nar .byte (((XT.ushrL q1 (8 : Int32)).toInt32).toInt8.toInt32)) (nar .byte (((XT.ushrL q1 (16 : Int32)).toInt32).toInt8.toInt32)) (nar .byte (((XT.ushrL q1 (24 : Int32)).toInt32).toInt8.toInt32)) (nar .byte (((XT.ushrL q1 (32 : Int32)).toInt32).toInt8.toInt32)) (nar .byte (((XT.ushrL q1 (40 : Int32)).toInt32).toInt8.toInt32)) (nar .byte (((XT.ushrL q1 (48 : Int32)).toInt32).toInt8.toInt32)) (nar .byte (((XT.ushrL q1 (56 : Int32)).toInt32).toInt8.toInt32)) (nar .byte p2.toInt8.toInt32) (nar .byte ((XT.ushr p2 (8 : Int32)).toInt8.toInt32)) (nar .byte ((XT.ushr p2 (16 : Int32)).toInt8.toInt32))))]) rfl rfl rfl ?_
                                    refine g_ii_ne K 326 333 at_326 (by decide) (by decide) ?_ ?_
                                    · intro c626
                                      exfalso
                                      exact c626 (own_mur11 q1 p2)
                                    · intro c626
                                      refine g_iconst K 329 (1 : Int32) at_329 (by decide) ?_
                                      refine g_goto K 330 334 at_330 (by decide) (by decide) ?_
                                      refine g_retN K 334 .boolean at_334 rfl (by simp) (by decide) (by decide) ?_
                                      rw [hQ]
                                      rfl
                                · intro c624
                                  exact absurd c624 (by decide)
                              · intro c623
                                exact absurd c623 (by decide)
set_option maxRecDepth 65536 in
theorem comes_1 {Post : Tables → Env → Array Value → State → Outcome → State → Prop} (hpost : ∀ tb e args s v u, (limb_1_1.after args s (.returned v) u = true ∧ limb_1_2.after args s (.returned v) u = true ∧ True) → FrameEnd s (.returned v) u (Jvm.fieldLocs frame_1_writes args s ++ Jvm.arrayLocs frame_1_arrays args s ++ Jvm.staticLocs frame_1_statics s) 16 128 → Post tb e args s (.returned v) u) :
    ArmFor flags0 classFile x code maxLocals ret World_1 tables_1 room_1 Calls_1 rest_1 Pre_1 Post := by
  intro l hfl _ _ p e ha hc hk s m args below hf hA hF happ hP
  obtain ⟨hcalls, hrest, hpre⟩ := hP
  obtain ⟨-, -, -, hnamed, -, -, -, hat⟩ := (Spec.applies_iff hf).mp happ
  obtain ⟨hg, hn⟩ := and_e (Cond.before_iff.mp (show (Jvm.Cond.and given_1 narrow_1).before args s = true from hpre))
  obtain ⟨hcnt, hg0⟩ := and_e hg
  obtain ⟨w0, w1, w2, rfl⟩ : ∃ w0 w1 w2 : Value, args = #[w0, w1, w2] := by
    have hs : args.size = 3 := by simpa [Cond.value, given_1] using hcnt
    obtain ⟨L⟩ := args
    match L, hs with
    | [w0, w1, w2], _ => exact ⟨w0, w1, w2, rfl⟩
  have hw := fun d (hd : d ∈ tables_1) => atoms_spec (ws := Jvm.Cond.code x code maxLocals ret :: tables_1) hat d (List.mem_cons_of_mem _ hd)
  obtain ⟨hq0, hg1⟩ := and_e hg0
  obtain ⟨i0, e0⟩ := is_v hq0
  obtain rfl : w0 = (.int i0) := Option.some.inj e0
  obtain ⟨hq1, hg2⟩ := and_e hg1
  obtain ⟨i1, e1⟩ := isL_v hq1
  obtain rfl : w1 = (.long i1) := Option.some.inj e1
  obtain ⟨i2, e2⟩ := is_v hg2
  obtain rfl : w2 = (.int i2) := Option.some.inj e2
  obtain ⟨n, o, h1, h2, h3, _, L, rfl, ⟨rfl, N⟩, hq⟩ := rm_law l s _ hw i0 i1 i2 s.heap s.heap.size (Nat.le_refl _) tables_1 p e ha hc hk s m _ below hf ((Spec.applies_iff_loose hf).mp happ).1 ⟨rfl, State.Warmed39.refl s, rfl⟩ trivial
  refine ⟨n, _, h1, h2, h3, hpost _ _ _ _ _ _ ⟨Cond.after_iff.mpr rfl, Cond.after_iff.mpr (eq_i res_at (Term.int_eval (1)) rfl), trivial⟩ ⟨hq.1, hq.2.1, (hq.2.2.sift fun y hy => Or.inr (N y hy)).mono (by decide) (by decide)⟩⟩
theorem main_1_1 : Claimed_1_1 := comes_1 fun _ _ _ _ _ _ h hF => ⟨h.1, hF⟩
theorem main_1_2 : Claimed_1_2 := comes_1 fun _ _ _ _ _ _ h hF => ⟨h.2.1, hF⟩
end Jvm.Pilot.@@N@@
namespace Jvm.Pilot.@@N@@
open Jvm Jvm.ClassFile Sem Op Lib Jvm.Free Jvm.Stand Jvm.Pilot.@@N@@.Jvm.D
/-! MADE BY PROGRAM (witnessworld.py) out of the Statement's table words and the real class files: 9 classes; the members and pool entries that the words name. The judged class is class 1, her method 3. -/
namespace start1
open Jvm.ClassFile
def u (s : String) : CpInfo := .utf8 (stringToUtf16 s)
/-- a pool by its gaps: so many unusable entries, then the entry; so many at the end -/
def gap : Nat → List CpInfo → List CpInfo
  | 0, r => r
  | n + 1, r => .unusable :: gap n r
def poolList (es : List (Nat × CpInfo)) (last : Nat) : List CpInfo := es.foldr (fun e r => gap e.1 (e.2 :: r)) (gap last [])
def pool (es : List (Nat × CpInfo)) (last : Nat) : Array CpInfo := ⟨poolList es last⟩
def fileOf (pool : Array CpInfo) (this : Nat) (attrs : Array Attribute := #[]) (ms : Array MethodInfo := #[]) (fl : Nat := 33) (sup : Nat := 0) (ifs : Array Nat := #[]) (fds : Array FieldInfo := #[]) : ClassFile where
  minorVersion := 0
  majorVersion := 65
  constantPool := pool
  accessFlags := fl
  thisClass := this
  superClass := sup
  interfaces := ifs
  fields := fds
  methods := ms
  attributes := attrs
def plain (name : String) (sup : Option ClassId) : Class where
  name := name
  kind := .ordinary
  loader := none
  accessFlags := 33
  super := sup
  interfaces := #[]
  cf := none
  fields := #[]
  methods := #[]
  instanceTypes := #[]
  staticTypes := #[]
  resolved := #[]
  callSites := []
  init := .initialized
  statics := none
  mirror := none

def pool0 : Array CpInfo := pool [(5, u "<init>"), (0, u "()V"), (1, .class_ 10), (1, u "java/lang/Object")] 113

def k0m0 : Method := { name := "<init>", desc := "()V", sig := { parameters := [], returnType := none }, accessFlags := 1, code := none }
/-- java/lang/Object -/
def k0 : Class := { plain "java/lang/Object" none with
  accessFlags := 33
  interfaces := #[]
  cf := some (fileOf pool0 8 #[] #[{ accessFlags := 1, nameIndex := 5, descriptorIndex := 6, attributes := #[] }] 33 0 #[] #[])
  fields := #[]
  methods := #[k0m0]
  instanceTypes := #[]
  staticTypes := #[]
  resolved := Array.replicate 124 none
  statics := none }

def pool1 : Array CpInfo := pool [(2, .class_ 4), (1, u "java/lang/Object"), (0, u "<init>"), (0, u "()V"), (0, .class_ 8), (0, u "com/example/batchwright/batchwright/producer/PartitionerMurmur2PinLaw"), (0, .integer 1540483477), (0, .integer 2147483647), (0, .integer 2538058380), (0, .methodref 7 13), (0, .nameAndType 14 15), (0, u "mixK"), (0, u "(I)I"), (0, .methodref 17 18), (0, .class_ 19), (0, .nameAndType 20 21), (0, u "com/example/batchwright/batchwright/producer/Partitioner"), (0, u "murmur2"), (0, u "([B)I"), (0, .methodref 7 23), (0, .nameAndType 24 15), (0, u "fin"), (0, u "M"), (0, u "I"), (3, u "law"), (0, u "(IJI)Z")] 5

def k1m0 : Method := { name := "<init>", desc := "()V", sig := { parameters := [], returnType := none }, accessFlags := 2, code := none }
def k1c1 : Code := { maxStack := 3, maxLocals := 2, code := method_2_code, exceptionTable := #[], attributes := #[] }
def k1m1 : Method := { name := "mixK", desc := "(I)I", sig := { parameters := [.int], returnType := some .int }, accessFlags := 10, code := some k1c1 }
def k1c2 : Code := { maxStack := 3, maxLocals := 2, code := method_3_code, exceptionTable := #[], attributes := #[] }
def k1m2 : Method := { name := "fin", desc := "(I)I", sig := { parameters := [.int], returnType := some .int }, accessFlags := 10, code := some k1c2 }
def k1c3 : Code := { maxStack := 5, maxLocals := 14, code := code, exceptionTable := #[], attributes := #[] }
def k1m3 : Method := { name := "law", desc := "(IJI)Z", sig := { parameters := [.int, .long, .int], returnType := some .boolean }, accessFlags := 9, code := some k1c3 }
/-- com/example/batchwright/batchwright/producer/PartitionerMurmur2PinLaw -/
def k1 : Class := { plain "com/example/batchwright/batchwright/producer/PartitionerMurmur2PinLaw" (some 0) with
  accessFlags := 49
  interfaces := #[]
  cf := some (fileOf pool1 7 #[] #[{ accessFlags := 2, nameIndex := 5, descriptorIndex := 6, attributes := #[] }, { accessFlags := 10, nameIndex := 14, descriptorIndex := 15, attributes := #[] }, { accessFlags := 10, nameIndex := 24, descriptorIndex := 15, attributes := #[] }, { accessFlags := 9, nameIndex := 30, descriptorIndex := 31, attributes := #[] }] 49 2 #[] #[{ accessFlags := 26, nameIndex := 25, descriptorIndex := 26, attributes := #[] }])
  fields := #[{ name := "M", type := .int, accessFlags := 26, slot := 0, constantValue := 0 }]
  methods := #[k1m0, k1m1, k1m2, k1m3]
  instanceTypes := #[]
  staticTypes := #[.int]
  resolved := Array.replicate 37 none
  statics := none }

def pool2 : Array CpInfo := pool [(2, .class_ 4), (1, u "java/lang/Object"), (0, u "<init>"), (0, u "()V"), (1, .class_ 10), (1, u "com/example/batchwright/batchwright/producer/Partitioner"), (0, u "murmur2"), (0, u "([B)I"), (1, .integer 2538058380), (0, .integer 1540483477), (0, u "SEED"), (0, u "I"), (1, u "MULTIPLIER"), (0, u "SHIFT")] 10

def k2m0 : Method := { name := "<init>", desc := "()V", sig := { parameters := [], returnType := none }, accessFlags := 2, code := none }
def k2c1 : Code := { maxStack := 4, maxLocals := 6, code := prog_29_method_3_code, exceptionTable := #[], attributes := #[] }
def k2m1 : Method := { name := "murmur2", desc := "([B)I", sig := { parameters := [(.array .byte)], returnType := some .int }, accessFlags := 8, code := some k2c1 }
/-- com/example/batchwright/batchwright/producer/Partitioner -/
def k2 : Class := { plain "com/example/batchwright/batchwright/producer/Partitioner" (some 0) with
  accessFlags := 48
  interfaces := #[]
  cf := some (fileOf pool2 8 #[] #[{ accessFlags := 2, nameIndex := 5, descriptorIndex := 6, attributes := #[] }, { accessFlags := 8, nameIndex := 11, descriptorIndex := 12, attributes := #[] }] 48 2 #[] #[{ accessFlags := 26, nameIndex := 16, descriptorIndex := 17, attributes := #[] }, { accessFlags := 26, nameIndex := 19, descriptorIndex := 17, attributes := #[] }, { accessFlags := 26, nameIndex := 20, descriptorIndex := 17, attributes := #[] }])
  fields := #[{ name := "SEED", type := .int, accessFlags := 26, slot := 0, constantValue := 0 }, { name := "MULTIPLIER", type := .int, accessFlags := 26, slot := 1, constantValue := 0 }, { name := "SHIFT", type := .int, accessFlags := 26, slot := 2, constantValue := 0 }]
  methods := #[k2m0, k2m1]
  instanceTypes := #[]
  staticTypes := #[.int, .int, .int]
  resolved := Array.replicate 31 none
  statics := none }

def pool3 : Array CpInfo := pool [(1, u "java/lang/Cloneable"), (0, .class_ 1), (0, u "java/lang/Object"), (0, .class_ 3)] 3

/-- java/lang/Cloneable -/
def k3 : Class := { plain "java/lang/Cloneable" (some 0) with
  accessFlags := 1537
  interfaces := #[]
  cf := some (fileOf pool3 2 #[] #[] 1537 4 #[] #[])
  fields := #[]
  methods := #[]
  instanceTypes := #[]
  staticTypes := #[]
  resolved := Array.replicate 8 none
  statics := none }

def pool4 : Array CpInfo := pool [(1, u "java/io/Serializable"), (0, .class_ 1), (0, u "java/lang/Object"), (0, .class_ 3)] 3

/-- java/io/Serializable -/
def k4 : Class := { plain "java/io/Serializable" (some 0) with
  accessFlags := 1537
  interfaces := #[]
  cf := some (fileOf pool4 2 #[] #[] 1537 4 #[] #[])
  fields := #[]
  methods := #[]
  instanceTypes := #[]
  staticTypes := #[]
  resolved := Array.replicate 8 none
  statics := none }

/-- the primitive byte -/
def k5 : Class := { plain "byte" none with kind := .primitive 'B', accessFlags := 0x411 }
/-- [B -/
def k6 : Class := { plain "[B" (some 0) with kind := .array 5 .byte, interfaces := #[3, 4], accessFlags := 1041 }

/-- the primitive int -/
def k7 : Class := { plain "int" none with kind := .primitive 'I', accessFlags := 0x411 }
/-- [I -/
def k8 : Class := { plain "[I" (some 0) with kind := .array 7 .int, interfaces := #[3, 4], accessFlags := 1041 }

def heap : Heap := #[]
def classes : Array Class := #[k0, k1, k2, k3, k4, k5, k6, k7, k8]
def interned : List (Array UInt16 × Addr) := []
def slotsUsed : Nat := 0
def theMethod : MethodId := ⟨1, 3⟩
def args0 : Array Value := #[.int 300, .long 7, .int 8]
def aboutOver (below : List Frame) : State where
  vm := { classes := classes, interned := interned.toArray }
  heap := heap
  slotsUsed := slotsUsed
  threads := #[{ frames := .invoking theMethod args0 :: below }]
def below0 : List Frame := [.native { method := ⟨0, 0⟩, args := #[] }]
def about1 : State := aboutOver below0
def p0 : Program := .bare "" "" ""
def e0 : Env := launch0.env 0 0 0
theorem w_frames : about1.frames = Frame.invoking theMethod args0 :: below0 := rfl
set_option maxRecDepth 65536 in
theorem w_args : argsFit about1.vm theMethod args0 = true := by decide +kernel
set_option maxRecDepth 65536 in
theorem w_heap : heapFits about1 = true := by decide +kernel
set_option maxRecDepth 65536 in
theorem w_runnable : about1.curStatus? = some .runnable := by decide +kernel
set_option maxRecDepth 65536 in
theorem w_alone : about1.alone = true := by decide +kernel
set_option maxRecDepth 65536 in
theorem w_named : about1.methodNamed? x = some theMethod := by decide +kernel
set_option maxRecDepth 65536 in
theorem w_hears : about1.hears theMethod below0 = true := by decide +kernel
set_option maxRecDepth 65536 in
theorem w_ripe : about1.ripe theMethod args0 below0 = true := by decide +kernel
theorem w_running : about1.status = .running := rfl
set_option maxRecDepth 65536 in
theorem w_room : about1.hasRoom e0.platform room_1 = true :=
  launch0.hasRoom_least _ room_1 (by decide +kernel) (by decide +kernel) (by decide +kernel) (by decide +kernel) (by decide +kernel) (by decide +kernel)
theorem allAtoms_all (ts : List Jvm.Cond) (a : Array Jvm.Value) (st : Jvm.State) : (allAtoms ts).before a st = ts.all (fun c => c.before a st) := by
  induction ts with
  | nil => rfl
  | cons c t ih =>
    show (Jvm.Cond.and c (allAtoms t)).before a st = _
    rw [Jvm.Cond.before_and, ih, List.all_cons]
def words1 : List Jvm.Cond := Jvm.Cond.code x code maxLocals ret :: tables_1
/-- a 'code' word, met by the world's own term for the bytes: nothing is compared byte by byte -/
theorem code_word {y : MethodName} {bytes : ByteArray} {mx : Nat} {rt : Option FieldType} {a : Array Value} {s : State} {m : MethodId} {meth : Method} {c : Code} (h1 : s.methodNamed? y = some m) (h2 : s.vm.method? m = some meth) (h3 : meth.code = some c) (h4 : c.code = bytes)
    (h5 : (c.maxLocals == mx && c.exceptionTable.isEmpty && decide (c.maxStack ≤ mostOperands) && decide (meth.sig.returnType = rt) && !meth.locks && decide (parseMethodDescriptor y.desc = some meth.sig)) = true) : (Jvm.Cond.code y bytes mx rt).before a s = true := by
  simp only [Bool.and_eq_true, beq_iff_eq, Bool.not_eq_true', decide_eq_true_eq] at h5
  obtain ⟨⟨⟨⟨⟨g1, g2⟩, g3⟩, g4⟩, g5⟩, g6⟩ := h5
  simp [Cond.before, Cond.holds, Cond.value, h1, h2, h3, h4, g1, g2, g3, g4, g5, g6]
def isCode : Jvm.Cond → Bool
  | .code _ _ _ _ => true
  | _ => false
theorem all_split {L : List Jvm.Cond} {P : Jvm.Cond → Bool} (h1 : L.all (fun c => isCode c || P c) = true) (h2 : ∀ c ∈ L.filter isCode, P c = true) : L.all P = true := by
  refine List.all_eq_true.mpr fun c hc => ?_
  have h := List.all_eq_true.mp h1 c hc
  rcases Bool.eq_false_or_eq_true (isCode c) with hi | hi
  · exact h2 c (List.mem_filter.mpr ⟨hc, hi⟩)
  · simpa [hi] using h
set_option maxRecDepth 65536 in
theorem w_c0 : (Jvm.Cond.code x code maxLocals ret).before args0 about1 = true := code_word (m := ⟨1, 3⟩) (meth := k1m3) (c := k1c3) (by decide +kernel) rfl rfl rfl (by decide +kernel)
set_option maxRecDepth 65536 in
theorem w_c1 : (Jvm.Cond.code ({ cls := "com/example/batchwright/batchwright/producer/Partitioner", name := "murmur2", desc := "([B)I" } : Jvm.MethodName) prog_29_method_3_code (6 : Nat) (Option.some Jvm.ClassFile.FieldType.int)).before args0 about1 = true := code_word (m := ⟨2, 1⟩) (meth := k2m1) (c := k2c1) (by decide +kernel) rfl rfl rfl (by decide +kernel)
set_option maxRecDepth 65536 in
theorem w_c2 : (Jvm.Cond.code ({ cls := "com/example/batchwright/batchwright/producer/PartitionerMurmur2PinLaw", name := "fin", desc := "(I)I" } : Jvm.MethodName) method_3_code (2 : Nat) (Option.some Jvm.ClassFile.FieldType.int)).before args0 about1 = true := code_word (m := ⟨1, 2⟩) (meth := k1m2) (c := k1c2) (by decide +kernel) rfl rfl rfl (by decide +kernel)
set_option maxRecDepth 65536 in
theorem w_c3 : (Jvm.Cond.code ({ cls := "com/example/batchwright/batchwright/producer/PartitionerMurmur2PinLaw", name := "mixK", desc := "(I)I" } : Jvm.MethodName) method_2_code (2 : Nat) (Option.some Jvm.ClassFile.FieldType.int)).before args0 about1 = true := code_word (m := ⟨1, 1⟩) (meth := k1m1) (c := k1c1) (by decide +kernel) rfl rfl rfl (by decide +kernel)
def codes1 : List Jvm.Cond := [Jvm.Cond.code x code maxLocals ret, Jvm.Cond.code ({ cls := "com/example/batchwright/batchwright/producer/Partitioner", name := "murmur2", desc := "([B)I" } : Jvm.MethodName) prog_29_method_3_code (6 : Nat) (Option.some Jvm.ClassFile.FieldType.int), Jvm.Cond.code ({ cls := "com/example/batchwright/batchwright/producer/PartitionerMurmur2PinLaw", name := "fin", desc := "(I)I" } : Jvm.MethodName) method_3_code (2 : Nat) (Option.some Jvm.ClassFile.FieldType.int), Jvm.Cond.code ({ cls := "com/example/batchwright/batchwright/producer/PartitionerMurmur2PinLaw", name := "mixK", desc := "(I)I" } : Jvm.MethodName) method_2_code (2 : Nat) (Option.some Jvm.ClassFile.FieldType.int)]
set_option maxRecDepth 65536 in
theorem codes_eq : words1.filter isCode = codes1 := rfl
theorem w_codes : ∀ c ∈ words1.filter isCode, c.before args0 about1 = true := by
  rw [codes_eq]
  intro c hc
  simp only [codes1, List.mem_cons, List.not_mem_nil, or_false] at hc
  rcases hc with rfl | rfl | rfl | rfl
  · exact w_c0
  · exact w_c1
  · exact w_c2
  · exact w_c3
set_option maxRecDepth 65536 in
theorem w_t1 : words1.all (fun c => isCode c || c.before args0 about1) = true := by decide +kernel
theorem w_tables : (allAtoms (Jvm.Cond.code x code maxLocals ret :: tables_1)).before args0 about1 = true := by
  rw [allAtoms_all]
  show words1.all (fun c => c.before args0 about1) = true
  refine all_split ?_ w_codes
  rw [w_t1]
set_option maxRecDepth 65536 in
theorem w_case : (Jvm.Cond.and given_1 narrow_1).before args0 about1 = true := by decide +kernel
theorem w_applies : (headSpec (Jvm.Cond.code x code maxLocals ret :: tables_1) room_1).applies x e0.platform about1 = true :=
  (Spec.applies_iff w_frames).mpr ⟨w_running, w_runnable, w_alone, w_named, w_hears, w_ripe, w_room, w_tables⟩
theorem atStart : AtStart classFile x code maxLocals ret World_1 tables_1 room_1 Calls_1 rest_1 Pre_1 launch0 p0 e0 about1 theMethod args0 below0 :=
  ⟨lists_1, trivial, launch0.admits_env _ _ _, launch0.least_env, fairChoices_fair.cas, fairChoices_fair.clock, w_frames, w_args, w_heap, w_applies, trivial, trivial, w_case⟩
end start1
theorem witness_1 : WitnessClaimed_1 := ⟨start1.p0, start1.e0, start1.about1, start1.theMethod, start1.args0, start1.below0, start1.atStart⟩
end Jvm.Pilot.@@N@@
