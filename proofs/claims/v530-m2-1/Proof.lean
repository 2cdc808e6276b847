import JvmDerived
import JvmDerived.Pilot.@@N@@Statement
import JvmDerived.Pilot.@@N@@Code
set_option linter.unusedVariables false
set_option linter.unusedSimpArgs false
namespace Jvm.Pilot.@@N@@
open Jvm Jvm.ClassFile Sem Op Lib Jvm.Free Jvm.Stand Jvm.LawKit Jvm.RoadKit Bundle Jvm.Pilot.@@N@@.Jvm.D
/-- from any state that stands here with this heap the walk comes to a return with Q -/
def Go (p : Program) (l : Launch) (e : Env) (R : Room) (s : State) (m : MethodId) (args : Array Value) (below : List Frame) (meth : Method) (c : Code) (n0 : Nat) (Q : Option Value → Heap → Prop) (h : Heap) (k n : Nat) (f : JFrame) : Prop :=
  ∀ T L, Stand p l e R s m args below meth c T L k n → T.heap = h → Fr n0 L →
    ∃ s₂ o, Steps p.tables e below (T.setTop f) s₂ ∧ s₂.status = .running ∧ Ended s₂ below o ∧
      ∃ v L', o = .returned v ∧ (Q v s₂.heap ∧ Fr n0 L') ∧ FrameEnd s o s₂ L' R.cells R.slots
/-- what is known of the body that is walked -/
def Kx (Z : State) (own nm : String) (bytes : ByteArray) (ml : Nat) (rt : Option FieldType) (p : Program) (s : State) (m : MethodId) (meth : Method) (c : Code) : Prop :=
  p.tables.exec = Jvm.exec ∧ Z.Warmed39 s.vm ∧ s.vm.findClass own = some m.cls ∧ c.code = bytes ∧ c.maxLocals = ml ∧ meth.sig.returnType = rt ∧ meth.locks = false ∧ meth.name = nm
/-- a method's contract, at given arguments and heap -/
def Meets (l : Launch) (y : MethodName) (bytes : ByteArray) (ml : Nat) (rt : Option FieldType) (rm : Room) (Z : State) (as : Array Value) (h0 : Heap) (n0 : Nat) (Q : Option Value → Heap → Prop) : Prop :=
  ∀ ws : List Jvm.Cond, MetFree l y (head1 (Jvm.Cond.code y bytes ml rt :: ws) rm) (fun a U => a = as ∧ Z.Warmed39 U.vm ∧ U.heap = h0) (fun _ _ _ _ _ => True)
    (fun _ U o U' => ∃ v L, o = .returned v ∧ (Q v U'.heap ∧ Fr n0 L) ∧ FrameEnd U o U' L rm.cells rm.slots)
/-- an array of ints, bytes, booleans ..: its values as a list -/
def IA (Z : State) (h : Heap) (a : Addr) (ty : FieldType) (xs : List Int32) : Prop := ∃ cl : Cell, Arr Z h a cl ty ∧ cl.slots = (xs.map Value.int).toArray
/-- an array of longs -/
def LA (Z : State) (h : Heap) (a : Addr) (xs : List Int64) : Prop := ∃ cl : Cell, Arr Z h a cl .long ∧ cl.slots = (xs.map Value.long).toArray
section ArrFacts
variable {Z : State} {h h' : Heap} {a : Addr} {ty : FieldType} {xs : List Int32} {ys : List Int64} {ws : List Addr}
theorem IA.keep (F : IA Z h a ty xs) (K : Keep h h' ws) (q : a ∉ ws) : IA Z h' a ty xs := by obtain ⟨c, A, r⟩ := F; exact ⟨c, ⟨K.2.1 a c A.1 q, A.2⟩, r⟩
theorem LA.keep (F : LA Z h a ys) (K : Keep h h' ws) (q : a ∉ ws) : LA Z h' a ys := by obtain ⟨c, A, r⟩ := F; exact ⟨c, ⟨K.2.1 a c A.1 q, A.2⟩, r⟩
theorem IA.lt (F : IA Z h a ty xs) : a < h.size := by obtain ⟨c, A, -⟩ := F; exact A.lt
theorem LA.lt (F : LA Z h a ys) : a < h.size := by obtain ⟨c, A, -⟩ := F; exact A.lt
theorem IA.set {j : Nat} {x : Int32} (F : IA Z h a ty xs) (W : Wr h h' a j (.int x)) : IA Z h' a ty (xs.set j x) := by
  obtain ⟨c, A, r⟩ := F
  refine ⟨_, A.same W, ?_⟩
  simp [Cell.setSlot, r, List.map_set]
theorem LA.set {j : Nat} {x : Int64} (F : LA Z h a ys) (W : Wr h h' a j (.long x)) : LA Z h' a (ys.set j x) := by
  obtain ⟨c, A, r⟩ := F
  refine ⟨_, A.same W, ?_⟩
  simp [Cell.setSlot, r, List.map_set]
theorem keep_ext (E : Ext h h') : Keep h h' [] := (Keep.refl h []).ext E
theorem own_clamp {j : Int32} {n : Nat} (h0 : ¬ j < 0) (hn : j.toNatClampNeg < n) {cl : Cell} (hs : cl.slots.size = n) : ¬ (j < 0 ∨ cl.slots.size ≤ j.toNatClampNeg) := by
  rw [hs]; rintro (q | q)
  · exact h0 q
  · omega
theorem own_ne_of_lt {a b : Nat} {h : Heap} (q : a < h.size) (r : b = h.size) : a ≠ b := by omega
end ArrFacts
section GoSteps
variable {p : Program} {l : Launch} {e : Env} {R : Room} {s : State} {m : MethodId} {args : Array Value} {below : List Frame} {meth : Method} {c : Code} {n0 : Nat} {Q : Option Value → Heap → Prop} {h : Heap} {k n : Nat} {Z : State} {own nm : String} {bytes : ByteArray} {ml : Nat} {rt : Option FieldType} {Ls : Array Slot} {st : List Value} {a0 : Array Value}
theorem go_step {f f' : JFrame} (st : ∀ T L, Stand p l e R s m args below meth c T L k n → ∀ t, Steps p.tables e below (T.setTop f') t → Steps p.tables e below (T.setTop f) t) (hr : Go p l e R s m args below meth c n0 Q h k n f') : Go p l e R s m args below meth c n0 Q h k n f := by
  intro T L X eT N
  obtain ⟨s₂, o, S, r⟩ := hr T L X eT N
  exact ⟨s₂, o, st T L X _ S, r⟩
theorem go_mono {f : JFrame} {k' n' : Nat} (hk : k ≤ k') (hn : n ≤ n') (hr : Go p l e R s m args below meth c n0 Q h k' n' f) : Go p l e R s m args below meth c n0 Q h k n f := by
  intro T L X eT N
  exact hr T L (X.more hk hn) eT N
theorem go_post {f : JFrame} {Q' : Option Value → Heap → Prop} (hq : ∀ v h, Q' v h → Q v h) (hr : Go p l e R s m args below meth c n0 Q' h k n f) : Go p l e R s m args below meth c n0 Q h k n f := by
  intro T L X eT N
  obtain ⟨s₂, o, S, r1, r2, v, L', q1, q2, q3⟩ := hr T L X eT N
  exact ⟨s₂, o, S, r1, r2, v, L', q1, ⟨hq _ _ q2.1, q2.2⟩, q3⟩
theorem go_cast {pc : Nat} {k' n' : Nat} {st' : List Value} (q1 : k = k') (q2 : n = n') (q3 : st = st') (hr : Go p l e R s m args below meth c n0 Q h k' n' (mkF m pc Ls st')) : Go p l e R s m args below meth c n0 Q h k n (mkF m pc Ls st) := by subst q1 q2 q3; exact hr
theorem g_iload (K : Kx Z own nm bytes ml rt p s m meth c) (pc : Nat) {i : Nat} {v : Int32} (hd : decode bytes pc = .ok (.iload i, 2)) (hl : Ls[i]? = some (.val (.int v))) (hr : Go p l e R s m args below meth c n0 Q h k n (mkF m (pc + 2) Ls (.int v :: st))) : Go p l e R s m args below meth c n0 Q h k n (mkF m pc Ls st) :=
  go_step (fun T L X t S => XS.iload X.here K.1 rfl (hb K.2.2.2.1 hd) hl S) hr
theorem g_iloadN (K : Kx Z own nm bytes ml rt p s m meth c) (pc : Nat) {i : Fin 4} {v : Int32} (hd : decode bytes pc = .ok (.iload_n i, 1)) (hl : Ls[i.val]? = some (.val (.int v))) (hr : Go p l e R s m args below meth c n0 Q h k n (mkF m (pc + 1) Ls (.int v :: st))) : Go p l e R s m args below meth c n0 Q h k n (mkF m pc Ls st) :=
  go_step (fun T L X t S => XS.iloadN X.here K.1 rfl (hb K.2.2.2.1 hd) hl S) hr
theorem g_lload (K : Kx Z own nm bytes ml rt p s m meth c) (pc : Nat) {i : Nat} {v : Int64} (hd : decode bytes pc = .ok (.lload i, 2)) (hl : Ls[i]? = some (.val (.long v))) (hr : Go p l e R s m args below meth c n0 Q h k n (mkF m (pc + 2) Ls (.long v :: st))) : Go p l e R s m args below meth c n0 Q h k n (mkF m pc Ls st) :=
  go_step (fun T L X t S => XT.lload X.here K.1 rfl (hb K.2.2.2.1 hd) hl S) hr
theorem g_lloadN (K : Kx Z own nm bytes ml rt p s m meth c) (pc : Nat) {i : Fin 4} {v : Int64} (hd : decode bytes pc = .ok (.lload_n i, 1)) (hl : Ls[i.val]? = some (.val (.long v))) (hr : Go p l e R s m args below meth c n0 Q h k n (mkF m (pc + 1) Ls (.long v :: st))) : Go p l e R s m args below meth c n0 Q h k n (mkF m pc Ls st) :=
  go_step (fun T L X t S => XT.lloadN X.here K.1 rfl (hb K.2.2.2.1 hd) hl S) hr
theorem g_aload (K : Kx Z own nm bytes ml rt p s m meth c) (pc : Nat) {i : Nat} {v : Value} (hd : decode bytes pc = .ok (.aload i, 2)) (hl : Ls[i]? = some (.val v)) (hv : v.isRef = true) (hr : Go p l e R s m args below meth c n0 Q h k n (mkF m (pc + 2) Ls (v :: st))) : Go p l e R s m args below meth c n0 Q h k n (mkF m pc Ls st) :=
  go_step (fun T L X t S => XS.aload X.here K.1 rfl (hb K.2.2.2.1 hd) hl hv S) hr
theorem g_aloadN (K : Kx Z own nm bytes ml rt p s m meth c) (pc : Nat) {i : Fin 4} {v : Value} (hd : decode bytes pc = .ok (.aload_n i, 1)) (hl : Ls[i.val]? = some (.val v)) (hv : v.isRef = true) (hr : Go p l e R s m args below meth c n0 Q h k n (mkF m (pc + 1) Ls (v :: st))) : Go p l e R s m args below meth c n0 Q h k n (mkF m pc Ls st) :=
  go_step (fun T L X t S => XS.aloadN X.here K.1 rfl (hb K.2.2.2.1 hd) hl hv S) hr
theorem g_istore (K : Kx Z own nm bytes ml rt p s m meth c) (pc : Nat) {i : Nat} {v : Int32} (l' : Array Slot) (hd : decode bytes pc = .ok (.istore i, 2)) (hl : storeLocals Ls i (.int v) = some l') (hr : Go p l e R s m args below meth c n0 Q h k n (mkF m (pc + 2) l' st)) : Go p l e R s m args below meth c n0 Q h k n (mkF m pc Ls (.int v :: st)) :=
  go_step (fun T L X t S => XS.istore X.here K.1 rfl (hb K.2.2.2.1 hd) rfl hl S) hr
theorem g_istoreN (K : Kx Z own nm bytes ml rt p s m meth c) (pc : Nat) {i : Fin 4} {v : Int32} (l' : Array Slot) (hd : decode bytes pc = .ok (.istore_n i, 1)) (hl : storeLocals Ls i.val (.int v) = some l') (hr : Go p l e R s m args below meth c n0 Q h k n (mkF m (pc + 1) l' st)) : Go p l e R s m args below meth c n0 Q h k n (mkF m pc Ls (.int v :: st)) :=
  go_step (fun T L X t S => XS.istoreN X.here K.1 rfl (hb K.2.2.2.1 hd) rfl hl S) hr
theorem g_lstore (K : Kx Z own nm bytes ml rt p s m meth c) (pc : Nat) {i : Nat} {v : Int64} (l' : Array Slot) (hd : decode bytes pc = .ok (.lstore i, 2)) (hl : storeLocals Ls i (.long v) = some l') (hr : Go p l e R s m args below meth c n0 Q h k n (mkF m (pc + 2) l' st)) : Go p l e R s m args below meth c n0 Q h k n (mkF m pc Ls (.long v :: st)) :=
  go_step (fun T L X t S => XT.lstore X.here K.1 rfl (hb K.2.2.2.1 hd) rfl hl S) hr
theorem g_lstoreN (K : Kx Z own nm bytes ml rt p s m meth c) (pc : Nat) {i : Fin 4} {v : Int64} (l' : Array Slot) (hd : decode bytes pc = .ok (.lstore_n i, 1)) (hl : storeLocals Ls i.val (.long v) = some l') (hr : Go p l e R s m args below meth c n0 Q h k n (mkF m (pc + 1) l' st)) : Go p l e R s m args below meth c n0 Q h k n (mkF m pc Ls (.long v :: st)) :=
  go_step (fun T L X t S => XT.lstoreN X.here K.1 rfl (hb K.2.2.2.1 hd) rfl hl S) hr
theorem g_astore (K : Kx Z own nm bytes ml rt p s m meth c) (pc : Nat) {i : Nat} {v : Value} (l' : Array Slot) (hd : decode bytes pc = .ok (.astore i, 2)) (hv : v.isRef = true) (hl : storeLocals Ls i v = some l') (hr : Go p l e R s m args below meth c n0 Q h k n (mkF m (pc + 2) l' st)) : Go p l e R s m args below meth c n0 Q h k n (mkF m pc Ls (v :: st)) :=
  go_step (fun T L X t S => XS.astore X.here K.1 rfl (hb K.2.2.2.1 hd) rfl hv hl S) hr
theorem g_astoreN (K : Kx Z own nm bytes ml rt p s m meth c) (pc : Nat) {i : Fin 4} {v : Value} (l' : Array Slot) (hd : decode bytes pc = .ok (.astore_n i, 1)) (hv : v.isRef = true) (hl : storeLocals Ls i.val v = some l') (hr : Go p l e R s m args below meth c n0 Q h k n (mkF m (pc + 1) l' st)) : Go p l e R s m args below meth c n0 Q h k n (mkF m pc Ls (v :: st)) :=
  go_step (fun T L X t S => XS.astoreN X.here K.1 rfl (hb K.2.2.2.1 hd) rfl hv hl S) hr
theorem g_iconst (K : Kx Z own nm bytes ml rt p s m meth c) (pc : Nat) {i : Int} (v : Int32) (hd : decode bytes pc = .ok (.iconst i, 1)) (hv : Int32.ofInt i = v) (hr : Go p l e R s m args below meth c n0 Q h k n (mkF m (pc + 1) Ls (.int v :: st))) : Go p l e R s m args below meth c n0 Q h k n (mkF m pc Ls st) :=
  go_step (fun T L X t S => XT.iconstV X.here K.1 rfl v (hb K.2.2.2.1 hd) hv S) hr
theorem g_bipush (K : Kx Z own nm bytes ml rt p s m meth c) (pc : Nat) {i : Int} (v : Int32) (hd : decode bytes pc = .ok (.bipush i, 2)) (hv : (Int8.ofInt i).toInt32 = v) (hr : Go p l e R s m args below meth c n0 Q h k n (mkF m (pc + 2) Ls (.int v :: st))) : Go p l e R s m args below meth c n0 Q h k n (mkF m pc Ls st) :=
  go_step (fun T L X t S => XT.bipushV X.here K.1 rfl v (hb K.2.2.2.1 hd) hv S) hr
theorem g_sipush (K : Kx Z own nm bytes ml rt p s m meth c) (pc : Nat) {i : Int} (v : Int32) (hd : decode bytes pc = .ok (.sipush i, 3)) (hv : (Int16.ofInt i).toInt32 = v) (hr : Go p l e R s m args below meth c n0 Q h k n (mkF m (pc + 3) Ls (.int v :: st))) : Go p l e R s m args below meth c n0 Q h k n (mkF m pc Ls st) :=
  go_step (fun T L X t S => XT.sipushV X.here K.1 rfl v (hb K.2.2.2.1 hd) hv S) hr
theorem g_lconst (K : Kx Z own nm bytes ml rt p s m meth c) (pc : Nat) {i : Fin 2} (v : Int64) (hd : decode bytes pc = .ok (.lconst i, 1)) (hv : Int64.ofNat i = v) (hr : Go p l e R s m args below meth c n0 Q h k n (mkF m (pc + 1) Ls (.long v :: st))) : Go p l e R s m args below meth c n0 Q h k n (mkF m pc Ls st) :=
  go_step (fun T L X t S => XT.lconstV X.here K.1 rfl v (hb K.2.2.2.1 hd) hv S) hr
theorem g_aconst_null (K : Kx Z own nm bytes ml rt p s m meth c) (pc : Nat)  (hd : decode bytes pc = .ok (.aconst_null, 1))  (hr : Go p l e R s m args below meth c n0 Q h k n (mkF m (pc + 1) Ls (.null :: st))) : Go p l e R s m args below meth c n0 Q h k n (mkF m pc Ls st) :=
  go_step (fun T L X t S => XS.aconstNull X.here K.1 rfl (hb K.2.2.2.1 hd)  S) hr
theorem g_iinc (K : Kx Z own nm bytes ml rt p s m meth c) (pc : Nat) {i : Nat} {cst : Int} {x : Int32} (v : Int32) (l' : Array Slot) (hd : decode bytes pc = .ok (.iinc i cst, 3)) (hv : Int32.ofInt cst = v) (hl : Ls[i]? = some (.val (.int x))) (hl' : storeLocals Ls i (.int (x + v)) = some l') (hr : Go p l e R s m args below meth c n0 Q h k n (mkF m (pc + 3) l' st)) : Go p l e R s m args below meth c n0 Q h k n (mkF m pc Ls st) :=
  go_step (fun T L X t S => XT.iincV X.here K.1 rfl v (hb K.2.2.2.1 hd) hv hl hl' S) hr
theorem g_iadd (K : Kx Z own nm bytes ml rt p s m meth c) (pc : Nat) {x y : Int32} (hd : decode bytes pc = .ok (.iadd, 1))  (hr : Go p l e R s m args below meth c n0 Q h k n (mkF m (pc + 1) Ls (.int (x + y) :: st))) : Go p l e R s m args below meth c n0 Q h k n (mkF m pc Ls (.int y :: .int x :: st)) :=
  go_step (fun T L X t S => XS.iadd X.here K.1 rfl (hb K.2.2.2.1 hd) rfl S) hr
theorem g_isub (K : Kx Z own nm bytes ml rt p s m meth c) (pc : Nat) {x y : Int32} (hd : decode bytes pc = .ok (.isub, 1))  (hr : Go p l e R s m args below meth c n0 Q h k n (mkF m (pc + 1) Ls (.int (x - y) :: st))) : Go p l e R s m args below meth c n0 Q h k n (mkF m pc Ls (.int y :: .int x :: st)) :=
  go_step (fun T L X t S => XS.isub X.here K.1 rfl (hb K.2.2.2.1 hd) rfl S) hr
theorem g_imul (K : Kx Z own nm bytes ml rt p s m meth c) (pc : Nat) {x y : Int32} (hd : decode bytes pc = .ok (.imul, 1))  (hr : Go p l e R s m args below meth c n0 Q h k n (mkF m (pc + 1) Ls (.int (x * y) :: st))) : Go p l e R s m args below meth c n0 Q h k n (mkF m pc Ls (.int y :: .int x :: st)) :=
  go_step (fun T L X t S => XS.imul X.here K.1 rfl (hb K.2.2.2.1 hd) rfl S) hr
theorem g_iand (K : Kx Z own nm bytes ml rt p s m meth c) (pc : Nat) {x y : Int32} (hd : decode bytes pc = .ok (.iand, 1))  (hr : Go p l e R s m args below meth c n0 Q h k n (mkF m (pc + 1) Ls (.int (x &&& y) :: st))) : Go p l e R s m args below meth c n0 Q h k n (mkF m pc Ls (.int y :: .int x :: st)) :=
  go_step (fun T L X t S => XS.iand X.here K.1 rfl (hb K.2.2.2.1 hd) rfl S) hr
theorem g_ior (K : Kx Z own nm bytes ml rt p s m meth c) (pc : Nat) {x y : Int32} (hd : decode bytes pc = .ok (.ior, 1))  (hr : Go p l e R s m args below meth c n0 Q h k n (mkF m (pc + 1) Ls (.int (x ||| y) :: st))) : Go p l e R s m args below meth c n0 Q h k n (mkF m pc Ls (.int y :: .int x :: st)) :=
  go_step (fun T L X t S => XT.ior X.here K.1 rfl (hb K.2.2.2.1 hd) rfl S) hr
theorem g_ixor (K : Kx Z own nm bytes ml rt p s m meth c) (pc : Nat) {x y : Int32} (hd : decode bytes pc = .ok (.ixor, 1))  (hr : Go p l e R s m args below meth c n0 Q h k n (mkF m (pc + 1) Ls (.int (x ^^^ y) :: st))) : Go p l e R s m args below meth c n0 Q h k n (mkF m pc Ls (.int y :: .int x :: st)) :=
  go_step (fun T L X t S => XT.ixor X.here K.1 rfl (hb K.2.2.2.1 hd) rfl S) hr
theorem g_ishl (K : Kx Z own nm bytes ml rt p s m meth c) (pc : Nat) {x y : Int32} (hd : decode bytes pc = .ok (.ishl, 1))  (hr : Go p l e R s m args below meth c n0 Q h k n (mkF m (pc + 1) Ls (.int (x <<< (y &&& 31)) :: st))) : Go p l e R s m args below meth c n0 Q h k n (mkF m pc Ls (.int y :: .int x :: st)) :=
  go_step (fun T L X t S => XT.ishl X.here K.1 rfl (hb K.2.2.2.1 hd) rfl S) hr
theorem g_ishr (K : Kx Z own nm bytes ml rt p s m meth c) (pc : Nat) {x y : Int32} (hd : decode bytes pc = .ok (.ishr, 1))  (hr : Go p l e R s m args below meth c n0 Q h k n (mkF m (pc + 1) Ls (.int (x >>> (y &&& 31)) :: st))) : Go p l e R s m args below meth c n0 Q h k n (mkF m pc Ls (.int y :: .int x :: st)) :=
  go_step (fun T L X t S => XT.ishr X.here K.1 rfl (hb K.2.2.2.1 hd) rfl S) hr
theorem g_iushr (K : Kx Z own nm bytes ml rt p s m meth c) (pc : Nat) {x y : Int32} (hd : decode bytes pc = .ok (.iushr, 1))  (hr : Go p l e R s m args below meth c n0 Q h k n (mkF m (pc + 1) Ls (.int (XT.ushr x y) :: st))) : Go p l e R s m args below meth c n0 Q h k n (mkF m pc Ls (.int y :: .int x :: st)) :=
  go_step (fun T L X t S => XT.iushr X.here K.1 rfl (hb K.2.2.2.1 hd) rfl S) hr
theorem g_idiv (K : Kx Z own nm bytes ml rt p s m meth c) (pc : Nat) {x y : Int32} (hd : decode bytes pc = .ok (.idiv, 1)) (hy : y ≠ 0) (hr : Go p l e R s m args below meth c n0 Q h k n (mkF m (pc + 1) Ls (.int (x / y) :: st))) : Go p l e R s m args below meth c n0 Q h k n (mkF m pc Ls (.int y :: .int x :: st)) :=
  go_step (fun T L X t S => XS.idiv X.here K.1 rfl (hb K.2.2.2.1 hd) rfl hy S) hr
theorem g_irem (K : Kx Z own nm bytes ml rt p s m meth c) (pc : Nat) {x y : Int32} (hd : decode bytes pc = .ok (.irem, 1)) (hy : y ≠ 0) (hr : Go p l e R s m args below meth c n0 Q h k n (mkF m (pc + 1) Ls (.int (x % y) :: st))) : Go p l e R s m args below meth c n0 Q h k n (mkF m pc Ls (.int y :: .int x :: st)) :=
  go_step (fun T L X t S => iremM X K.1 rfl (hb K.2.2.2.1 hd) rfl hy S) hr
theorem g_ineg (K : Kx Z own nm bytes ml rt p s m meth c) (pc : Nat) {x : Int32} (hd : decode bytes pc = .ok (.ineg, 1))  (hr : Go p l e R s m args below meth c n0 Q h k n (mkF m (pc + 1) Ls (.int (-x) :: st))) : Go p l e R s m args below meth c n0 Q h k n (mkF m pc Ls (.int x :: st)) :=
  go_step (fun T L X t S => XS.ineg X.here K.1 rfl (hb K.2.2.2.1 hd) rfl S) hr
theorem g_ladd (K : Kx Z own nm bytes ml rt p s m meth c) (pc : Nat) {x y : Int64} (hd : decode bytes pc = .ok (.ladd, 1))  (hr : Go p l e R s m args below meth c n0 Q h k n (mkF m (pc + 1) Ls (.long (x + y) :: st))) : Go p l e R s m args below meth c n0 Q h k n (mkF m pc Ls (.long y :: .long x :: st)) :=
  go_step (fun T L X t S => XT.ladd X.here K.1 rfl (hb K.2.2.2.1 hd) rfl S) hr
theorem g_lsub (K : Kx Z own nm bytes ml rt p s m meth c) (pc : Nat) {x y : Int64} (hd : decode bytes pc = .ok (.lsub, 1))  (hr : Go p l e R s m args below meth c n0 Q h k n (mkF m (pc + 1) Ls (.long (x - y) :: st))) : Go p l e R s m args below meth c n0 Q h k n (mkF m pc Ls (.long y :: .long x :: st)) :=
  go_step (fun T L X t S => XT.lsub X.here K.1 rfl (hb K.2.2.2.1 hd) rfl S) hr
theorem g_lmul (K : Kx Z own nm bytes ml rt p s m meth c) (pc : Nat) {x y : Int64} (hd : decode bytes pc = .ok (.lmul, 1))  (hr : Go p l e R s m args below meth c n0 Q h k n (mkF m (pc + 1) Ls (.long (x * y) :: st))) : Go p l e R s m args below meth c n0 Q h k n (mkF m pc Ls (.long y :: .long x :: st)) :=
  go_step (fun T L X t S => XT.lmul X.here K.1 rfl (hb K.2.2.2.1 hd) rfl S) hr
theorem g_land (K : Kx Z own nm bytes ml rt p s m meth c) (pc : Nat) {x y : Int64} (hd : decode bytes pc = .ok (.land, 1))  (hr : Go p l e R s m args below meth c n0 Q h k n (mkF m (pc + 1) Ls (.long (x &&& y) :: st))) : Go p l e R s m args below meth c n0 Q h k n (mkF m pc Ls (.long y :: .long x :: st)) :=
  go_step (fun T L X t S => XT.land X.here K.1 rfl (hb K.2.2.2.1 hd) rfl S) hr
theorem g_lor (K : Kx Z own nm bytes ml rt p s m meth c) (pc : Nat) {x y : Int64} (hd : decode bytes pc = .ok (.lor, 1))  (hr : Go p l e R s m args below meth c n0 Q h k n (mkF m (pc + 1) Ls (.long (x ||| y) :: st))) : Go p l e R s m args below meth c n0 Q h k n (mkF m pc Ls (.long y :: .long x :: st)) :=
  go_step (fun T L X t S => XT.lor X.here K.1 rfl (hb K.2.2.2.1 hd) rfl S) hr
theorem g_lxor (K : Kx Z own nm bytes ml rt p s m meth c) (pc : Nat) {x y : Int64} (hd : decode bytes pc = .ok (.lxor, 1))  (hr : Go p l e R s m args below meth c n0 Q h k n (mkF m (pc + 1) Ls (.long (x ^^^ y) :: st))) : Go p l e R s m args below meth c n0 Q h k n (mkF m pc Ls (.long y :: .long x :: st)) :=
  go_step (fun T L X t S => XT.lxor X.here K.1 rfl (hb K.2.2.2.1 hd) rfl S) hr
theorem g_ldiv (K : Kx Z own nm bytes ml rt p s m meth c) (pc : Nat) {x y : Int64} (hd : decode bytes pc = .ok (.ldiv, 1)) (hy : y ≠ 0) (hr : Go p l e R s m args below meth c n0 Q h k n (mkF m (pc + 1) Ls (.long (x / y) :: st))) : Go p l e R s m args below meth c n0 Q h k n (mkF m pc Ls (.long y :: .long x :: st)) :=
  go_step (fun T L X t S => XT.ldiv X.here K.1 rfl (hb K.2.2.2.1 hd) rfl hy S) hr
theorem g_lshl (K : Kx Z own nm bytes ml rt p s m meth c) (pc : Nat) {x : Int64} {y : Int32} (hd : decode bytes pc = .ok (.lshl, 1))  (hr : Go p l e R s m args below meth c n0 Q h k n (mkF m (pc + 1) Ls (.long (x <<< (y.toInt64 &&& 63)) :: st))) : Go p l e R s m args below meth c n0 Q h k n (mkF m pc Ls (.int y :: .long x :: st)) :=
  go_step (fun T L X t S => XT.lshl X.here K.1 rfl (hb K.2.2.2.1 hd) rfl S) hr
theorem g_lshr (K : Kx Z own nm bytes ml rt p s m meth c) (pc : Nat) {x : Int64} {y : Int32} (hd : decode bytes pc = .ok (.lshr, 1))  (hr : Go p l e R s m args below meth c n0 Q h k n (mkF m (pc + 1) Ls (.long (x >>> (y.toInt64 &&& 63)) :: st))) : Go p l e R s m args below meth c n0 Q h k n (mkF m pc Ls (.int y :: .long x :: st)) :=
  go_step (fun T L X t S => XT.lshr X.here K.1 rfl (hb K.2.2.2.1 hd) rfl S) hr
theorem g_lushr (K : Kx Z own nm bytes ml rt p s m meth c) (pc : Nat) {x : Int64} {y : Int32} (hd : decode bytes pc = .ok (.lushr, 1))  (hr : Go p l e R s m args below meth c n0 Q h k n (mkF m (pc + 1) Ls (.long (XT.ushrL x y) :: st))) : Go p l e R s m args below meth c n0 Q h k n (mkF m pc Ls (.int y :: .long x :: st)) :=
  go_step (fun T L X t S => XT.lushr X.here K.1 rfl (hb K.2.2.2.1 hd) rfl S) hr
theorem g_lneg (K : Kx Z own nm bytes ml rt p s m meth c) (pc : Nat) {x : Int64} (hd : decode bytes pc = .ok (.lneg, 1))  (hr : Go p l e R s m args below meth c n0 Q h k n (mkF m (pc + 1) Ls (.long (-x) :: st))) : Go p l e R s m args below meth c n0 Q h k n (mkF m pc Ls (.long x :: st)) :=
  go_step (fun T L X t S => XT.lneg X.here K.1 rfl (hb K.2.2.2.1 hd) rfl S) hr
theorem g_i2l (K : Kx Z own nm bytes ml rt p s m meth c) (pc : Nat) {x : Int32} (hd : decode bytes pc = .ok (.i2l, 1))  (hr : Go p l e R s m args below meth c n0 Q h k n (mkF m (pc + 1) Ls (.long x.toInt64 :: st))) : Go p l e R s m args below meth c n0 Q h k n (mkF m pc Ls (.int x :: st)) :=
  go_step (fun T L X t S => XT.i2l X.here K.1 rfl (hb K.2.2.2.1 hd) rfl S) hr
theorem g_l2i (K : Kx Z own nm bytes ml rt p s m meth c) (pc : Nat) {x : Int64} (hd : decode bytes pc = .ok (.l2i, 1))  (hr : Go p l e R s m args below meth c n0 Q h k n (mkF m (pc + 1) Ls (.int x.toInt32 :: st))) : Go p l e R s m args below meth c n0 Q h k n (mkF m pc Ls (.long x :: st)) :=
  go_step (fun T L X t S => XT.l2i X.here K.1 rfl (hb K.2.2.2.1 hd) rfl S) hr
theorem g_i2b (K : Kx Z own nm bytes ml rt p s m meth c) (pc : Nat) {x : Int32} (hd : decode bytes pc = .ok (.i2b, 1))  (hr : Go p l e R s m args below meth c n0 Q h k n (mkF m (pc + 1) Ls (.int x.toInt8.toInt32 :: st))) : Go p l e R s m args below meth c n0 Q h k n (mkF m pc Ls (.int x :: st)) :=
  go_step (fun T L X t S => XT.i2b X.here K.1 rfl (hb K.2.2.2.1 hd) rfl S) hr
theorem g_i2s (K : Kx Z own nm bytes ml rt p s m meth c) (pc : Nat) {x : Int32} (hd : decode bytes pc = .ok (.i2s, 1))  (hr : Go p l e R s m args below meth c n0 Q h k n (mkF m (pc + 1) Ls (.int x.toInt16.toInt32 :: st))) : Go p l e R s m args below meth c n0 Q h k n (mkF m pc Ls (.int x :: st)) :=
  go_step (fun T L X t S => XT.i2s X.here K.1 rfl (hb K.2.2.2.1 hd) rfl S) hr
theorem g_lcmp (K : Kx Z own nm bytes ml rt p s m meth c) (pc : Nat) {x y : Int64} (hd : decode bytes pc = .ok (.lcmp, 1))  (hr : Go p l e R s m args below meth c n0 Q h k n (mkF m (pc + 1) Ls (.int (XT.cmpL x y) :: st))) : Go p l e R s m args below meth c n0 Q h k n (mkF m pc Ls (.long y :: .long x :: st)) :=
  go_step (fun T L X t S => XT.lcmp X.here K.1 rfl (hb K.2.2.2.1 hd) rfl S) hr
theorem g_dup (K : Kx Z own nm bytes ml rt p s m meth c) (pc : Nat) {v : Value} (hd : decode bytes pc = .ok (.dup, 1)) (hc : v.category = 1) (hr : Go p l e R s m args below meth c n0 Q h k n (mkF m (pc + 1) Ls (v :: v :: st))) : Go p l e R s m args below meth c n0 Q h k n (mkF m pc Ls (v :: st)) :=
  go_step (fun T L X t S => XS.dup X.here K.1 rfl (hb K.2.2.2.1 hd) rfl hc S) hr
theorem g_pop (K : Kx Z own nm bytes ml rt p s m meth c) (pc : Nat) {v : Value} (hd : decode bytes pc = .ok (.pop, 1)) (hc : v.category = 1) (hr : Go p l e R s m args below meth c n0 Q h k n (mkF m (pc + 1) Ls st)) : Go p l e R s m args below meth c n0 Q h k n (mkF m pc Ls (v :: st)) :=
  go_step (fun T L X t S => XT.pop X.here K.1 rfl (hb K.2.2.2.1 hd) rfl hc S) hr
theorem g_goto (K : Kx Z own nm bytes ml rt p s m meth c) (pc pc' : Nat) {o : Int} (hd : decode bytes pc = .ok (.goto o, 3)) (ho : 0 ≤ (pc : Int) + o) (hp : ((pc : Int) + o).toNat = pc') (hr : Go p l e R s m args below meth c n0 Q h k n (mkF m pc' Ls st)) : Go p l e R s m args below meth c n0 Q h k n (mkF m pc Ls st) :=
  go_step (fun T L X t S => XS.goto X.here K.1 rfl rfl (hb K.2.2.2.1 hd) ho hp S) hr
theorem g_if_eq (K : Kx Z own nm bytes ml rt p s m meth c) (pc pc' : Nat) {o : Int} {x : Int32} (hd : decode bytes pc = .ok (.ifCond .eq o, 3)) (ho : 0 ≤ (pc : Int) + o) (hp : ((pc : Int) + o).toNat = pc') (hT : x = 0 → Go p l e R s m args below meth c n0 Q h k n (mkF m pc' Ls st)) (hF : ¬ x = 0 → Go p l e R s m args below meth c n0 Q h k n (mkF m (pc + 3) Ls st)) : Go p l e R s m args below meth c n0 Q h k n (mkF m pc Ls (.int x :: st)) := by
  by_cases q : x = 0
  · exact go_step (fun T L X t S => XS.ifYes X.here K.1 rfl rfl (hb K.2.2.2.1 hd) rfl (XT.i0_eq_t q) ho hp S) (hT q)
  · exact go_step (fun T L X t S => XS.ifNo X.here K.1 rfl (hb K.2.2.2.1 hd) rfl (XT.i0_eq_f q) S) (hF q)
theorem g_ii_eq (K : Kx Z own nm bytes ml rt p s m meth c) (pc pc' : Nat) {o : Int} {x y : Int32} (hd : decode bytes pc = .ok (.if_icmp .eq o, 3)) (ho : 0 ≤ (pc : Int) + o) (hp : ((pc : Int) + o).toNat = pc') (hT : x = y → Go p l e R s m args below meth c n0 Q h k n (mkF m pc' Ls st)) (hF : ¬ x = y → Go p l e R s m args below meth c n0 Q h k n (mkF m (pc + 3) Ls st)) : Go p l e R s m args below meth c n0 Q h k n (mkF m pc Ls (.int y :: .int x :: st)) := by
  by_cases q : x = y
  · exact go_step (fun T L X t S => XS.icmpYes X.here K.1 rfl rfl (hb K.2.2.2.1 hd) rfl (XT.ii_eq_t q) ho hp S) (hT q)
  · exact go_step (fun T L X t S => XS.icmpNo X.here K.1 rfl (hb K.2.2.2.1 hd) rfl (XT.ii_eq_f q) S) (hF q)
theorem g_ll_eq (K : Kx Z own nm bytes ml rt p s m meth c) (pc pc' : Nat) {o : Int} {x y : Int64} (hd : decode bytes pc = .ok (.ifCond .eq o, 3)) (ho : 0 ≤ (pc : Int) + o) (hp : ((pc : Int) + o).toNat = pc') (hT : x = y → Go p l e R s m args below meth c n0 Q h k n (mkF m pc' Ls st)) (hF : ¬ x = y → Go p l e R s m args below meth c n0 Q h k n (mkF m (pc + 3) Ls st)) : Go p l e R s m args below meth c n0 Q h k n (mkF m pc Ls (.int (XT.cmpL x y) :: st)) := by
  by_cases q : x = y
  · exact go_step (fun T L X t S => XS.ifYes X.here K.1 rfl rfl (hb K.2.2.2.1 hd) rfl (XT.ll_eq_t q) ho hp S) (hT q)
  · exact go_step (fun T L X t S => XS.ifNo X.here K.1 rfl (hb K.2.2.2.1 hd) rfl (XT.ll_eq_f q) S) (hF q)
theorem g_if_ne (K : Kx Z own nm bytes ml rt p s m meth c) (pc pc' : Nat) {o : Int} {x : Int32} (hd : decode bytes pc = .ok (.ifCond .ne o, 3)) (ho : 0 ≤ (pc : Int) + o) (hp : ((pc : Int) + o).toNat = pc') (hT : ¬ x = 0 → Go p l e R s m args below meth c n0 Q h k n (mkF m pc' Ls st)) (hF : x = 0 → Go p l e R s m args below meth c n0 Q h k n (mkF m (pc + 3) Ls st)) : Go p l e R s m args below meth c n0 Q h k n (mkF m pc Ls (.int x :: st)) := by
  by_cases q : x = 0
  · exact go_step (fun T L X t S => XS.ifNo X.here K.1 rfl (hb K.2.2.2.1 hd) rfl (XT.i0_ne_f q) S) (hF q)
  · exact go_step (fun T L X t S => XS.ifYes X.here K.1 rfl rfl (hb K.2.2.2.1 hd) rfl (XT.i0_ne_t q) ho hp S) (hT q)
theorem g_ii_ne (K : Kx Z own nm bytes ml rt p s m meth c) (pc pc' : Nat) {o : Int} {x y : Int32} (hd : decode bytes pc = .ok (.if_icmp .ne o, 3)) (ho : 0 ≤ (pc : Int) + o) (hp : ((pc : Int) + o).toNat = pc') (hT : ¬ x = y → Go p l e R s m args below meth c n0 Q h k n (mkF m pc' Ls st)) (hF : x = y → Go p l e R s m args below meth c n0 Q h k n (mkF m (pc + 3) Ls st)) : Go p l e R s m args below meth c n0 Q h k n (mkF m pc Ls (.int y :: .int x :: st)) := by
  by_cases q : x = y
  · exact go_step (fun T L X t S => XS.icmpNo X.here K.1 rfl (hb K.2.2.2.1 hd) rfl (XT.ii_ne_f q) S) (hF q)
  · exact go_step (fun T L X t S => XS.icmpYes X.here K.1 rfl rfl (hb K.2.2.2.1 hd) rfl (XT.ii_ne_t q) ho hp S) (hT q)
theorem g_ll_ne (K : Kx Z own nm bytes ml rt p s m meth c) (pc pc' : Nat) {o : Int} {x y : Int64} (hd : decode bytes pc = .ok (.ifCond .ne o, 3)) (ho : 0 ≤ (pc : Int) + o) (hp : ((pc : Int) + o).toNat = pc') (hT : ¬ x = y → Go p l e R s m args below meth c n0 Q h k n (mkF m pc' Ls st)) (hF : x = y → Go p l e R s m args below meth c n0 Q h k n (mkF m (pc + 3) Ls st)) : Go p l e R s m args below meth c n0 Q h k n (mkF m pc Ls (.int (XT.cmpL x y) :: st)) := by
  by_cases q : x = y
  · exact go_step (fun T L X t S => XS.ifNo X.here K.1 rfl (hb K.2.2.2.1 hd) rfl (XT.ll_ne_f q) S) (hF q)
  · exact go_step (fun T L X t S => XS.ifYes X.here K.1 rfl rfl (hb K.2.2.2.1 hd) rfl (XT.ll_ne_t q) ho hp S) (hT q)
theorem g_if_lt (K : Kx Z own nm bytes ml rt p s m meth c) (pc pc' : Nat) {o : Int} {x : Int32} (hd : decode bytes pc = .ok (.ifCond .lt o, 3)) (ho : 0 ≤ (pc : Int) + o) (hp : ((pc : Int) + o).toNat = pc') (hT : x < 0 → Go p l e R s m args below meth c n0 Q h k n (mkF m pc' Ls st)) (hF : ¬ x < 0 → Go p l e R s m args below meth c n0 Q h k n (mkF m (pc + 3) Ls st)) : Go p l e R s m args below meth c n0 Q h k n (mkF m pc Ls (.int x :: st)) := by
  by_cases q : x < 0
  · exact go_step (fun T L X t S => XS.ifYes X.here K.1 rfl rfl (hb K.2.2.2.1 hd) rfl (XT.i0_lt_t q) ho hp S) (hT q)
  · exact go_step (fun T L X t S => XS.ifNo X.here K.1 rfl (hb K.2.2.2.1 hd) rfl (XT.i0_lt_f q) S) (hF q)
theorem g_ii_lt (K : Kx Z own nm bytes ml rt p s m meth c) (pc pc' : Nat) {o : Int} {x y : Int32} (hd : decode bytes pc = .ok (.if_icmp .lt o, 3)) (ho : 0 ≤ (pc : Int) + o) (hp : ((pc : Int) + o).toNat = pc') (hT : x < y → Go p l e R s m args below meth c n0 Q h k n (mkF m pc' Ls st)) (hF : ¬ x < y → Go p l e R s m args below meth c n0 Q h k n (mkF m (pc + 3) Ls st)) : Go p l e R s m args below meth c n0 Q h k n (mkF m pc Ls (.int y :: .int x :: st)) := by
  by_cases q : x < y
  · exact go_step (fun T L X t S => XS.icmpYes X.here K.1 rfl rfl (hb K.2.2.2.1 hd) rfl (XT.ii_lt_t q) ho hp S) (hT q)
  · exact go_step (fun T L X t S => XS.icmpNo X.here K.1 rfl (hb K.2.2.2.1 hd) rfl (XT.ii_lt_f q) S) (hF q)
theorem g_ll_lt (K : Kx Z own nm bytes ml rt p s m meth c) (pc pc' : Nat) {o : Int} {x y : Int64} (hd : decode bytes pc = .ok (.ifCond .lt o, 3)) (ho : 0 ≤ (pc : Int) + o) (hp : ((pc : Int) + o).toNat = pc') (hT : x < y → Go p l e R s m args below meth c n0 Q h k n (mkF m pc' Ls st)) (hF : ¬ x < y → Go p l e R s m args below meth c n0 Q h k n (mkF m (pc + 3) Ls st)) : Go p l e R s m args below meth c n0 Q h k n (mkF m pc Ls (.int (XT.cmpL x y) :: st)) := by
  by_cases q : x < y
  · exact go_step (fun T L X t S => XS.ifYes X.here K.1 rfl rfl (hb K.2.2.2.1 hd) rfl (XT.ll_lt_t q) ho hp S) (hT q)
  · exact go_step (fun T L X t S => XS.ifNo X.here K.1 rfl (hb K.2.2.2.1 hd) rfl (XT.ll_lt_f q) S) (hF q)
theorem g_if_ge (K : Kx Z own nm bytes ml rt p s m meth c) (pc pc' : Nat) {o : Int} {x : Int32} (hd : decode bytes pc = .ok (.ifCond .ge o, 3)) (ho : 0 ≤ (pc : Int) + o) (hp : ((pc : Int) + o).toNat = pc') (hT : ¬ x < 0 → Go p l e R s m args below meth c n0 Q h k n (mkF m pc' Ls st)) (hF : x < 0 → Go p l e R s m args below meth c n0 Q h k n (mkF m (pc + 3) Ls st)) : Go p l e R s m args below meth c n0 Q h k n (mkF m pc Ls (.int x :: st)) := by
  by_cases q : x < 0
  · exact go_step (fun T L X t S => XS.ifNo X.here K.1 rfl (hb K.2.2.2.1 hd) rfl (XT.i0_ge_f q) S) (hF q)
  · exact go_step (fun T L X t S => XS.ifYes X.here K.1 rfl rfl (hb K.2.2.2.1 hd) rfl (XT.i0_ge_t q) ho hp S) (hT q)
theorem g_ii_ge (K : Kx Z own nm bytes ml rt p s m meth c) (pc pc' : Nat) {o : Int} {x y : Int32} (hd : decode bytes pc = .ok (.if_icmp .ge o, 3)) (ho : 0 ≤ (pc : Int) + o) (hp : ((pc : Int) + o).toNat = pc') (hT : ¬ x < y → Go p l e R s m args below meth c n0 Q h k n (mkF m pc' Ls st)) (hF : x < y → Go p l e R s m args below meth c n0 Q h k n (mkF m (pc + 3) Ls st)) : Go p l e R s m args below meth c n0 Q h k n (mkF m pc Ls (.int y :: .int x :: st)) := by
  by_cases q : x < y
  · exact go_step (fun T L X t S => XS.icmpNo X.here K.1 rfl (hb K.2.2.2.1 hd) rfl (XT.ii_ge_f q) S) (hF q)
  · exact go_step (fun T L X t S => XS.icmpYes X.here K.1 rfl rfl (hb K.2.2.2.1 hd) rfl (XT.ii_ge_t q) ho hp S) (hT q)
theorem g_ll_ge (K : Kx Z own nm bytes ml rt p s m meth c) (pc pc' : Nat) {o : Int} {x y : Int64} (hd : decode bytes pc = .ok (.ifCond .ge o, 3)) (ho : 0 ≤ (pc : Int) + o) (hp : ((pc : Int) + o).toNat = pc') (hT : ¬ x < y → Go p l e R s m args below meth c n0 Q h k n (mkF m pc' Ls st)) (hF : x < y → Go p l e R s m args below meth c n0 Q h k n (mkF m (pc + 3) Ls st)) : Go p l e R s m args below meth c n0 Q h k n (mkF m pc Ls (.int (XT.cmpL x y) :: st)) := by
  by_cases q : x < y
  · exact go_step (fun T L X t S => XS.ifNo X.here K.1 rfl (hb K.2.2.2.1 hd) rfl (XT.ll_ge_f q) S) (hF q)
  · exact go_step (fun T L X t S => XS.ifYes X.here K.1 rfl rfl (hb K.2.2.2.1 hd) rfl (XT.ll_ge_t q) ho hp S) (hT q)
theorem g_if_gt (K : Kx Z own nm bytes ml rt p s m meth c) (pc pc' : Nat) {o : Int} {x : Int32} (hd : decode bytes pc = .ok (.ifCond .gt o, 3)) (ho : 0 ≤ (pc : Int) + o) (hp : ((pc : Int) + o).toNat = pc') (hT : 0 < x → Go p l e R s m args below meth c n0 Q h k n (mkF m pc' Ls st)) (hF : ¬ 0 < x → Go p l e R s m args below meth c n0 Q h k n (mkF m (pc + 3) Ls st)) : Go p l e R s m args below meth c n0 Q h k n (mkF m pc Ls (.int x :: st)) := by
  by_cases q : 0 < x
  · exact go_step (fun T L X t S => XS.ifYes X.here K.1 rfl rfl (hb K.2.2.2.1 hd) rfl (XT.i0_gt_t q) ho hp S) (hT q)
  · exact go_step (fun T L X t S => XS.ifNo X.here K.1 rfl (hb K.2.2.2.1 hd) rfl (XT.i0_gt_f q) S) (hF q)
theorem g_ii_gt (K : Kx Z own nm bytes ml rt p s m meth c) (pc pc' : Nat) {o : Int} {x y : Int32} (hd : decode bytes pc = .ok (.if_icmp .gt o, 3)) (ho : 0 ≤ (pc : Int) + o) (hp : ((pc : Int) + o).toNat = pc') (hT : y < x → Go p l e R s m args below meth c n0 Q h k n (mkF m pc' Ls st)) (hF : ¬ y < x → Go p l e R s m args below meth c n0 Q h k n (mkF m (pc + 3) Ls st)) : Go p l e R s m args below meth c n0 Q h k n (mkF m pc Ls (.int y :: .int x :: st)) := by
  by_cases q : y < x
  · exact go_step (fun T L X t S => XS.icmpYes X.here K.1 rfl rfl (hb K.2.2.2.1 hd) rfl (XT.ii_gt_t q) ho hp S) (hT q)
  · exact go_step (fun T L X t S => XS.icmpNo X.here K.1 rfl (hb K.2.2.2.1 hd) rfl (XT.ii_gt_f q) S) (hF q)
theorem g_ll_gt (K : Kx Z own nm bytes ml rt p s m meth c) (pc pc' : Nat) {o : Int} {x y : Int64} (hd : decode bytes pc = .ok (.ifCond .gt o, 3)) (ho : 0 ≤ (pc : Int) + o) (hp : ((pc : Int) + o).toNat = pc') (hT : y < x → Go p l e R s m args below meth c n0 Q h k n (mkF m pc' Ls st)) (hF : ¬ y < x → Go p l e R s m args below meth c n0 Q h k n (mkF m (pc + 3) Ls st)) : Go p l e R s m args below meth c n0 Q h k n (mkF m pc Ls (.int (XT.cmpL x y) :: st)) := by
  by_cases q : y < x
  · exact go_step (fun T L X t S => XS.ifYes X.here K.1 rfl rfl (hb K.2.2.2.1 hd) rfl (XT.ll_gt_t q) ho hp S) (hT q)
  · exact go_step (fun T L X t S => XS.ifNo X.here K.1 rfl (hb K.2.2.2.1 hd) rfl (XT.ll_gt_f q) S) (hF q)
theorem g_if_le (K : Kx Z own nm bytes ml rt p s m meth c) (pc pc' : Nat) {o : Int} {x : Int32} (hd : decode bytes pc = .ok (.ifCond .le o, 3)) (ho : 0 ≤ (pc : Int) + o) (hp : ((pc : Int) + o).toNat = pc') (hT : ¬ 0 < x → Go p l e R s m args below meth c n0 Q h k n (mkF m pc' Ls st)) (hF : 0 < x → Go p l e R s m args below meth c n0 Q h k n (mkF m (pc + 3) Ls st)) : Go p l e R s m args below meth c n0 Q h k n (mkF m pc Ls (.int x :: st)) := by
  by_cases q : 0 < x
  · exact go_step (fun T L X t S => XS.ifNo X.here K.1 rfl (hb K.2.2.2.1 hd) rfl (XT.i0_le_f q) S) (hF q)
  · exact go_step (fun T L X t S => XS.ifYes X.here K.1 rfl rfl (hb K.2.2.2.1 hd) rfl (XT.i0_le_t q) ho hp S) (hT q)
theorem g_ii_le (K : Kx Z own nm bytes ml rt p s m meth c) (pc pc' : Nat) {o : Int} {x y : Int32} (hd : decode bytes pc = .ok (.if_icmp .le o, 3)) (ho : 0 ≤ (pc : Int) + o) (hp : ((pc : Int) + o).toNat = pc') (hT : ¬ y < x → Go p l e R s m args below meth c n0 Q h k n (mkF m pc' Ls st)) (hF : y < x → Go p l e R s m args below meth c n0 Q h k n (mkF m (pc + 3) Ls st)) : Go p l e R s m args below meth c n0 Q h k n (mkF m pc Ls (.int y :: .int x :: st)) := by
  by_cases q : y < x
  · exact go_step (fun T L X t S => XS.icmpNo X.here K.1 rfl (hb K.2.2.2.1 hd) rfl (XT.ii_le_f q) S) (hF q)
  · exact go_step (fun T L X t S => XS.icmpYes X.here K.1 rfl rfl (hb K.2.2.2.1 hd) rfl (XT.ii_le_t q) ho hp S) (hT q)
theorem g_ll_le (K : Kx Z own nm bytes ml rt p s m meth c) (pc pc' : Nat) {o : Int} {x y : Int64} (hd : decode bytes pc = .ok (.ifCond .le o, 3)) (ho : 0 ≤ (pc : Int) + o) (hp : ((pc : Int) + o).toNat = pc') (hT : ¬ y < x → Go p l e R s m args below meth c n0 Q h k n (mkF m pc' Ls st)) (hF : y < x → Go p l e R s m args below meth c n0 Q h k n (mkF m (pc + 3) Ls st)) : Go p l e R s m args below meth c n0 Q h k n (mkF m pc Ls (.int (XT.cmpL x y) :: st)) := by
  by_cases q : y < x
  · exact go_step (fun T L X t S => XS.ifNo X.here K.1 rfl (hb K.2.2.2.1 hd) rfl (XT.ll_le_f q) S) (hF q)
  · exact go_step (fun T L X t S => XS.ifYes X.here K.1 rfl rfl (hb K.2.2.2.1 hd) rfl (XT.ll_le_t q) ho hp S) (hT q)
theorem g_aa_eq (K : Kx Z own nm bytes ml rt p s m meth c) (pc pc' : Nat) {o : Int} {x y : Value} (hx' : x.isRef = true) (hy' : y.isRef = true) (hd : decode bytes pc = .ok (.if_acmp .eq o, 3)) (ho : 0 ≤ (pc : Int) + o) (hp : ((pc : Int) + o).toNat = pc') (hT : x = y → Go p l e R s m args below meth c n0 Q h k n (mkF m pc' Ls st)) (hF : ¬ x = y → Go p l e R s m args below meth c n0 Q h k n (mkF m (pc + 3) Ls st)) : Go p l e R s m args below meth c n0 Q h k n (mkF m pc Ls (y :: x :: st)) := by
  by_cases q : x = y
  · exact go_step (fun T L X t S => XT.acmpYes X.here K.1 rfl rfl (hb K.2.2.2.1 hd) rfl hx' hy' (XT.aa_eq_t q) ho hp S) (hT q)
  · exact go_step (fun T L X t S => XT.acmpNo X.here K.1 rfl (hb K.2.2.2.1 hd) rfl hx' hy' (XT.aa_eq_f q) S) (hF q)
theorem g_aa_ne (K : Kx Z own nm bytes ml rt p s m meth c) (pc pc' : Nat) {o : Int} {x y : Value} (hx' : x.isRef = true) (hy' : y.isRef = true) (hd : decode bytes pc = .ok (.if_acmp .ne o, 3)) (ho : 0 ≤ (pc : Int) + o) (hp : ((pc : Int) + o).toNat = pc') (hT : ¬ x = y → Go p l e R s m args below meth c n0 Q h k n (mkF m pc' Ls st)) (hF : x = y → Go p l e R s m args below meth c n0 Q h k n (mkF m (pc + 3) Ls st)) : Go p l e R s m args below meth c n0 Q h k n (mkF m pc Ls (y :: x :: st)) := by
  by_cases q : x = y
  · exact go_step (fun T L X t S => XT.acmpNo X.here K.1 rfl (hb K.2.2.2.1 hd) rfl hx' hy' (XT.aa_ne_f q) S) (hF q)
  · exact go_step (fun T L X t S => XT.acmpYes X.here K.1 rfl rfl (hb K.2.2.2.1 hd) rfl hx' hy' (XT.aa_ne_t q) ho hp S) (hT q)
theorem g_ifnull_ref (K : Kx Z own nm bytes ml rt p s m meth c) (pc : Nat) {o : Int} {b : Addr} (hd : decode bytes pc = .ok (.ifnull o, 3)) (hr : Go p l e R s m args below meth c n0 Q h k n (mkF m (pc + 3) Ls st)) : Go p l e R s m args below meth c n0 Q h k n (mkF m pc Ls (.ref b :: st)) :=
  go_step (fun T L X t S => XS.ifnullNo X.here K.1 rfl (hb K.2.2.2.1 hd) rfl S) hr
theorem g_ifnull_null (K : Kx Z own nm bytes ml rt p s m meth c) (pc pc' : Nat) {o : Int} (hd : decode bytes pc = .ok (.ifnull o, 3)) (ho : 0 ≤ (pc : Int) + o) (hp : ((pc : Int) + o).toNat = pc') (hr : Go p l e R s m args below meth c n0 Q h k n (mkF m pc' Ls st)) : Go p l e R s m args below meth c n0 Q h k n (mkF m pc Ls (.null :: st)) :=
  go_step (fun T L X t S => XS.ifnullYes X.here K.1 rfl rfl (hb K.2.2.2.1 hd) rfl ho hp S) hr
theorem g_ldc (K : Kx Z own nm bytes ml rt p s m meth c) (pc : Nat) {i : Nat} {v : Int32} (hd : decode bytes pc = .ok (.ldc i, 2)) (w : (Jvm.Cond.constant own i v).before a0 Z = true) (hr : Go p l e R s m args below meth c n0 Q h k n (mkF m (pc + 2) Ls (.int v :: st))) : Go p l e R s m args below meth c n0 Q h k n (mkF m pc Ls st) :=
  go_step (fun T L X t S => X.ldcI K.1 K.2.2.1 (mvT K.2.1 w) rfl (hb K.2.2.2.1 hd) S) hr
theorem g_ldc_w (K : Kx Z own nm bytes ml rt p s m meth c) (pc : Nat) {i : Nat} {v : Int32} (hd : decode bytes pc = .ok (.ldc_w i, 3)) (w : (Jvm.Cond.constant own i v).before a0 Z = true) (hr : Go p l e R s m args below meth c n0 Q h k n (mkF m (pc + 3) Ls (.int v :: st))) : Go p l e R s m args below meth c n0 Q h k n (mkF m pc Ls st) :=
  go_step (fun T L X t S => X.ldcWI K.1 K.2.2.1 (mvT K.2.1 w) rfl (hb K.2.2.2.1 hd) S) hr
theorem g_ldc2_w (K : Kx Z own nm bytes ml rt p s m meth c) (pc : Nat) {i : Nat} {v : Int64} (hd : decode bytes pc = .ok (.ldc2_w i, 3)) (w : (Jvm.Cond.constantLong own i v).before a0 Z = true) (hr : Go p l e R s m args below meth c n0 Q h k n (mkF m (pc + 3) Ls (.long v :: st))) : Go p l e R s m args below meth c n0 Q h k n (mkF m pc Ls st) :=
  go_step (fun T L X t S => X.ldc2J K.1 K.2.2.1 (mvT K.2.1 w) rfl (hb K.2.2.2.1 hd) S) hr
theorem g_ireturn (K : Kx Z own nm bytes ml rt p s m meth c) (pc : Nat) {z : Int32} (hd : decode bytes pc = .ok (.ireturn, 1)) (hrt : rt = some .int)  (hk : k ≤ R.cells) (hn : n ≤ R.slots) (hq : Q (some (.int z)) h) : Go p l e R s m args below meth c n0 Q h k n (mkF m pc Ls [.int z]) := by
  intro T L X eT N
  obtain ⟨fs, hr, hrun, hended, hW, hsame⟩ := X.leave (v := some (.int z)) (fun hh => by first | rfl | (rw [K.2.2.2.2.2.1, hrt] at hh; cases hh)) K.2.2.2.2.2.2.1
  refine ⟨_, _, X.ireturnOut K.1 (K.2.2.2.2.2.1.trans hrt) rfl (Or.inl rfl) (hb K.2.2.2.1 hd) hr, hrun, hended, _, L, rfl, ⟨?_, N⟩, ⟨_, rfl⟩, hW, hsame.mono hk hn⟩
  show Q _ T.heap
  rw [eT]; exact hq
theorem g_retN (K : Kx Z own nm bytes ml rt p s m meth c) (pc : Nat) {z : Int32} (t : FieldType) (hd : decode bytes pc = .ok (.ireturn, 1)) (hrt : rt = some t) (ht : t = .boolean ∨ t = .byte ∨ t = .char ∨ t = .short) (hk : k ≤ R.cells) (hn : n ≤ R.slots) (hq : Q (some (.int (nar t z))) h) : Go p l e R s m args below meth c n0 Q h k n (mkF m pc Ls (.int z :: st)) := by
  intro T L X eT N
  obtain ⟨fs, hr, hrun, hended, hW, hsame⟩ := X.leave (v := some (.int (nar t z))) (fun hh => by first | rfl | (rw [K.2.2.2.2.2.1, hrt] at hh; cases hh)) K.2.2.2.2.2.2.1
  refine ⟨_, _, retN X K.1 (K.2.2.2.2.2.1.trans hrt) ht (hb K.2.2.2.1 hd) hr, hrun, hended, _, L, rfl, ⟨?_, N⟩, ⟨_, rfl⟩, hW, hsame.mono hk hn⟩
  show Q _ T.heap
  rw [eT]; exact hq
theorem g_lreturn (K : Kx Z own nm bytes ml rt p s m meth c) (pc : Nat) {z : Int64} (hd : decode bytes pc = .ok (.lreturn, 1)) (hrt : rt = some .long)  (hk : k ≤ R.cells) (hn : n ≤ R.slots) (hq : Q (some (.long z)) h) : Go p l e R s m args below meth c n0 Q h k n (mkF m pc Ls [.long z]) := by
  intro T L X eT N
  obtain ⟨fs, hr, hrun, hended, hW, hsame⟩ := X.leave (v := some (.long z)) (fun hh => by first | rfl | (rw [K.2.2.2.2.2.1, hrt] at hh; cases hh)) K.2.2.2.2.2.2.1
  refine ⟨_, _, X.lreturnOut K.1 (K.2.2.2.2.2.1.trans hrt) (hb K.2.2.2.1 hd) hr, hrun, hended, _, L, rfl, ⟨?_, N⟩, ⟨_, rfl⟩, hW, hsame.mono hk hn⟩
  show Q _ T.heap
  rw [eT]; exact hq
theorem g_areturn (K : Kx Z own nm bytes ml rt p s m meth c) (pc : Nat) {w : Value} (t : FieldType) (hd : decode bytes pc = .ok (.areturn, 1)) (hrt : rt = some t) (hw : w.isRef = true) (ht : t.isReference = true) (hk : k ≤ R.cells) (hn : n ≤ R.slots) (hq : Q (some w) h) : Go p l e R s m args below meth c n0 Q h k n (mkF m pc Ls [w]) := by
  intro T L X eT N
  obtain ⟨fs, hr, hrun, hended, hW, hsame⟩ := X.leave (v := some w) (fun hh => by first | rfl | (rw [K.2.2.2.2.2.1, hrt] at hh; cases hh)) K.2.2.2.2.2.2.1
  refine ⟨_, _, X.areturnOut K.1 hw (K.2.2.2.2.2.1.trans hrt) ht (hb K.2.2.2.1 hd) hr, hrun, hended, _, L, rfl, ⟨?_, N⟩, ⟨_, rfl⟩, hW, hsame.mono hk hn⟩
  show Q _ T.heap
  rw [eT]; exact hq
theorem g_return (K : Kx Z own nm bytes ml rt p s m meth c) (pc : Nat)  (hd : decode bytes pc = .ok (.return_, 1)) (hrt : rt = none)  (hk : k ≤ R.cells) (hn : n ≤ R.slots) (hq : Q none h) : Go p l e R s m args below meth c n0 Q h k n (mkF m pc Ls []) := by
  intro T L X eT N
  obtain ⟨fs, hr, hrun, hended, hW, hsame⟩ := X.leave (v := none) (fun hh => by first | rfl | (rw [K.2.2.2.2.2.1, hrt] at hh; cases hh)) K.2.2.2.2.2.2.1
  refine ⟨_, _, X.returnOut K.1 (K.2.2.2.2.2.1.trans hrt) (hb K.2.2.2.1 hd) hr, hrun, hended, _, L, rfl, ⟨?_, N⟩, ⟨_, rfl⟩, hW, hsame.mono hk hn⟩
  show Q _ T.heap
  rw [eT]; exact hq
theorem g_getfield (K : Kx Z own nm bytes ml rt p s m meth c) (pc : Nat) {i : Nat} {C f d : String} {a : Addr} {v : Value} (hd : decode bytes pc = .ok (.getfield i, 3)) (w : (Jvm.Cond.fieldLink own i C f d).before a0 Z = true) (F : Fld Z h a C f d v) (hr : Go p l e R s m args below meth c n0 Q h k n (mkF m (pc + 3) Ls (v :: st))) : Go p l e R s m args below meth c n0 Q h k n (mkF m pc Ls (.ref a :: st)) := by
  intro T L X eT N
  obtain ⟨T', X', e', stp⟩ := getF X K.1 K.2.1 K.2.2.1 (host := "") (Or.inl w) Via.refl eT F (g := mkF m pc Ls (.ref a :: st)) rfl rfl (hb K.2.2.2.1 hd)
  obtain ⟨s₂, o, S, r⟩ := hr T' L X' e' N
  exact ⟨s₂, o, stp _ S, r⟩
theorem g_putfield (K : Kx Z own nm bytes ml rt p s m meth c) (pc : Nat) {i kk : Nat} {C f d : String} {a : Addr} {v old : Value} (ty : FieldType) (hd : decode bytes pc = .ok (.putfield i, 3)) (w : (Jvm.Cond.fieldLink own i C f d).before a0 Z = true) (F : Fld Z h a C f d old) (E : Exa Z h a C) (Lw : (Jvm.Cond.lays C C f d).before a0 Z = true ∨ ((Jvm.Cond.laysFinal C C f d).before a0 Z = true ∧ own = C ∧ nm = "<init>")) (wi : (Jvm.Cond.instantiable C kk).before a0 Z = true) (hty : parseFieldDescriptor d = some ty) (hnv : narrow ty v = v) (hfv : fits ty v = true) (ha : n0 ≤ a) (hr : ∀ h', Wr h h' a (Jvm.RoadKit.slotOf Z C f d) v → Keep h h' [a] → Go p l e R s m args below meth c n0 Q h' k n (mkF m (pc + 3) Ls st)) : Go p l e R s m args below meth c n0 Q h k n (mkF m pc Ls (v :: .ref a :: st)) := by
  intro T L X eT N
  obtain ⟨T', h', X', e', W, stp⟩ := putF X K.1 K.2.1 K.2.2.1 (host := "") (Or.inl w) Via.refl eT F E (Lw.imp id fun q => ⟨q.1, q.2.1, K.2.2.2.2.2.2.2.trans q.2.2⟩) wi hty hnv hfv (g := mkF m pc Ls (v :: .ref a :: st)) rfl rfl (hb K.2.2.2.1 hd)
  obtain ⟨s₂, o, S, r⟩ := hr h' W (Keep.of_wr W) T' _ X' e' (Fr.snoc X' N ha)
  exact ⟨s₂, o, stp _ S, r⟩
theorem g_new (K : Kx Z own nm bytes ml rt p s m meth c) (pc : Nat) {i kk : Nat} {C : String} (hd : decode bytes pc = .ok (.new i, 3)) (w : (Jvm.Cond.classLink own i C).before a0 Z = true) (wi : (Jvm.Cond.instantiable C kk).before a0 Z = true) (wz : (Jvm.Cond.initialized C).before a0 Z = true) (hk : k + 1 ≤ R.cells) (hn : n + kk ≤ R.slots) (hr : ∀ h' a, a = h.size → Keep h h' [] → Exa Z h' a C → (∀ {O f d : String} {ty : FieldType}, Laid Z a0 C O f d → parseFieldDescriptor d = some ty → Fld Z h' a O f d (defaultValue ty)) → Go p l e R s m args below meth c n0 Q h' (k + 1) (n + kk) (mkF m (pc + 3) Ls (.ref a :: st))) : Go p l e R s m args below meth c n0 Q h k n (mkF m pc Ls st) := by
  intro T L X eT N
  obtain ⟨T', h', X', e', E, A, D, -, stp⟩ := newO X K.1 K.2.1 K.2.2.1 w wi wz eT (g := mkF m pc Ls st) rfl (hb K.2.2.2.1 hd) hk hn
  obtain ⟨s₂, o, S, r⟩ := hr h' h.size rfl (keep_ext E) A D T' L X' e' N
  exact ⟨s₂, o, stp _ S, r⟩
theorem g_initO (K : Kx Z own nm bytes ml rt p s m meth c) (pc : Nat) {i : Nat} {a : Addr} (hd : decode bytes pc = .ok (.invokespecial i, 3)) (w1 : (Jvm.Cond.methodLink own i Lib.objectInit).before a0 Z = true) (w2 : (Jvm.Cond.instanceMethod Lib.objectInit).before a0 Z = true) (w3 : (Jvm.Cond.code Lib.objectInit ⟨#[0xb1]⟩ 1 none).before a0 Z = true) (hls : Ls.size = ml) (hf : 1 ≤ R.frames) (W : Nat) (hW : (st.map fun v => v.category).sum ≤ W) (hlo : W + 12 ≤ R.locals) (hr : Go p l e R s m args below meth c n0 Q h k n (mkF m (pc + 3) Ls st)) : Go p l e R s m args below meth c n0 Q h k n (mkF m pc Ls (.ref a :: st)) := by
  intro T L X eT N
  obtain ⟨T', X', e', stp⟩ := initO X K.1 K.2.1 K.2.2.1 w1 w2 w3 eT (g := mkF m pc Ls (.ref a :: st)) rfl (hls.trans K.2.2.2.2.1.symm) rfl (hb K.2.2.2.1 hd) hf (W := W) (by show 2 * 0 + _ ≤ _; omega) hlo
  obtain ⟨s₂, o, S, r⟩ := hr T' L X' e' N
  exact ⟨s₂, o, stp _ S, r⟩
theorem g_newI (K : Kx Z own nm bytes ml rt p s m meth c) (pc : Nat) {aty : ArrayType} {z : Int32} (ty : FieldType) (hd : decode bytes pc = .ok (.newarray aty, 2)) (hty : newarray.typeOf aty = ty) (hdef : defaultValue ty = .int 0) (w : (Jvm.Cond.arrayClass ty).before a0 Z = true) (hz : ¬ z < 0) (cap : Nat) (hcap : z.toNatClampNeg ≤ cap) (hb8 : cap * 8 ≤ 536870912) (hk : k + 1 ≤ R.cells) (hn : n + cap ≤ R.slots) (hr : ∀ h' a, a = h.size → Keep h h' [] → IA Z h' a ty (List.replicate z.toNatClampNeg 0) → Go p l e R s m args below meth c n0 Q h' (k + 1) (n + cap) (mkF m (pc + 2) Ls (.ref a :: st))) : Go p l e R s m args below meth c n0 Q h k n (mkF m pc Ls (.int z :: st)) := by
  subst hty
  intro T L X eT N
  obtain ⟨T', h', cA, X', e', E, A, stp⟩ := newP X K.1 K.2.1 w eT (g := mkF m pc Ls (.int z :: st)) rfl (hb K.2.2.2.1 hd) rfl hz hcap hb8 hk hn
  obtain ⟨s₂, o, S, r⟩ := hr h' h.size rfl (keep_ext E) ⟨_, A, by simp [newA, hdef]⟩ T' L X' e' N
  exact ⟨s₂, o, stp _ S, r⟩
theorem g_newJ (K : Kx Z own nm bytes ml rt p s m meth c) (pc : Nat) {z : Int32} (hd : decode bytes pc = .ok (.newarray .long, 2)) (w : (Jvm.Cond.arrayClass .long).before a0 Z = true) (hz : ¬ z < 0) (cap : Nat) (hcap : z.toNatClampNeg ≤ cap) (hb8 : cap * 8 ≤ 536870912) (hk : k + 1 ≤ R.cells) (hn : n + cap ≤ R.slots) (hr : ∀ h' a, a = h.size → Keep h h' [] → LA Z h' a (List.replicate z.toNatClampNeg 0) → Go p l e R s m args below meth c n0 Q h' (k + 1) (n + cap) (mkF m (pc + 2) Ls (.ref a :: st))) : Go p l e R s m args below meth c n0 Q h k n (mkF m pc Ls (.int z :: st)) := by
  intro T L X eT N
  obtain ⟨T', h', cA, X', e', E, A, stp⟩ := newP X K.1 K.2.1 (aty := .long) w eT (g := mkF m pc Ls (.int z :: st)) rfl (hb K.2.2.2.1 hd) rfl hz hcap hb8 hk hn
  obtain ⟨s₂, o, S, r⟩ := hr h' h.size rfl (keep_ext E) ⟨_, A, by simp [newA, defaultValue, newarray.typeOf]⟩ T' L X' e' N
  exact ⟨s₂, o, stp _ S, r⟩
theorem g_iaload (K : Kx Z own nm bytes ml rt p s m meth c) (pc : Nat) {a : Addr} {xs : List Int32} {j : Int32} (v : Int32) (hd : decode bytes pc = .ok (.iaload, 1)) (F : IA Z h a .int xs) (hj : ¬ j < 0) (hv : xs[j.toNatClampNeg]? = some v) (hr : Go p l e R s m args below meth c n0 Q h k n (mkF m (pc + 1) Ls (.int v :: st))) : Go p l e R s m args below meth c n0 Q h k n (mkF m pc Ls (.int j :: .ref a :: st)) := by
  intro T L X eT N
  obtain ⟨cl, A, es⟩ := F
  obtain ⟨s₂, o, S, r⟩ := hr T L X eT N
  have hlt : j.toNatClampNeg < xs.length := (List.getElem?_eq_some_iff.mp hv).1
  refine ⟨s₂, o, X.iaload K.1 (j := j) (v := (.int v)) (by rw [eT]; exact A.1) (State.isArrayOf_alike K.2.1.alike A.2.1) A.2.2 (own_clamp hj hlt (by simp [es])) (by rw [es]; simp [hv]) (g := mkF m pc Ls (.int j :: .ref a :: st)) rfl rfl (hb K.2.2.2.1 hd) _ S, r⟩
theorem g_baload (K : Kx Z own nm bytes ml rt p s m meth c) (pc : Nat) {a : Addr} {xs : List Int32} {j : Int32} (v : Int32) (hd : decode bytes pc = .ok (.baload, 1)) (F : IA Z h a .byte xs) (hj : ¬ j < 0) (hv : xs[j.toNatClampNeg]? = some v) (hr : Go p l e R s m args below meth c n0 Q h k n (mkF m (pc + 1) Ls (.int v :: st))) : Go p l e R s m args below meth c n0 Q h k n (mkF m pc Ls (.int j :: .ref a :: st)) := by
  intro T L X eT N
  obtain ⟨cl, A, es⟩ := F
  obtain ⟨s₂, o, S, r⟩ := hr T L X eT N
  have hlt : j.toNatClampNeg < xs.length := (List.getElem?_eq_some_iff.mp hv).1
  refine ⟨s₂, o, X.baloadBytes K.1 (j := j) (v := (.int v)) (by rw [eT]; exact A.1) (State.isArrayOf_alike K.2.1.alike A.2.1) A.2.2 (own_clamp hj hlt (by simp [es])) (by rw [es]; simp [hv]) (g := mkF m pc Ls (.int j :: .ref a :: st)) rfl rfl (hb K.2.2.2.1 hd) _ S, r⟩
theorem g_zaload (K : Kx Z own nm bytes ml rt p s m meth c) (pc : Nat) {a : Addr} {xs : List Int32} {j : Int32} (v : Int32) (hd : decode bytes pc = .ok (.baload, 1)) (F : IA Z h a .boolean xs) (hj : ¬ j < 0) (hv : xs[j.toNatClampNeg]? = some v) (hr : Go p l e R s m args below meth c n0 Q h k n (mkF m (pc + 1) Ls (.int v :: st))) : Go p l e R s m args below meth c n0 Q h k n (mkF m pc Ls (.int j :: .ref a :: st)) := by
  intro T L X eT N
  obtain ⟨cl, A, es⟩ := F
  obtain ⟨s₂, o, S, r⟩ := hr T L X eT N
  have hlt : j.toNatClampNeg < xs.length := (List.getElem?_eq_some_iff.mp hv).1
  refine ⟨s₂, o, X.baloadBooleans K.1 (j := j) (v := (.int v)) (by rw [eT]; exact A.1) (State.isArrayOf_alike K.2.1.alike A.2.1) A.2.2 (own_clamp hj hlt (by simp [es])) (by rw [es]; simp [hv]) (g := mkF m pc Ls (.int j :: .ref a :: st)) rfl rfl (hb K.2.2.2.1 hd) _ S, r⟩
theorem g_saload (K : Kx Z own nm bytes ml rt p s m meth c) (pc : Nat) {a : Addr} {xs : List Int32} {j : Int32} (v : Int32) (hd : decode bytes pc = .ok (.saload, 1)) (F : IA Z h a .short xs) (hj : ¬ j < 0) (hv : xs[j.toNatClampNeg]? = some v) (hr : Go p l e R s m args below meth c n0 Q h k n (mkF m (pc + 1) Ls (.int v :: st))) : Go p l e R s m args below meth c n0 Q h k n (mkF m pc Ls (.int j :: .ref a :: st)) := by
  intro T L X eT N
  obtain ⟨cl, A, es⟩ := F
  obtain ⟨s₂, o, S, r⟩ := hr T L X eT N
  have hlt : j.toNatClampNeg < xs.length := (List.getElem?_eq_some_iff.mp hv).1
  refine ⟨s₂, o, X.saload K.1 (j := j) (v := (.int v)) (by rw [eT]; exact A.1) (State.isArrayOf_alike K.2.1.alike A.2.1) A.2.2 (own_clamp hj hlt (by simp [es])) (by rw [es]; simp [hv]) (g := mkF m pc Ls (.int j :: .ref a :: st)) rfl rfl (hb K.2.2.2.1 hd) _ S, r⟩
theorem g_laload (K : Kx Z own nm bytes ml rt p s m meth c) (pc : Nat) {a : Addr} {xs : List Int64} {j : Int32} (v : Int64) (hd : decode bytes pc = .ok (.laload, 1)) (F : LA Z h a xs) (hj : ¬ j < 0) (hv : xs[j.toNatClampNeg]? = some v) (hr : Go p l e R s m args below meth c n0 Q h k n (mkF m (pc + 1) Ls (.long v :: st))) : Go p l e R s m args below meth c n0 Q h k n (mkF m pc Ls (.int j :: .ref a :: st)) := by
  intro T L X eT N
  obtain ⟨cl, A, es⟩ := F
  obtain ⟨s₂, o, S, r⟩ := hr T L X eT N
  have hlt : j.toNatClampNeg < xs.length := (List.getElem?_eq_some_iff.mp hv).1
  refine ⟨s₂, o, X.laload K.1 (j := j) (v := (.long v)) (by rw [eT]; exact A.1) (State.isArrayOf_alike K.2.1.alike A.2.1) A.2.2 (own_clamp hj hlt (by simp [es])) (by rw [es]; simp [hv]) (g := mkF m pc Ls (.int j :: .ref a :: st)) rfl rfl (hb K.2.2.2.1 hd) _ S, r⟩
theorem g_iastore (K : Kx Z own nm bytes ml rt p s m meth c) (pc : Nat) {a : Addr} {xs : List Int32} {j : Int32} {x : Int32} (hd : decode bytes pc = .ok (.iastore, 1)) (F : IA Z h a .int xs) (hj : ¬ j < 0) (hlt : j.toNatClampNeg < xs.length) (ha : n0 ≤ a) (hr : ∀ h', Keep h h' [a] → IA Z h' a .int (xs.set j.toNatClampNeg (x)) → Go p l e R s m args below meth c n0 Q h' k n (mkF m (pc + 1) Ls st)) : Go p l e R s m args below meth c n0 Q h k n (mkF m pc Ls (.int x :: .int j :: .ref a :: st)) := by
  intro T L X eT N
  have F' := F
  obtain ⟨cl, A, es⟩ := F
  obtain ⟨T', h', X', e', W, stp⟩ := stI X K.1 K.2.1 eT A (j := j) (x := x) (own_clamp hj hlt (by simp [es])) (g := mkF m pc Ls (.int x :: .int j :: .ref a :: st)) rfl rfl (hb K.2.2.2.1 hd)
  obtain ⟨s₂, o, S, r⟩ := hr h' (Keep.of_wr W) (F'.set W) T' _ X' e' (Fr.snoc X' N ha)
  exact ⟨s₂, o, stp _ S, r⟩
theorem g_bastore (K : Kx Z own nm bytes ml rt p s m meth c) (pc : Nat) {a : Addr} {xs : List Int32} {j : Int32} {x : Int32} (hd : decode bytes pc = .ok (.bastore, 1)) (F : IA Z h a .byte xs) (hj : ¬ j < 0) (hlt : j.toNatClampNeg < xs.length) (ha : n0 ≤ a) (hr : ∀ h', Keep h h' [a] → IA Z h' a .byte (xs.set j.toNatClampNeg (nar .byte x)) → Go p l e R s m args below meth c n0 Q h' k n (mkF m (pc + 1) Ls st)) : Go p l e R s m args below meth c n0 Q h k n (mkF m pc Ls (.int x :: .int j :: .ref a :: st)) := by
  intro T L X eT N
  have F' := F
  obtain ⟨cl, A, es⟩ := F
  obtain ⟨T', h', X', e', W, stp⟩ := stB X K.1 K.2.1 eT A (j := j) (x := x) (own_clamp hj hlt (by simp [es])) (g := mkF m pc Ls (.int x :: .int j :: .ref a :: st)) rfl rfl (hb K.2.2.2.1 hd)
  obtain ⟨s₂, o, S, r⟩ := hr h' (Keep.of_wr W) (F'.set W) T' _ X' e' (Fr.snoc X' N ha)
  exact ⟨s₂, o, stp _ S, r⟩
theorem g_zastore (K : Kx Z own nm bytes ml rt p s m meth c) (pc : Nat) {a : Addr} {xs : List Int32} {j : Int32} {x : Int32} (hd : decode bytes pc = .ok (.bastore, 1)) (F : IA Z h a .boolean xs) (hj : ¬ j < 0) (hlt : j.toNatClampNeg < xs.length) (ha : n0 ≤ a) (hr : ∀ h', Keep h h' [a] → IA Z h' a .boolean (xs.set j.toNatClampNeg (nar .boolean x)) → Go p l e R s m args below meth c n0 Q h' k n (mkF m (pc + 1) Ls st)) : Go p l e R s m args below meth c n0 Q h k n (mkF m pc Ls (.int x :: .int j :: .ref a :: st)) := by
  intro T L X eT N
  have F' := F
  obtain ⟨cl, A, es⟩ := F
  obtain ⟨T', h', X', e', W, stp⟩ := stZ X K.1 K.2.1 eT A (j := j) (x := x) (own_clamp hj hlt (by simp [es])) (g := mkF m pc Ls (.int x :: .int j :: .ref a :: st)) rfl rfl (hb K.2.2.2.1 hd)
  obtain ⟨s₂, o, S, r⟩ := hr h' (Keep.of_wr W) (F'.set W) T' _ X' e' (Fr.snoc X' N ha)
  exact ⟨s₂, o, stp _ S, r⟩
theorem g_sastore (K : Kx Z own nm bytes ml rt p s m meth c) (pc : Nat) {a : Addr} {xs : List Int32} {j : Int32} {x : Int32} (hd : decode bytes pc = .ok (.sastore, 1)) (F : IA Z h a .short xs) (hj : ¬ j < 0) (hlt : j.toNatClampNeg < xs.length) (ha : n0 ≤ a) (hr : ∀ h', Keep h h' [a] → IA Z h' a .short (xs.set j.toNatClampNeg (nar .short x)) → Go p l e R s m args below meth c n0 Q h' k n (mkF m (pc + 1) Ls st)) : Go p l e R s m args below meth c n0 Q h k n (mkF m pc Ls (.int x :: .int j :: .ref a :: st)) := by
  intro T L X eT N
  have F' := F
  obtain ⟨cl, A, es⟩ := F
  obtain ⟨T', h', X', e', W, stp⟩ := stS X K.1 K.2.1 eT A (j := j) (x := x) (own_clamp hj hlt (by simp [es])) (g := mkF m pc Ls (.int x :: .int j :: .ref a :: st)) rfl rfl (hb K.2.2.2.1 hd)
  obtain ⟨s₂, o, S, r⟩ := hr h' (Keep.of_wr W) (F'.set W) T' _ X' e' (Fr.snoc X' N ha)
  exact ⟨s₂, o, stp _ S, r⟩
theorem g_lastore (K : Kx Z own nm bytes ml rt p s m meth c) (pc : Nat) {a : Addr} {xs : List Int64} {j : Int32} {x : Int64} (hd : decode bytes pc = .ok (.lastore, 1)) (F : LA Z h a xs) (hj : ¬ j < 0) (hlt : j.toNatClampNeg < xs.length) (ha : n0 ≤ a) (hr : ∀ h', Keep h h' [a] → LA Z h' a (xs.set j.toNatClampNeg (x)) → Go p l e R s m args below meth c n0 Q h' k n (mkF m (pc + 1) Ls st)) : Go p l e R s m args below meth c n0 Q h k n (mkF m pc Ls (.long x :: .int j :: .ref a :: st)) := by
  intro T L X eT N
  have F' := F
  obtain ⟨cl, A, es⟩ := F
  obtain ⟨T', h', X', e', W, stp⟩ := stJ X K.1 K.2.1 eT A (j := j) (x := x) (own_clamp hj hlt (by simp [es])) (g := mkF m pc Ls (.long x :: .int j :: .ref a :: st)) rfl rfl (hb K.2.2.2.1 hd)
  obtain ⟨s₂, o, S, r⟩ := hr h' (Keep.of_wr W) (F'.set W) T' _ X' e' (Fr.snoc X' N ha)
  exact ⟨s₂, o, stp _ S, r⟩
theorem g_alen (K : Kx Z own nm bytes ml rt p s m meth c) (pc : Nat) {a : Addr} {ty : FieldType} {xs : List Int32} (v : Int32) (hd : decode bytes pc = .ok (.arraylength, 1)) (F : IA Z h a ty xs) (hv : xs.length.toInt32 = v) (hr : Go p l e R s m args below meth c n0 Q h k n (mkF m (pc + 1) Ls (.int v :: st))) : Go p l e R s m args below meth c n0 Q h k n (mkF m pc Ls (.ref a :: st)) := by
  intro T L X eT N
  obtain ⟨cl, A, es⟩ := F
  obtain ⟨s₂, o, S, r⟩ := hr T L X eT N
  have hq : cl.slots.size.toInt32 = v := by rw [es]; simpa using hv
  refine ⟨s₂, o, X.arraylength K.1 (cell := cl) (by rw [eT]; exact A.1) (State.isArrayOf_alike K.2.1.alike A.2.1) (g := mkF m pc Ls (.ref a :: st)) rfl (rest := st) rfl (hb K.2.2.2.1 hd) _ ?_, r⟩
  rw [hq]; exact S
theorem g_callS (K : Kx Z own nm bytes ml rt p s m meth c) (pc : Nat) {i : Nat} {y : MethodName} {b2 : ByteArray} {ml2 : Nat} {rt2 : Option FieldType} {rm : Room} {Q' : Option Value → Heap → Prop} {sig : MethodDescriptor} {S0 : List Value} (argsL : List Value) (W : Nat) (hd : decode bytes pc = .ok (.invokestatic i, 3))
    (M : Meets l y b2 ml2 rt2 rm Z argsL.toArray h n0 Q') (wl : (Jvm.Cond.methodLink own i y).before a0 Z = true) (ws : (Jvm.Cond.static y).before a0 Z = true) (wz : (Jvm.Cond.initialized y.cls).before a0 Z = true) (wc : (Jvm.Cond.code y b2 ml2 rt2).before a0 Z = true) (hy : y.cls ≠ "java/lang/invoke/MethodHandle" ∧ y.cls ≠ "java/lang/invoke/VarHandle")
    (hpd : parseMethodDescriptor y.desc = some sig) (hlen : argsL.length = sig.parameters.length) (hS : S0 = argsL.reverse ++ st) (hW : (st.map fun v => v.category).sum ≤ W) (hls : Ls.size = ml) (hf : rm.frames + 1 ≤ R.frames) (hlo : W + (ml2 + 11) + rm.locals ≤ R.locals) (hk : k + rm.cells ≤ R.cells) (hn : n + rm.slots ≤ R.slots)
    (hr : ∀ v h', Q' v h' → Go p l e R s m args below meth c n0 Q h' (k + rm.cells) (n + rm.slots) (mkF m (pc + 3) Ls (v.toList ++ st))) : Go p l e R s m args below meth c n0 Q h k n (mkF m pc Ls S0) := by
  subst hS
  intro T L X eT N
  obtain ⟨v, vm₁, ⟨T', L', k', n'⟩, -, X', ⟨L2, hQ, l1, y1, z1⟩, stp⟩ := Jvm.LawKit.callS X K.1 (y := y) K.2.2.1 (mvT K.2.1 wl) (mvT K.2.1 ws) (mvT K.2.1 wz) (mvT K.2.1 wc) hy (backOf (W := W) (Q := fun v h L => Q' v h ∧ Fr n0 L) (M []) K.2.1 wc wz hf hlo) (g := mkF m pc Ls (argsL.reverse ++ st)) rfl (hls.trans K.2.2.2.2.1.symm) (argsL := argsL) (rest := st) (fun sg h => by cases hpd.symm.trans h; exact hlen) rfl (by show 2 * 0 + _ ≤ _; omega) (hb K.2.2.2.1 hd) (fun _ _ => ⟨rfl, eT, hk, hn⟩)
  dsimp only [Pt.U, Pt.locs, Pt.cells, Pt.slots] at X' l1 y1 z1 stp hQ
  subst l1 y1 z1
  obtain ⟨s₂, o, S, r⟩ := hr v _ hQ.1 T' _ X' rfl (Fr.app N hQ.2)
  exact ⟨s₂, o, stp _ S, r⟩
theorem g_callN (K : Kx Z own nm bytes ml rt p s m meth c) (pc : Nat) {i : Nat} {y : MethodName} {b2 : ByteArray} {ml2 : Nat} {rm : Room} {Q' : Option Value → Heap → Prop} {sig : MethodDescriptor} {S0 : List Value} {a : Addr} (argsL : List Value) (W : Nat) (hd : decode bytes pc = .ok (.invokespecial i, 3))
    (M : Meets l y b2 ml2 none rm Z (.ref a :: argsL).toArray h n0 Q') (hy1 : y.name = "<init>") (wl : (Jvm.Cond.methodLink own i y).before a0 Z = true) (wi : (Jvm.Cond.instanceMethod y).before a0 Z = true) (wz : (Jvm.Cond.initialized y.cls).before a0 Z = true) (wc : (Jvm.Cond.code y b2 ml2 none).before a0 Z = true) (hy : y.cls ≠ "java/lang/invoke/MethodHandle" ∧ y.cls ≠ "java/lang/invoke/VarHandle")
    (hpd : parseMethodDescriptor y.desc = some sig) (hlen : argsL.length = sig.parameters.length) (hS : S0 = argsL.reverse ++ .ref a :: st) (hW : (st.map fun v => v.category).sum ≤ W) (hls : Ls.size = ml) (hf : rm.frames + 1 ≤ R.frames) (hlo : W + (ml2 + 11) + rm.locals ≤ R.locals) (hk : k + rm.cells ≤ R.cells) (hn : n + rm.slots ≤ R.slots)
    (hr : ∀ v h', Q' v h' → Go p l e R s m args below meth c n0 Q h' (k + rm.cells) (n + rm.slots) (mkF m (pc + 3) Ls (v.toList ++ st))) : Go p l e R s m args below meth c n0 Q h k n (mkF m pc Ls S0) := by
  subst hS
  intro T L X eT N
  obtain ⟨v, vm₁, ⟨T', L', k', n'⟩, -, X', ⟨L2, hQ, l1, y1, z1⟩, stp⟩ := X.specialBack K.1 (y := y) hy1 K.2.2.1 (mvT K.2.1 wl) (mvT K.2.1 wi) (mvT K.2.1 wc) hy (backOf (W := W) (Q := fun v h L => Q' v h ∧ Fr n0 L) (M []) K.2.1 wc wz hf hlo) (g := mkF m pc Ls (argsL.reverse ++ .ref a :: st)) rfl (hls.trans K.2.2.2.2.1.symm) (Steps.refl _) (a := a) (argsL := argsL) (rest := st) (fun sg h => by cases hpd.symm.trans h; exact hlen) rfl (by show 2 * 0 + _ ≤ _; omega) (hb K.2.2.2.1 hd) (fun _ _ => ⟨rfl, eT, hk, hn⟩)
  dsimp only [Pt.U, Pt.locs, Pt.cells, Pt.slots] at X' l1 y1 z1 stp hQ
  subst l1 y1 z1
  obtain ⟨s₂, o, S, r⟩ := hr v _ hQ.1 T' _ X' rfl (Fr.app N hQ.2)
  exact ⟨s₂, o, stp.trans S, r⟩
theorem g_callV (K : Kx Z own nm bytes ml rt p s m meth c) (pc : Nat) {i : Nat} {y z : MethodName} {C : String} {b2 : ByteArray} {ml2 : Nat} {rt2 : Option FieldType} {rm : Room} {Q' : Option Value → Heap → Prop} {sig : MethodDescriptor} {S0 : List Value} {a : Addr} (argsL : List Value) (W : Nat) (hd : decode bytes pc = .ok (.invokevirtual i, 3))
    (M : Meets l z b2 ml2 rt2 rm Z (.ref a :: argsL).toArray h n0 Q') (E : Exa Z h a C) (wl : (Jvm.Cond.methodLink own i y).before a0 Z = true) (wd : (Jvm.Cond.declares y).before a0 Z = true) (wsel : (Jvm.Cond.selects C y z).before a0 Z = true) (wself : (Jvm.Cond.selects y.cls y y).before a0 Z = true) (wi : (Jvm.Cond.instanceMethod z).before a0 Z = true) (wz : (Jvm.Cond.initialized z.cls).before a0 Z = true) (wc : (Jvm.Cond.code z b2 ml2 rt2).before a0 Z = true) (hy : y.cls ≠ "java/lang/invoke/MethodHandle" ∧ y.cls ≠ "java/lang/invoke/VarHandle")
    (hpd : parseMethodDescriptor y.desc = some sig) (hlen : argsL.length = sig.parameters.length) (hS : S0 = argsL.reverse ++ .ref a :: st) (hW : (st.map fun v => v.category).sum ≤ W) (hls : Ls.size = ml) (hf : rm.frames + 1 ≤ R.frames) (hlo : W + (ml2 + 11) + rm.locals ≤ R.locals) (hk : k + rm.cells ≤ R.cells) (hn : n + rm.slots ≤ R.slots)
    (hr : ∀ v h', Q' v h' → Go p l e R s m args below meth c n0 Q h' (k + rm.cells) (n + rm.slots) (mkF m (pc + 3) Ls (v.toList ++ st))) : Go p l e R s m args below meth c n0 Q h k n (mkF m pc Ls S0) := by
  subst hS
  intro T L X eT N
  obtain ⟨cB, kB, q1, q2, q3⟩ := isOf K.2.1 eT E
  obtain ⟨v, vm₁, ⟨T', L', k', n'⟩, -, X', ⟨L2, hQ, l1, y1, z1⟩, stp⟩ := X.virtualBack K.1 (y := y) (z := z) K.2.2.1 (mvT K.2.1 wl) (mvT K.2.1 wd) (notFace_of_selects (args := #[]) (mvT K.2.1 wself)) (mvT K.2.1 wsel) (mvT K.2.1 wi) hy (backOf (W := W) (Q := fun v h L => Q' v h ∧ Fr n0 L) (M []) K.2.1 wc wz hf hlo) q1 q3 (g := mkF m pc Ls (argsL.reverse ++ .ref a :: st)) rfl (hls.trans K.2.2.2.2.1.symm) (Steps.refl _) (argsL := argsL) (rest := st) (fun sg h => by cases hpd.symm.trans h; exact hlen) rfl (by show 2 * 0 + _ ≤ _; omega) (hb K.2.2.2.1 hd) (fun _ _ => ⟨rfl, eT, hk, hn⟩)
  dsimp only [Pt.U, Pt.locs, Pt.cells, Pt.slots] at X' l1 y1 z1 stp hQ
  subst l1 y1 z1
  obtain ⟨s₂, o, S, r⟩ := hr v _ hQ.1 T' _ X' rfl (Fr.app N hQ.2)
  exact ⟨s₂, o, stp.trans S, r⟩
end GoSteps
theorem meets_of {l : Launch} {y : MethodName} {bytes : ByteArray} {ml : Nat} {rt : Option FieldType} {rm : Room} {Z : State} {as : Array Value} {h0 : Heap} {n0 : Nat} {Q : Option Value → Heap → Prop} (hx : plainFor y = true) {Ls : Array Slot} (hef : ∀ m, entryFrame m as ml = mkF m 0 Ls [])
    (body : ∀ p e s m below meth c, Kx Z y.cls y.name bytes ml rt p s m meth c → Go p l e rm s m as below meth c n0 Q h0 0 0 (mkF m 0 Ls [])) : Meets l y bytes ml rt rm Z as h0 n0 Q := by
  intro ws
  refine MetFree.of_bodySF hx hisR ?_
  intro p e s m args below meth c s₁ Bd hml0 hP hK
  obtain ⟨rfl, hZ, hh⟩ := hP
  have X0 : Stand p l e rm s m args below meth c s₁ [] 0 0 := Stand.of_body Bd
  have e0 : s₁.heap = h0 := by rw [← hh, Bd.state]; rfl
  obtain ⟨s₂, o, S, r1, r2, r3⟩ := body p e s m below meth c ⟨Bd.exec, hZ, findClass_of_methodNamed Bd.named, Bd.bytes, hml0, Bd.returns, Bd.notSynchronized, (name_of_methodNamed Bd.named Bd.method).1⟩ s₁ [] X0 e0 (Fr.nil n0)
  exact ⟨s₂, o, castTop (hef m) S, r1, r2, r3⟩
theorem tw {a0 : Array Value} {Z : State} {ts : List Jvm.Cond} (hw : ∀ d ∈ ts, d.before a0 Z = true) (i : Nat) {d : Jvm.Cond} (q : ts[i]? = some d) : d.before a0 Z = true := hw _ (List.mem_of_getElem? q)
theorem pn0 : plainName "com/example/batchwright/batchwright/wire/BoundedOutputPutLeAtPinLaw" = true := by first | (simp [plainName, overriddenIn]; done) | decide +kernel
theorem pd0 : parseMethodDescriptor "(II)B" = some ⟨[.int, .int], some .byte⟩ := by decide +kernel
theorem pn1 : plainName "com/example/batchwright/batchwright/wire/BoundedOutput" = true := by first | (simp [plainName, overriddenIn]; done) | decide +kernel
theorem pd1 : parseMethodDescriptor "([BII)V" = some ⟨[(.array .byte), .int, .int], none⟩ := by decide +kernel
theorem pd2 : parseMethodDescriptor "()V" = some ⟨[], none⟩ := by decide +kernel
theorem pd3 : parseMethodDescriptor "(IJI)V" = some ⟨[.int, .long, .int], none⟩ := by decide +kernel
theorem pd4 : parseMethodDescriptor "()I" = some ⟨[], some .int⟩ := by decide +kernel
theorem pd5 : parseMethodDescriptor "([BIIJIII)Z" = some ⟨[(.array .byte), .int, .int, .long, .int, .int, .int], some .boolean⟩ := by decide +kernel
theorem pd6 : parseMethodDescriptor "(IJIIII)Z" = some ⟨[.int, .long, .int, .int, .int, .int], some .boolean⟩ := by decide +kernel
theorem d1_0 : decode method_3_code 0 = .ok (.iload_n 0, 1) := by decide +kernel
theorem d1_1 : decode method_3_code 1 = .ok (.bipush 31, 2) := by decide +kernel
theorem d1_3 : decode method_3_code 3 = .ok (.iload_n 1, 1) := by decide +kernel
theorem d1_4 : decode method_3_code 4 = .ok (.imul, 1) := by decide +kernel
theorem d1_5 : decode method_3_code 5 = .ok (.iadd, 1) := by decide +kernel
theorem d1_6 : decode method_3_code 6 = .ok (.i2b, 1) := by decide +kernel
theorem d1_7 : decode method_3_code 7 = .ok (.ireturn, 1) := by decide +kernel
theorem d2_0 : decode prog_50_method_1_code 0 = .ok (.aload_n 0, 1) := by decide +kernel
theorem d2_1 : decode prog_50_method_1_code 1 = .ok (.invokespecial 1, 3) := by decide +kernel
theorem d2_4 : decode prog_50_method_1_code 4 = .ok (.aload_n 0, 1) := by decide +kernel
theorem d2_5 : decode prog_50_method_1_code 5 = .ok (.aload_n 1, 1) := by decide +kernel
theorem d2_6 : decode prog_50_method_1_code 6 = .ok (.putfield 7, 3) := by decide +kernel
theorem d2_9 : decode prog_50_method_1_code 9 = .ok (.aload_n 0, 1) := by decide +kernel
theorem d2_10 : decode prog_50_method_1_code 10 = .ok (.iload_n 2, 1) := by decide +kernel
theorem d2_11 : decode prog_50_method_1_code 11 = .ok (.putfield 13, 3) := by decide +kernel
theorem d2_14 : decode prog_50_method_1_code 14 = .ok (.aload_n 0, 1) := by decide +kernel
theorem d2_15 : decode prog_50_method_1_code 15 = .ok (.iload_n 3, 1) := by decide +kernel
theorem d2_16 : decode prog_50_method_1_code 16 = .ok (.putfield 17, 3) := by decide +kernel
theorem d2_19 : decode prog_50_method_1_code 19 = .ok (.return_, 1) := by decide +kernel
theorem d3_0 : decode object_method_1_code 0 = .ok (.return_, 1) := by decide +kernel
theorem d4_0 : decode prog_50_method_9_code 0 = .ok (.iconst 0, 1) := by decide +kernel
theorem d4_1 : decode prog_50_method_9_code 1 = .ok (.istore 5, 2) := by decide +kernel
theorem d4_3 : decode prog_50_method_9_code 3 = .ok (.iload 5, 2) := by decide +kernel
theorem d4_5 : decode prog_50_method_9_code 5 = .ok (.iload 4, 2) := by decide +kernel
theorem d4_7 : decode prog_50_method_9_code 7 = .ok (.if_icmp .ge 38, 3) := by decide +kernel
theorem d4_10 : decode prog_50_method_9_code 10 = .ok (.iload_n 1, 1) := by decide +kernel
theorem d4_11 : decode prog_50_method_9_code 11 = .ok (.iload 5, 2) := by decide +kernel
theorem d4_13 : decode prog_50_method_9_code 13 = .ok (.iadd, 1) := by decide +kernel
theorem d4_14 : decode prog_50_method_9_code 14 = .ok (.aload_n 0, 1) := by decide +kernel
theorem d4_15 : decode prog_50_method_9_code 15 = .ok (.getfield 17, 3) := by decide +kernel
theorem d4_18 : decode prog_50_method_9_code 18 = .ok (.if_icmp .ge 27, 3) := by decide +kernel
theorem d4_21 : decode prog_50_method_9_code 21 = .ok (.aload_n 0, 1) := by decide +kernel
theorem d4_22 : decode prog_50_method_9_code 22 = .ok (.getfield 7, 3) := by decide +kernel
theorem d4_25 : decode prog_50_method_9_code 25 = .ok (.iload_n 1, 1) := by decide +kernel
theorem d4_26 : decode prog_50_method_9_code 26 = .ok (.iload 5, 2) := by decide +kernel
theorem d4_28 : decode prog_50_method_9_code 28 = .ok (.iadd, 1) := by decide +kernel
theorem d4_29 : decode prog_50_method_9_code 29 = .ok (.lload_n 2, 1) := by decide +kernel
theorem d4_30 : decode prog_50_method_9_code 30 = .ok (.bipush 8, 2) := by decide +kernel
theorem d4_32 : decode prog_50_method_9_code 32 = .ok (.iload 5, 2) := by decide +kernel
theorem d4_34 : decode prog_50_method_9_code 34 = .ok (.imul, 1) := by decide +kernel
theorem d4_35 : decode prog_50_method_9_code 35 = .ok (.lushr, 1) := by decide +kernel
theorem d4_36 : decode prog_50_method_9_code 36 = .ok (.l2i, 1) := by decide +kernel
theorem d4_37 : decode prog_50_method_9_code 37 = .ok (.i2b, 1) := by decide +kernel
theorem d4_38 : decode prog_50_method_9_code 38 = .ok (.bastore, 1) := by decide +kernel
theorem d4_39 : decode prog_50_method_9_code 39 = .ok (.iinc 5 1, 3) := by decide +kernel
theorem d4_42 : decode prog_50_method_9_code 42 = .ok (.goto (-39), 3) := by decide +kernel
theorem d4_45 : decode prog_50_method_9_code 45 = .ok (.return_, 1) := by decide +kernel
theorem d5_0 : decode prog_50_method_2_code 0 = .ok (.aload_n 0, 1) := by decide +kernel
theorem d5_1 : decode prog_50_method_2_code 1 = .ok (.getfield 13, 3) := by decide +kernel
theorem d5_4 : decode prog_50_method_2_code 4 = .ok (.ireturn, 1) := by decide +kernel
theorem d6_0 : decode method_4_code 0 = .ok (.iload_n 1, 1) := by decide +kernel
theorem d6_1 : decode method_4_code 1 = .ok (.iload_n 2, 1) := by decide +kernel
theorem d6_2 : decode method_4_code 2 = .ok (.if_icmp .lt 32, 3) := by decide +kernel
theorem d6_5 : decode method_4_code 5 = .ok (.iload_n 1, 1) := by decide +kernel
theorem d6_6 : decode method_4_code 6 = .ok (.iload_n 2, 1) := by decide +kernel
theorem d6_7 : decode method_4_code 7 = .ok (.isub, 1) := by decide +kernel
theorem d6_8 : decode method_4_code 8 = .ok (.iload 5, 2) := by decide +kernel
theorem d6_10 : decode method_4_code 10 = .ok (.if_icmp .ge 24, 3) := by decide +kernel
theorem d6_13 : decode method_4_code 13 = .ok (.iload_n 1, 1) := by decide +kernel
theorem d6_14 : decode method_4_code 14 = .ok (.iload 6, 2) := by decide +kernel
theorem d6_16 : decode method_4_code 16 = .ok (.if_icmp .ge 18, 3) := by decide +kernel
theorem d6_19 : decode method_4_code 19 = .ok (.lload_n 3, 1) := by decide +kernel
theorem d6_20 : decode method_4_code 20 = .ok (.bipush 8, 2) := by decide +kernel
theorem d6_22 : decode method_4_code 22 = .ok (.iload_n 1, 1) := by decide +kernel
theorem d6_23 : decode method_4_code 23 = .ok (.iload_n 2, 1) := by decide +kernel
theorem d6_24 : decode method_4_code 24 = .ok (.isub, 1) := by decide +kernel
theorem d6_25 : decode method_4_code 25 = .ok (.imul, 1) := by decide +kernel
theorem d6_26 : decode method_4_code 26 = .ok (.lushr, 1) := by decide +kernel
theorem d6_27 : decode method_4_code 27 = .ok (.l2i, 1) := by decide +kernel
theorem d6_28 : decode method_4_code 28 = .ok (.i2b, 1) := by decide +kernel
theorem d6_29 : decode method_4_code 29 = .ok (.istore 8, 2) := by decide +kernel
theorem d6_31 : decode method_4_code 31 = .ok (.goto 11, 3) := by decide +kernel
theorem d6_34 : decode method_4_code 34 = .ok (.iload 7, 2) := by decide +kernel
theorem d6_36 : decode method_4_code 36 = .ok (.iload_n 1, 1) := by decide +kernel
theorem d6_37 : decode method_4_code 37 = .ok (.invokestatic 7, 3) := by decide +kernel
theorem d6_40 : decode method_4_code 40 = .ok (.istore 8, 2) := by decide +kernel
theorem d6_42 : decode method_4_code 42 = .ok (.aload_n 0, 1) := by decide +kernel
theorem d6_43 : decode method_4_code 43 = .ok (.iload_n 1, 1) := by decide +kernel
theorem d6_44 : decode method_4_code 44 = .ok (.baload, 1) := by decide +kernel
theorem d6_45 : decode method_4_code 45 = .ok (.iload 8, 2) := by decide +kernel
theorem d6_47 : decode method_4_code 47 = .ok (.if_icmp .ne 7, 3) := by decide +kernel
theorem d6_50 : decode method_4_code 50 = .ok (.iconst 1, 1) := by decide +kernel
theorem d6_51 : decode method_4_code 51 = .ok (.goto 4, 3) := by decide +kernel
theorem d6_54 : decode method_4_code 54 = .ok (.iconst 0, 1) := by decide +kernel
theorem d6_55 : decode method_4_code 55 = .ok (.ireturn, 1) := by decide +kernel
theorem own_and63 (y : Int32) : (y.toInt64 &&& 63).toBitVec = BitVec.ofNat 64 (y.toBitVec.toNat % 64) := by
  apply BitVec.eq_of_getLsbD_eq
  intro i hi
  have h63 : (63 : Int64).toBitVec = BitVec.ofNat 64 (2 ^ 6 - 1) := by decide
  have hm : (y.toBitVec.toNat % 64) = y.toBitVec.toNat % 2 ^ 6 := rfl
  rw [Int64.toBitVec_and, Int32.toBitVec_toInt64, BitVec.getLsbD_and, BitVec.getLsbD_signExtend, h63, BitVec.getLsbD_ofNat, Nat.testBit_two_pow_sub_one, BitVec.getLsbD_ofNat, hm, Nat.testBit_mod_two_pow]
  by_cases h6 : i < 6
  · have h32 : i < 32 := by omega
    simp [hi, h6, h32, BitVec.getLsbD]
  · simp [h6]
theorem bv_lshl (x : Int64) (y : Int32) : (x <<< (y.toInt64 &&& 63)).toBitVec = x.toBitVec <<< (y.toBitVec.toNat % 64) := by
  show x.toBitVec <<< ((y.toInt64 &&& 63).toBitVec.smod 64) = _
  rw [BitVec.shiftLeft_eq', own_and63, smod64 _ (Nat.mod_lt _ (by decide))]
theorem bv_lshr (x : Int64) (y : Int32) : (x >>> (y.toInt64 &&& 63)).toBitVec = x.toBitVec.sshiftRight (y.toBitVec.toNat % 64) := by
  show x.toBitVec.sshiftRight' ((y.toInt64 &&& 63).toBitVec.smod 64) = _
  rw [BitVec.sshiftRight_eq', own_and63, smod64 _ (Nat.mod_lt _ (by decide))]
theorem bv_lushr (x : Int64) (y : Int32) : (XT.ushrL x y).toBitVec = x.toBitVec >>> (y.toBitVec.toNat % 64) := by
  show x.toBitVec >>> ((y.toInt64 &&& 63).toBitVec % 64) = _
  rw [BitVec.ushiftRight_eq', own_and63, BitVec.toNat_umod, BitVec.toNat_ofNat]
  congr 1
  show y.toBitVec.toNat % 64 % 2 ^ 64 % 64 = _
  omega
theorem bv_ishl (x y : Int32) : (x <<< (y &&& 31)).toBitVec = x.toBitVec <<< (y.toBitVec.toNat % 32) := by
  show x.toBitVec <<< ((y &&& 31).toBitVec.smod 32) = _
  rw [BitVec.shiftLeft_eq', sm32 y _ rfl]
theorem bv_ishr (x y : Int32) : (x >>> (y &&& 31)).toBitVec = x.toBitVec.sshiftRight (y.toBitVec.toNat % 32) := by
  show x.toBitVec.sshiftRight' ((y &&& 31).toBitVec.smod 32) = _
  rw [BitVec.sshiftRight_eq', sm32 y _ rfl]
theorem bv_iushr (x y : Int32) : (XT.ushr x y).toBitVec = x.toBitVec >>> (y.toBitVec.toNat % 32) := by
  show x.toBitVec >>> ((y &&& 31).toBitVec % 32) = _
  have h1 : (y &&& 31).toBitVec.toNat = y.toBitVec.toNat % 32 := by
    show (y.toBitVec &&& (31 : Int32).toBitVec).toNat = _
    rw [BitVec.toNat_and, show (31 : Int32).toBitVec.toNat = 2 ^ 5 - 1 from by decide, Nat.and_two_pow_sub_one_eq_mod]
  rw [BitVec.ushiftRight_eq', BitVec.toNat_umod, h1]
  congr 1
  show y.toBitVec.toNat % 32 % 32 = _
  omega
theorem u64 (x : Int64) : (x.toBitVec.toNat : Int) = x.toInt % 18446744073709551616 := by
  have h := x.toBitVec.isLt
  show _ = x.toBitVec.toInt % _
  rw [BitVec.toInt_eq_toNat_cond]; split <;> omega
theorem u32 (x : Int32) : (x.toBitVec.toNat : Int) = x.toInt % 4294967296 := by
  have h := x.toBitVec.isLt
  show _ = x.toBitVec.toInt % _
  rw [BitVec.toInt_eq_toNat_cond]; split <;> omega
theorem i64 (x : Int64) : x.toInt = if x.toBitVec.toNat < 9223372036854775808 then (x.toBitVec.toNat : Int) else (x.toBitVec.toNat : Int) - 18446744073709551616 := by
  have h := x.toBitVec.isLt
  show x.toBitVec.toInt = _
  rw [BitVec.toInt_eq_toNat_cond]; split <;> split <;> omega
/-- a logical shift by a known count, as a number -/
theorem n_lushr (x : Int64) (y : Int32) (k : Nat) (hk : y.toBitVec.toNat % 64 = k) : (XT.ushrL x y).toBitVec.toNat = x.toBitVec.toNat / 2 ^ k := by
  rw [bv_lushr, hk, BitVec.toNat_ushiftRight, Nat.shiftRight_eq_div_pow]
theorem n_iushr (x y : Int32) (k : Nat) (hk : y.toBitVec.toNat % 32 = k) : (XT.ushr x y).toBitVec.toNat = x.toBitVec.toNat / 2 ^ k := by
  rw [bv_iushr, hk, BitVec.toNat_ushiftRight, Nat.shiftRight_eq_div_pow]
theorem nn32 (y : Int32) (h : 0 ≤ y.toInt) : y.toBitVec.toNat = y.toInt.toNat := by
  have h1 := u32 y
  have := y.toInt_lt
  omega
theorem nn64 (y : Int64) (h : 0 ≤ y.toInt) : y.toBitVec.toNat = y.toInt.toNat := by
  have h1 := u64 y
  have := y.toInt_lt
  omega
theorem own_mask (y : Int32) (hy : 0 ≤ y.toInt ∧ y.toInt < 64) (K : Nat) (hK : K < 64) : (((1 : Int64) <<< (y.toInt64 &&& 63)) - 1).toBitVec.getLsbD K = decide (K < y.toInt.toNat) := by
  have hW : y.toBitVec.toNat % 64 = y.toInt.toNat := by rw [nn32 y hy.1]; omega
  rw [Int64.toBitVec_sub, bv_lshl, hW]
  have h2 : y.toInt.toNat < 64 := by omega
  generalize y.toInt.toNat = W at *
  have e : (1 : Int64).toBitVec <<< W - (1 : Int64).toBitVec = BitVec.ofNat 64 (2 ^ W - 1) := by
    apply BitVec.eq_of_toNat_eq
    have p1 : 2 ^ W < 2 ^ 64 := Nat.pow_lt_pow_right (by decide) h2
    have p2 : 0 < 2 ^ W := Nat.two_pow_pos W
    rw [BitVec.toNat_sub, BitVec.toNat_shiftLeft, Nat.shiftLeft_eq, BitVec.toNat_ofNat, show (1 : Int64).toBitVec.toNat = 1 from by decide, Nat.one_mul]
    generalize 2 ^ W = P at *
    omega
  rw [e, BitVec.getLsbD_ofNat, Nat.testBit_two_pow_sub_one]
  simp [hK]
theorem own_bit (x : Int64) (y : Int32) : (XT.ushrL x y &&& (1 : Int64)) = if x.toBitVec.getLsbD (y.toBitVec.toNat % 64) then 1 else 0 := by
  apply Int64.toBitVec_inj.mp
  apply BitVec.eq_of_getLsbD_eq
  intro i hi
  rw [Int64.toBitVec_and, bv_lushr, BitVec.getLsbD_and, BitVec.getLsbD_ushiftRight]
  generalize y.toBitVec.toNat % 64 = k
  have h1 : (1 : Int64).toBitVec.getLsbD i = decide (i = 0) := by
    show (1#64).getLsbD i = _
    rw [BitVec.getLsbD_one]; simp
  rw [h1]
  by_cases q : i = 0
  · subst q
    cases h : x.toBitVec.getLsbD k <;> simp [h]
  · cases h : x.toBitVec.getLsbD k
    · simp [q]
    · simp [q, h1]

def rdI (xs : List Int32) (j : Int32) : Int32 := xs.getD j.toNatClampNeg 0
theorem rdI_some {xs : List Int32} {j : Int32} (h : j.toNatClampNeg < xs.length) : xs[j.toNatClampNeg]? = some (rdI xs j) := by
  simp [rdI, List.getD, h]
/-- what the loop leaves: d turns at the most, from i on -/
def putLe (at_ : Int32) (value : Int64) (limit : Int32) : Nat → Int32 → List Int32 → List Int32
  | 0, _, xs => xs
  | d + 1, i, xs => if at_ + i < limit then putLe at_ value limit d (i + (1 : Int32)) (xs.set (at_ + i).toNatClampNeg (nar .byte (XT.ushrL value ((8 : Int32) * i)).toInt32.toInt8.toInt32)) else xs
def f_orig (x : Int32) (y : Int32) : Int32 := nar .byte ((x + ((31 : Int32) * y)).toInt8.toInt32)
set_option maxRecDepth 65536 in
set_option maxHeartbeats 40000000 in
theorem rm_orig (l : Launch) (Z : State) (a0 : Array Value) (hw : ∀ d ∈ tables_1, d.before a0 Z = true) (x : Int32) (y : Int32) (h0 : Heap) (n0 : Nat) (Z0 : n0 ≤ h0.size)   :
    Meets l (⟨"com/example/batchwright/batchwright/wire/BoundedOutputPutLeAtPinLaw", "orig", "(II)B"⟩ : MethodName) method_3_code 2 (some .byte) ({ frames := 0, cells := 0, slots := 0, locals := 0 } : Room) Z #[(.int x), (.int y)] h0 n0 (fun v h => v = some (Value.int (f_orig x y)) ∧ h = h0) := by
  refine meets_of (plainFor_of_name pn0) (Ls := #[.val (.int x), .val (.int y)]) (fun m => by first | (simp [entryFrame, mkF, argsToLocals, Value.category]; done) | rfl) ?_
  intro p e s m below meth c K
  replace K : Kx Z "com/example/batchwright/batchwright/wire/BoundedOutputPutLeAtPinLaw" "orig" method_3_code 2 (some .byte) p s m meth c := K
  obtain ⟨Q, hQ⟩ : ∃ Q : Option Value → Heap → Prop, Q = (fun v h => v = some (Value.int (f_orig x y)) ∧ h = h0) := ⟨_, rfl⟩
  rw [← hQ]
  refine g_iloadN K 0 d1_0 rfl ?_
  refine g_bipush K 1 (31 : Int32) d1_1 (by decide) ?_
  refine g_iloadN K 3 d1_3 rfl ?_
  refine g_imul K 4 d1_4 ?_
  refine g_iadd K 5 d1_5 ?_
  refine g_i2b K 6 d1_6 ?_
  refine g_retN K 7 .byte d1_7 rfl (by simp) (by decide) (by decide) ?_
  rw [hQ]
  refine ⟨?_, rfl⟩
  show some (Value.int _) = some (Value.int (f_orig x y))
  unfold f_orig
  rfl
set_option maxRecDepth 65536 in
set_option maxHeartbeats 40000000 in
theorem rm_init (l : Launch) (Z : State) (a0 : Array Value) (hw : ∀ d ∈ tables_1, d.before a0 Z = true) (o : Addr) (ar : Addr) (ps : Int32) (lm : Int32) (h0 : Heap) (n0 : Nat) (Z0 : n0 ≤ h0.size)  (E_o : Exa Z h0 o "com/example/batchwright/batchwright/wire/BoundedOutput") (g_o : n0 ≤ o) (F_o_array : Fld Z h0 o "com/example/batchwright/batchwright/wire/BoundedOutput" "array" "[B" .null) (F_o_position : Fld Z h0 o "com/example/batchwright/batchwright/wire/BoundedOutput" "position" "I" (.int (0 : Int32))) (F_o_limit : Fld Z h0 o "com/example/batchwright/batchwright/wire/BoundedOutput" "limit" "I" (.int (0 : Int32)))  :
    Meets l (⟨"com/example/batchwright/batchwright/wire/BoundedOutput", "<init>", "([BII)V"⟩ : MethodName) prog_50_method_1_code 4 none ({ frames := 1, cells := 0, slots := 0, locals := 12 } : Room) Z #[(.ref o), (.ref ar), (.int ps), (.int lm)] h0 n0 (fun v h => v = none ∧ Keep h0 h [o] ∧ Exa Z h o "com/example/batchwright/batchwright/wire/BoundedOutput" ∧ Fld Z h o "com/example/batchwright/batchwright/wire/BoundedOutput" "array" "[B" (.ref ar) ∧ Fld Z h o "com/example/batchwright/batchwright/wire/BoundedOutput" "position" "I" (.int ps) ∧ Fld Z h o "com/example/batchwright/batchwright/wire/BoundedOutput" "limit" "I" (.int lm)) := by
  refine meets_of (plainFor_of_name pn1) (Ls := #[.val (.ref o), .val (.ref ar), .val (.int ps), .val (.int lm)]) (fun m => by first | (simp [entryFrame, mkF, argsToLocals, Value.category]; done) | rfl) ?_
  intro p e s m below meth c K
  replace K : Kx Z "com/example/batchwright/batchwright/wire/BoundedOutput" "<init>" prog_50_method_1_code 4 none p s m meth c := K
  obtain ⟨Q, hQ⟩ : ∃ Q : Option Value → Heap → Prop, Q = (fun v h => v = none ∧ Keep h0 h [o] ∧ Exa Z h o "com/example/batchwright/batchwright/wire/BoundedOutput" ∧ Fld Z h o "com/example/batchwright/batchwright/wire/BoundedOutput" "array" "[B" (.ref ar) ∧ Fld Z h o "com/example/batchwright/batchwright/wire/BoundedOutput" "position" "I" (.int ps) ∧ Fld Z h o "com/example/batchwright/batchwright/wire/BoundedOutput" "limit" "I" (.int lm)) := ⟨_, rfl⟩
  rw [← hQ]
  have KC0 := Keep.refl h0 [o]
  refine g_aloadN K 0 d2_0 rfl rfl ?_
  refine g_initO K 1 d2_1 (tw hw 11 rfl) (tw hw 12 rfl) (tw hw 13 rfl) rfl (by decide) 0 (Nat.le_of_eq rfl) (by decide) ?_
  refine g_aloadN K 4 d2_4 rfl rfl ?_
  refine g_aloadN K 5 d2_5 rfl rfl ?_
  refine g_putfield K 6 (.array .byte) d2_6 (tw hw 14 rfl) F_o_array E_o (Or.inr ⟨(tw hw 15 rfl), rfl, rfl⟩) (tw hw 6 rfl) (by decide) (rfl) (rfl) g_o ?_
  intro h1 W2 Kp3
  have F4 := F_o_array.same W2
  have F5 := F_o_position.other W2 (Or.inr (slot_ne (C := "com/example/batchwright/batchwright/wire/BoundedOutput") (Or.inl (tw hw 17 rfl)) (Or.inr (tw hw 15 rfl)) (by decide) (t := .int) (t' := (.array .byte)) (by decide) (by decide)))
  have F6 := F_o_limit.other W2 (Or.inr (slot_ne (C := "com/example/batchwright/batchwright/wire/BoundedOutput") (Or.inr (tw hw 19 rfl)) (Or.inr (tw hw 15 rfl)) (by decide) (t := .int) (t' := (.array .byte)) (by decide) (by decide)))
  have E7 := E_o.keep Kp3
  have KC8 := KC0.trans Kp3 (allS (Or.inl (by simp)) all0)
  have Z9 := Nat.le_trans Z0 Kp3.1
  refine g_aloadN K 9 d2_9 rfl rfl ?_
  refine g_iloadN K 10 d2_10 rfl ?_
  refine g_putfield K 11 .int d2_11 (tw hw 16 rfl) F5 E7 (Or.inl (tw hw 17 rfl)) (tw hw 6 rfl) (by decide) (rfl) (rfl) g_o ?_
  intro h10 W11 Kp12
  have F13 := F5.same W11
  have F14 := F6.other W11 (Or.inr (slot_ne (C := "com/example/batchwright/batchwright/wire/BoundedOutput") (Or.inr (tw hw 19 rfl)) (Or.inl (tw hw 17 rfl)) (by decide) (t := .int) (t' := .int) (by decide) (by decide)))
  have F15 := F4.other W11 (Or.inr (slot_ne (C := "com/example/batchwright/batchwright/wire/BoundedOutput") (Or.inr (tw hw 15 rfl)) (Or.inl (tw hw 17 rfl)) (by decide) (t := (.array .byte)) (t' := .int) (by decide) (by decide)))
  have E16 := E7.keep Kp12
  have KC17 := KC8.trans Kp12 (allS (Or.inl (by simp)) all0)
  have Z18 := Nat.le_trans Z9 Kp12.1
  refine g_aloadN K 14 d2_14 rfl rfl ?_
  refine g_iloadN K 15 d2_15 rfl ?_
  refine g_putfield K 16 .int d2_16 (tw hw 18 rfl) F14 E16 (Or.inr ⟨(tw hw 19 rfl), rfl, rfl⟩) (tw hw 6 rfl) (by decide) (rfl) (rfl) g_o ?_
  intro h19 W20 Kp21
  have F22 := F14.same W20
  have F23 := F15.other W20 (Or.inr (slot_ne (C := "com/example/batchwright/batchwright/wire/BoundedOutput") (Or.inr (tw hw 15 rfl)) (Or.inr (tw hw 19 rfl)) (by decide) (t := (.array .byte)) (t' := .int) (by decide) (by decide)))
  have F24 := F13.other W20 (Or.inr (slot_ne (C := "com/example/batchwright/batchwright/wire/BoundedOutput") (Or.inl (tw hw 17 rfl)) (Or.inr (tw hw 19 rfl)) (by decide) (t := .int) (t' := .int) (by decide) (by decide)))
  have E25 := E16.keep Kp21
  have KC26 := KC17.trans Kp21 (allS (Or.inl (by simp)) all0)
  have Z27 := Nat.le_trans Z18 Kp21.1
  refine g_return K 19 d2_19 rfl (by decide) (by decide) ?_
  rw [hQ]
  exact ⟨rfl, KC26, E25, F23, F24, F22⟩
theorem own_lt (i c : Int32) (h : i.toInt < c.toInt) : i < c := by rw [Int32.lt_iff_toInt_lt]; exact h
theorem own_nlt (i c : Int32) (h : ¬ i.toInt < c.toInt) : ¬ i < c := by rw [Int32.lt_iff_toInt_lt]; exact h
theorem own_i1 {i : Int32} (h0 : 0 ≤ i.toInt) (h1 : i.toInt < 100) : (i + (1 : Int32)).toInt = i.toInt + 1 := by
  have h := c_iadd i 1
  have r := rng32 (i + 1)
  have e1 : (1 : Int32).toInt = 1 := by decide
  omega
theorem own_ix {a i lm : Int32} (ha : 0 ≤ a.toInt ∧ a.toInt ≤ 8) (hi : 0 ≤ i.toInt) (hl : lm.toInt ≤ 8) (hi2 : i.toInt ≤ 8) (h : a + i < lm) : ¬ a + i < 0 ∧ (a + i).toNatClampNeg < 8 := by
  have h1 := c_iadd a i
  have r := rng32 (a + i)
  rw [Int32.lt_iff_toInt_lt] at h
  have e0 : (0 : Int32).toInt = 0 := by decide
  refine ⟨by rw [Int32.lt_iff_toInt_lt]; omega, ?_⟩
  show (a + i).toInt.toNat < 8
  omega
set_option maxRecDepth 65536 in
set_option maxHeartbeats 40000000 in
theorem rm_putLeAt (l : Launch) (Z : State) (a0 : Array Value) (hw : ∀ d ∈ tables_1, d.before a0 Z = true) (o : Addr) (at_ : Int32) (vl : Int64) (cn : Int32) (h0 : Heap) (n0 : Nat) (Z0 : n0 ≤ h0.size) (ar : Addr) (ps lm : Int32) (xs : List Int32) (E_o : Exa Z h0 o "com/example/batchwright/batchwright/wire/BoundedOutput") (g_o : n0 ≤ o) (F_a : Fld Z h0 o "com/example/batchwright/batchwright/wire/BoundedOutput" "array" "[B" (.ref ar)) (F_p : Fld Z h0 o "com/example/batchwright/batchwright/wire/BoundedOutput" "position" "I" (.int ps)) (F_l : Fld Z h0 o "com/example/batchwright/batchwright/wire/BoundedOutput" "limit" "I" (.int lm)) (A_ar : IA Z h0 ar .byte xs) (g_ar : n0 ≤ ar) (ne_o_ar : o ≠ ar) (hx : xs.length = 8) (ha : 0 ≤ at_.toInt ∧ at_.toInt ≤ 8) (hc : 0 ≤ cn.toInt ∧ cn.toInt ≤ 8) (hl : lm.toInt ≤ 8) :
    Meets l (⟨"com/example/batchwright/batchwright/wire/BoundedOutput", "putLeAt", "(IJI)V"⟩ : MethodName) prog_50_method_9_code 6 none ({ frames := 0, cells := 0, slots := 0, locals := 0 } : Room) Z #[(.ref o), (.int at_), (.long vl), (.int cn)] h0 n0 (fun v h => v = none ∧ Keep h0 h [ar] ∧ Exa Z h o "com/example/batchwright/batchwright/wire/BoundedOutput" ∧ Fld Z h o "com/example/batchwright/batchwright/wire/BoundedOutput" "position" "I" (.int ps) ∧ IA Z h ar .byte (putLe at_ vl lm cn.toInt.toNat 0 xs)) := by
  refine meets_of (plainFor_of_name pn1) (Ls := #[.val (.ref o), .val (.int at_), .val (.long vl), .second, .val (.int cn), .unset]) (fun m => by first | (simp [entryFrame, mkF, argsToLocals, Value.category]; done) | rfl) ?_
  intro p e s m below meth c K
  replace K : Kx Z "com/example/batchwright/batchwright/wire/BoundedOutput" "putLeAt" prog_50_method_9_code 6 none p s m meth c := K
  obtain ⟨Q, hQ⟩ : ∃ Q : Option Value → Heap → Prop, Q = (fun v h => v = none ∧ Keep h0 h [ar] ∧ Exa Z h o "com/example/batchwright/batchwright/wire/BoundedOutput" ∧ Fld Z h o "com/example/batchwright/batchwright/wire/BoundedOutput" "position" "I" (.int ps) ∧ IA Z h ar .byte (putLe at_ vl lm cn.toInt.toNat 0 xs)) := ⟨_, rfl⟩
  rw [← hQ]
  have loop : ∀ (d : Nat) (i : Int32) (h : Heap) (ys : List Int32), Keep h0 h [ar] → Exa Z h o "com/example/batchwright/batchwright/wire/BoundedOutput" → Fld Z h o "com/example/batchwright/batchwright/wire/BoundedOutput" "array" "[B" (.ref ar) → Fld Z h o "com/example/batchwright/batchwright/wire/BoundedOutput" "position" "I" (.int ps) → Fld Z h o "com/example/batchwright/batchwright/wire/BoundedOutput" "limit" "I" (.int lm) → IA Z h ar .byte ys → ys.length = 8 → 0 ≤ i.toInt → i.toInt + d = cn.toInt → putLe at_ vl lm d i ys = (putLe at_ vl lm cn.toInt.toNat 0 xs) → Go p l e ({ frames := 0, cells := 0, slots := 0, locals := 0 } : Room) s m #[(.ref o), (.int at_), (.long vl), (.int cn)] below meth c n0 Q h 0 0 (mkF m 3 #[.val (.ref o), .val (.int at_), .val (.long vl), .second, .val (.int cn), .val (.int i)] []) := by
    intro d
    induction d with
    | zero =>
      intro i h ys KC E Fa Fp Fl A hy hi0 hid hfin
      refine g_iload K 3 d4_3 rfl ?_
      refine g_iload K 5 d4_5 rfl ?_
      refine g_ii_ge K 7 45 d4_7 (by decide) (by decide) ?_ ?_
      · intro c1
        refine g_return K 45 d4_45 rfl (by decide) (by decide) ?_
        rw [hQ]
        exact ⟨rfl, KC, E, Fp, (by rw [← hfin]; exact A)⟩
      · intro c1
        exfalso
        exact absurd c1 (own_nlt i cn (by omega))
    | succ d ih =>
      intro i h ys KC E Fa Fp Fl A hy hi0 hid hfin
      refine g_iload K 3 d4_3 rfl ?_
      refine g_iload K 5 d4_5 rfl ?_
      refine g_ii_ge K 7 45 d4_7 (by decide) (by decide) ?_ ?_
      · intro c2
        exfalso
        exact absurd (own_lt i cn (by omega)) c2
      · intro c2
        refine g_iloadN K 10 d4_10 rfl ?_
        refine g_iload K 11 d4_11 rfl ?_
        refine g_iadd K 13 d4_13 ?_
        refine g_aloadN K 14 d4_14 rfl rfl ?_
        refine g_getfield K 15 d4_15 (tw hw 18 rfl) Fl ?_
        refine g_ii_ge K 18 45 d4_18 (by decide) (by decide) ?_ ?_
        · intro c3
          refine g_return K 45 d4_45 rfl (by decide) (by decide) ?_
          rw [hQ]
          exact ⟨rfl, KC, E, Fp, (by rw [← hfin]; unfold putLe; rw [if_neg c3]; exact A)⟩
        · intro c3
          refine g_aloadN K 21 d4_21 rfl rfl ?_
          refine g_getfield K 22 d4_22 (tw hw 14 rfl) Fa ?_
          refine g_iloadN K 25 d4_25 rfl ?_
          refine g_iload K 26 d4_26 rfl ?_
          refine g_iadd K 28 d4_28 ?_
          refine g_lloadN K 29 d4_29 rfl ?_
          refine g_bipush K 30 (8 : Int32) d4_30 (by decide) ?_
          refine g_iload K 32 d4_32 rfl ?_
          refine g_imul K 34 d4_34 ?_
          refine g_lushr K 35 d4_35 ?_
          refine g_l2i K 36 d4_36 ?_
          refine g_i2b K 37 d4_37 ?_
          refine g_bastore K 38 d4_38 A ((own_ix ha hi0 hl (by omega) c3).1) (by rw [hy]; exact (own_ix ha hi0 hl (by omega) c3).2) g_ar ?_
          intro h4 Kp5 A6
          have KC7 := KC.trans Kp5 (allS (Or.inl (by simp)) all0)
          have E8 := E.keep Kp5
          have F9 := Fa.keep Kp5 (ninS ne_o_ar nin0)
          have F10 := Fp.keep Kp5 (ninS ne_o_ar nin0)
          have F11 := Fl.keep Kp5 (ninS ne_o_ar nin0)
          refine g_iinc K 39 (1 : Int32) #[.val (.ref o), .val (.int at_), .val (.long vl), .second, .val (.int cn), .val (.int (i + (1 : Int32)))] d4_39 (by decide) rfl rfl ?_
          refine g_goto K 42 3 d4_42 (by decide) (by decide) ?_
          exact ih _ _ _ KC7 E8 F9 F10 F11 A6 (by simpa using hy) (by rw [own_i1 hi0 (by omega)]; omega) (by rw [own_i1 hi0 (by omega)]; omega) (by rw [← hfin]; conv => rhs; unfold putLe; rw [if_pos c3])
  refine g_iconst K 0 (0 : Int32) d4_0 (by decide) ?_
  refine g_istore K 1 #[.val (.ref o), .val (.int at_), .val (.long vl), .second, .val (.int cn), .val (.int (0 : Int32))] d4_1 rfl ?_
  exact loop cn.toInt.toNat 0 h0 xs (Keep.refl _ _) E_o F_a F_p F_l A_ar hx (by decide) (by show (0 : Int) + _ = _; omega) rfl
def f_pos (ps : Int32) : Int32 := ps
set_option maxRecDepth 65536 in
set_option maxHeartbeats 40000000 in
theorem rm_pos (l : Launch) (Z : State) (a0 : Array Value) (hw : ∀ d ∈ tables_1, d.before a0 Z = true) (o : Addr) (h0 : Heap) (n0 : Nat) (Z0 : n0 ≤ h0.size) (ps : Int32) (F0 : Fld Z h0 o "com/example/batchwright/batchwright/wire/BoundedOutput" "position" "I" (.int ps)) :
    Meets l (⟨"com/example/batchwright/batchwright/wire/BoundedOutput", "position", "()I"⟩ : MethodName) prog_50_method_2_code 1 (some .int) ({ frames := 0, cells := 0, slots := 0, locals := 0 } : Room) Z #[(.ref o)] h0 n0 (fun v h => v = some (Value.int (f_pos ps)) ∧ h = h0) := by
  refine meets_of (plainFor_of_name pn1) (Ls := #[.val (.ref o)]) (fun m => by first | (simp [entryFrame, mkF, argsToLocals, Value.category]; done) | rfl) ?_
  intro p e s m below meth c K
  replace K : Kx Z "com/example/batchwright/batchwright/wire/BoundedOutput" "position" prog_50_method_2_code 1 (some .int) p s m meth c := K
  obtain ⟨Q, hQ⟩ : ∃ Q : Option Value → Heap → Prop, Q = (fun v h => v = some (Value.int (f_pos ps)) ∧ h = h0) := ⟨_, rfl⟩
  rw [← hQ]
  refine g_aloadN K 0 d5_0 rfl rfl ?_
  refine g_getfield K 1 d5_1 (tw hw 16 rfl) F0 ?_
  refine g_ireturn K 4 d5_4 rfl (by decide) (by decide) ?_
  rw [hQ]
  refine ⟨?_, rfl⟩
  show some (Value.int _) = some (Value.int (f_pos ps))
  unfold f_pos
  rfl
def f_same (xs : List Int32) (ix : Int32) (at_ : Int32) (vl : Int64) (cn : Int32) (lm : Int32) (fil : Int32) : Int32 := if ix < at_ then (nar .boolean (if (rdI xs ix) = (f_orig fil ix) then (1 : Int32) else (0 : Int32))) else (if (ix - at_) < cn then (if ix < lm then (nar .boolean (if (rdI xs ix) = ((XT.ushrL vl ((8 : Int32) * (ix - at_))).toInt32).toInt8.toInt32 then (1 : Int32) else (0 : Int32))) else (nar .boolean (if (rdI xs ix) = (f_orig fil ix) then (1 : Int32) else (0 : Int32)))) else (nar .boolean (if (rdI xs ix) = (f_orig fil ix) then (1 : Int32) else (0 : Int32))))
set_option maxRecDepth 65536 in
set_option maxHeartbeats 40000000 in
theorem rm_same (l : Launch) (Z : State) (a0 : Array Value) (hw : ∀ d ∈ tables_1, d.before a0 Z = true) (ar : Addr) (ix : Int32) (at_ : Int32) (vl : Int64) (cn : Int32) (lm : Int32) (fil : Int32) (h0 : Heap) (n0 : Nat) (Z0 : n0 ≤ h0.size) (xs : List Int32) (A0 : IA Z h0 ar .byte xs) (hj : ¬ ix < 0 ∧ ix.toNatClampNeg < xs.length) :
    Meets l (⟨"com/example/batchwright/batchwright/wire/BoundedOutputPutLeAtPinLaw", "same", "([BIIJIII)Z"⟩ : MethodName) method_4_code 9 (some .boolean) ({ frames := 1, cells := 0, slots := 0, locals := 13 } : Room) Z #[(.ref ar), (.int ix), (.int at_), (.long vl), (.int cn), (.int lm), (.int fil)] h0 n0 (fun v h => v = some (Value.int (f_same xs ix at_ vl cn lm fil)) ∧ h = h0) := by
  refine meets_of (plainFor_of_name pn0) (Ls := #[.val (.ref ar), .val (.int ix), .val (.int at_), .val (.long vl), .second, .val (.int cn), .val (.int lm), .val (.int fil), .unset]) (fun m => by first | (simp [entryFrame, mkF, argsToLocals, Value.category]; done) | rfl) ?_
  intro p e s m below meth c K
  replace K : Kx Z "com/example/batchwright/batchwright/wire/BoundedOutputPutLeAtPinLaw" "same" method_4_code 9 (some .boolean) p s m meth c := K
  obtain ⟨Q, hQ⟩ : ∃ Q : Option Value → Heap → Prop, Q = (fun v h => v = some (Value.int (f_same xs ix at_ vl cn lm fil)) ∧ h = h0) := ⟨_, rfl⟩
  rw [← hQ]
  refine g_iloadN K 0 d6_0 rfl ?_
  refine g_iloadN K 1 d6_1 rfl ?_
  refine g_ii_lt K 2 34 d6_2 (by decide) (by decide) ?_ ?_
  · intro c1
    refine g_iload K 34 d6_34 rfl ?_
    refine g_iloadN K 36 d6_36 rfl ?_
    refine g_callS K 37 [(.int fil), (.int ix)] 0 d6_37 (rm_orig l Z a0 hw fil ix h0 n0 Z0  ) (tw hw 1 rfl) (tw hw 2 rfl) (tw hw 3 rfl) (tw hw 4 rfl) (by decide) pd0 rfl (st := []) rfl (Nat.le_of_eq rfl) rfl (by decide) (by decide) (by decide) (by decide) ?_
    rintro _ _ ⟨hv, hh⟩
    rw [hv, hh]
    clear hv hh
    refine go_cast (k' := 0) (n' := 0) (st' := [(.int (f_orig fil ix))]) rfl rfl rfl ?_
    refine g_istore K 40 #[.val (.ref ar), .val (.int ix), .val (.int at_), .val (.long vl), .second, .val (.int cn), .val (.int lm), .val (.int fil), .val (.int (f_orig fil ix))] d6_40 rfl ?_
    refine g_aloadN K 42 d6_42 rfl rfl ?_
    refine g_iloadN K 43 d6_43 rfl ?_
    refine g_baload K 44 (rdI xs ix) d6_44 A0 (hj.1) (rdI_some hj.2) ?_
    refine g_iload K 45 d6_45 rfl ?_
    have J3 : ∀ (z2 : Int32), z2 = (if (rdI xs ix) = (f_orig fil ix) then (1 : Int32) else (0 : Int32)) → Go p l e ({ frames := 1, cells := 0, slots := 0, locals := 13 } : Room) s m #[(.ref ar), (.int ix), (.int at_), (.long vl), (.int cn), (.int lm), (.int fil)] below meth c n0 Q h0 0 0 (mkF m 55 #[.val (.ref ar), .val (.int ix), .val (.int at_), .val (.long vl), .second, .val (.int cn), .val (.int lm), .val (.int fil), .val (.int (f_orig fil ix))] [(.int z2)]) := by
      intro z2 hz2
      subst hz2
      refine g_retN K 55 .boolean d6_55 rfl (by simp) (by decide) (by decide) ?_
      rw [hQ]
      refine ⟨?_, rfl⟩
      show some (Value.int _) = some (Value.int (f_same xs ix at_ vl cn lm fil))
      unfold f_same
      first | (rw [if_pos c1]; done) | (rw [if_pos c1]; rfl)
    refine g_ii_ne K 47 54 d6_47 (by decide) (by decide) ?_ ?_
    · intro c4
      refine g_iconst K 54 (0 : Int32) d6_54 (by decide) ?_
      exact J3 _ (by rw [if_neg c4])
    · intro c4
      refine g_iconst K 50 (1 : Int32) d6_50 (by decide) ?_
      refine g_goto K 51 55 d6_51 (by decide) (by decide) ?_
      exact J3 _ (by rw [if_pos c4])
  · intro c1
    refine g_iloadN K 5 d6_5 rfl ?_
    refine g_iloadN K 6 d6_6 rfl ?_
    refine g_isub K 7 d6_7 ?_
    refine g_iload K 8 d6_8 rfl ?_
    refine g_ii_ge K 10 34 d6_10 (by decide) (by decide) ?_ ?_
    · intro c5
      refine g_iload K 34 d6_34 rfl ?_
      refine g_iloadN K 36 d6_36 rfl ?_
      refine g_callS K 37 [(.int fil), (.int ix)] 0 d6_37 (rm_orig l Z a0 hw fil ix h0 n0 Z0  ) (tw hw 1 rfl) (tw hw 2 rfl) (tw hw 3 rfl) (tw hw 4 rfl) (by decide) pd0 rfl (st := []) rfl (Nat.le_of_eq rfl) rfl (by decide) (by decide) (by decide) (by decide) ?_
      rintro _ _ ⟨hv, hh⟩
      rw [hv, hh]
      clear hv hh
      refine go_cast (k' := 0) (n' := 0) (st' := [(.int (f_orig fil ix))]) rfl rfl rfl ?_
      refine g_istore K 40 #[.val (.ref ar), .val (.int ix), .val (.int at_), .val (.long vl), .second, .val (.int cn), .val (.int lm), .val (.int fil), .val (.int (f_orig fil ix))] d6_40 rfl ?_
      refine g_aloadN K 42 d6_42 rfl rfl ?_
      refine g_iloadN K 43 d6_43 rfl ?_
      refine g_baload K 44 (rdI xs ix) d6_44 A0 (hj.1) (rdI_some hj.2) ?_
      refine g_iload K 45 d6_45 rfl ?_
      have J7 : ∀ (z6 : Int32), z6 = (if (rdI xs ix) = (f_orig fil ix) then (1 : Int32) else (0 : Int32)) → Go p l e ({ frames := 1, cells := 0, slots := 0, locals := 13 } : Room) s m #[(.ref ar), (.int ix), (.int at_), (.long vl), (.int cn), (.int lm), (.int fil)] below meth c n0 Q h0 0 0 (mkF m 55 #[.val (.ref ar), .val (.int ix), .val (.int at_), .val (.long vl), .second, .val (.int cn), .val (.int lm), .val (.int fil), .val (.int (f_orig fil ix))] [(.int z6)]) := by
        intro z6 hz6
        subst hz6
        refine g_retN K 55 .boolean d6_55 rfl (by simp) (by decide) (by decide) ?_
        rw [hQ]
        refine ⟨?_, rfl⟩
        show some (Value.int _) = some (Value.int (f_same xs ix at_ vl cn lm fil))
        unfold f_same
        first | (rw [if_neg c1, if_neg c5]; done) | (rw [if_neg c1, if_neg c5]; rfl)
      refine g_ii_ne K 47 54 d6_47 (by decide) (by decide) ?_ ?_
      · intro c8
        refine g_iconst K 54 (0 : Int32) d6_54 (by decide) ?_
        exact J7 _ (by rw [if_neg c8])
      · intro c8
        refine g_iconst K 50 (1 : Int32) d6_50 (by decide) ?_
        refine g_goto K 51 55 d6_51 (by decide) (by decide) ?_
        exact J7 _ (by rw [if_pos c8])
    · intro c5
      refine g_iloadN K 13 d6_13 rfl ?_
      refine g_iload K 14 d6_14 rfl ?_
      refine g_ii_ge K 16 34 d6_16 (by decide) (by decide) ?_ ?_
      · intro c9
        refine g_iload K 34 d6_34 rfl ?_
        refine g_iloadN K 36 d6_36 rfl ?_
        refine g_callS K 37 [(.int fil), (.int ix)] 0 d6_37 (rm_orig l Z a0 hw fil ix h0 n0 Z0  ) (tw hw 1 rfl) (tw hw 2 rfl) (tw hw 3 rfl) (tw hw 4 rfl) (by decide) pd0 rfl (st := []) rfl (Nat.le_of_eq rfl) rfl (by decide) (by decide) (by decide) (by decide) ?_
        rintro _ _ ⟨hv, hh⟩
        rw [hv, hh]
        clear hv hh
        refine go_cast (k' := 0) (n' := 0) (st' := [(.int (f_orig fil ix))]) rfl rfl rfl ?_
        refine g_istore K 40 #[.val (.ref ar), .val (.int ix), .val (.int at_), .val (.long vl), .second, .val (.int cn), .val (.int lm), .val (.int fil), .val (.int (f_orig fil ix))] d6_40 rfl ?_
        refine g_aloadN K 42 d6_42 rfl rfl ?_
        refine g_iloadN K 43 d6_43 rfl ?_
        refine g_baload K 44 (rdI xs ix) d6_44 A0 (hj.1) (rdI_some hj.2) ?_
        refine g_iload K 45 d6_45 rfl ?_
        have J11 : ∀ (z10 : Int32), z10 = (if (rdI xs ix) = (f_orig fil ix) then (1 : Int32) else (0 : Int32)) → Go p l e ({ frames := 1, cells := 0, slots := 0, locals := 13 } : Room) s m #[(.ref ar), (.int ix), (.int at_), (.long vl), (.int cn), (.int lm), (.int fil)] below meth c n0 Q h0 0 0 (mkF m 55 #[.val (.ref ar), .val (.int ix), .val (.int at_), .val (.long vl), .second, .val (.int cn), .val (.int lm), .val (.int fil), .val (.int (f_orig fil ix))] [(.int z10)]) := by
          intro z10 hz10
          subst hz10
          refine g_retN K 55 .boolean d6_55 rfl (by simp) (by decide) (by decide) ?_
          rw [hQ]
          refine ⟨?_, rfl⟩
          show some (Value.int _) = some (Value.int (f_same xs ix at_ vl cn lm fil))
          unfold f_same
          first | (rw [if_neg c1, if_pos c5, if_neg c9]; done) | (rw [if_neg c1, if_pos c5, if_neg c9]; rfl)
        refine g_ii_ne K 47 54 d6_47 (by decide) (by decide) ?_ ?_
        · intro c12
          refine g_iconst K 54 (0 : Int32) d6_54 (by decide) ?_
          exact J11 _ (by rw [if_neg c12])
        · intro c12
          refine g_iconst K 50 (1 : Int32) d6_50 (by decide) ?_
          refine g_goto K 51 55 d6_51 (by decide) (by decide) ?_
          exact J11 _ (by rw [if_pos c12])
      · intro c9
        refine g_lloadN K 19 d6_19 rfl ?_
        refine g_bipush K 20 (8 : Int32) d6_20 (by decide) ?_
        refine g_iloadN K 22 d6_22 rfl ?_
        refine g_iloadN K 23 d6_23 rfl ?_
        refine g_isub K 24 d6_24 ?_
        refine g_imul K 25 d6_25 ?_
        refine g_lushr K 26 d6_26 ?_
        refine g_l2i K 27 d6_27 ?_
        refine g_i2b K 28 d6_28 ?_
        refine g_istore K 29 #[.val (.ref ar), .val (.int ix), .val (.int at_), .val (.long vl), .second, .val (.int cn), .val (.int lm), .val (.int fil), .val (.int ((XT.ushrL vl ((8 : Int32) * (ix - at_))).toInt32).toInt8.toInt32)] d6_29 rfl ?_
        refine g_goto K 31 42 d6_31 (by decide) (by decide) ?_
        refine g_aloadN K 42 d6_42 rfl rfl ?_
        refine g_iloadN K 43 d6_43 rfl ?_
        refine g_baload K 44 (rdI xs ix) d6_44 A0 (hj.1) (rdI_some hj.2) ?_
        refine g_iload K 45 d6_45 rfl ?_
        have J14 : ∀ (z13 : Int32), z13 = (if (rdI xs ix) = ((XT.ushrL vl ((8 : Int32) * (ix - at_))).toInt32).toInt8.toInt32 then (1 : Int32) else (0 : Int32)) → Go p l e ({ frames := 1, cells := 0, slots := 0, locals := 13 } : Room) s m #[(.ref ar), (.int ix), (.int at_), (.long vl), (.int cn), (.int lm), (.int fil)] below meth c n0 Q h0 0 0 (mkF m 55 #[.val (.ref ar), .val (.int ix), .val (.int at_), .val (.long vl), .second, .val (.int cn), .val (.int lm), .val (.int fil), .val (.int ((XT.ushrL vl ((8 : Int32) * (ix - at_))).toInt32).toInt8.toInt32)] [(.int z13)]) := by
          intro z13 hz13
          subst hz13
          refine g_retN K 55 .boolean d6_55 rfl (by simp) (by decide) (by decide) ?_
          rw [hQ]
          refine ⟨?_, rfl⟩
          show some (Value.int _) = some (Value.int (f_same xs ix at_ vl cn lm fil))
          unfold f_same
          first | (rw [if_neg c1, if_pos c5, if_pos c9]; done) | (rw [if_neg c1, if_pos c5, if_pos c9]; rfl)
        refine g_ii_ne K 47 54 d6_47 (by decide) (by decide) ?_ ?_
        · intro c15
          refine g_iconst K 54 (0 : Int32) d6_54 (by decide) ?_
          exact J14 _ (by rw [if_neg c15])
        · intro c15
          refine g_iconst K 50 (1 : Int32) d6_50 (by decide) ?_
          refine g_goto K 51 55 d6_51 (by decide) (by decide) ?_
          exact J14 _ (by rw [if_pos c15])
theorem own_rdset (xs : List Int32) (i j v : Int32) (hi : 0 ≤ i.toInt ∧ i.toInt.toNat < xs.length) (hj : 0 ≤ j.toInt) : rdI (xs.set j.toNatClampNeg v) i = if i = j then v else rdI xs i := by
  unfold rdI
  have e1 : ∀ q : Int32, q.toNatClampNeg = q.toInt.toNat := fun _ => rfl
  by_cases h : i = j
  · subst h
    rw [if_pos rfl]
    simp only [e1, List.getD_eq_getElem?_getD, List.getElem?_set, hi.2, if_true]
    rfl
  · rw [if_neg h]
    have : ¬ j.toNatClampNeg = i.toNatClampNeg := fun q => h (Int32.toInt_inj.mp (by rw [e1, e1] at q; omega))
    simp only [List.getD_eq_getElem?_getD, List.getElem?_set, this, if_false]
theorem own_putLe (a : Int32) (v : Int64) (lm : Int32) (ha : 0 ≤ a.toInt ∧ a.toInt ≤ 8) (k : Int32) (hk0 : 0 ≤ k.toInt) (d : Nat) : ∀ (i : Int32) (xs : List Int32), k.toInt.toNat < xs.length → 0 ≤ i.toInt → i.toInt + d ≤ 8 →
    rdI (putLe a v lm d i xs) k = if a.toInt + i.toInt ≤ k.toInt ∧ k.toInt < a.toInt + i.toInt + d ∧ k.toInt < lm.toInt then (XT.ushrL v ((8 : Int32) * (k - a))).toInt32.toInt8.toInt32 else rdI xs k := by
  induction d with
  | zero =>
    intro i xs hk hi hd
    rw [if_neg (by omega)]; rfl
  | succ d ih =>
    intro i xs hk hi hd
    have h1 := c_iadd a i
    have r1 := rng32 (a + i)
    have hai : (a + i).toInt = a.toInt + i.toInt := by omega
    have hi1 := own_i1 hi (by omega)
    unfold putLe
    by_cases q : a + i < lm
    · have q' := q
      rw [Int32.lt_iff_toInt_lt, hai] at q'
      rw [if_pos q, ih _ _ (by simpa using hk) (by omega) (by omega), hi1, own_rdset _ _ _ _ ⟨hk0, hk⟩ (by omega)]
      by_cases e : k = a + i
      · have ek : k.toInt = a.toInt + i.toInt := by rw [e]; exact hai
        rw [if_neg (by omega), if_pos e, if_pos (by omega)]
        have : k - a = i := by
          have h2 := c_isub k a
          have r2 := rng32 (k - a)
          have := rng32 i
          exact Int32.toInt_inj.mp (by omega)
        rw [this]
        simp [nar]
      · have ek : ¬ k.toInt = a.toInt + i.toInt := fun w => e (Int32.toInt_inj.mp (by rw [w, hai]))
        rw [if_neg e]
        by_cases c : a.toInt + (i.toInt + 1) ≤ k.toInt ∧ k.toInt < a.toInt + (i.toInt + 1) + d ∧ k.toInt < lm.toInt
        · rw [if_pos c, if_pos (by omega)]
        · rw [if_neg c, if_neg (by omega)]
    · have q' := q
      rw [Int32.lt_iff_toInt_lt, hai] at q'
      rw [if_neg q, if_neg (by omega)]
theorem own_r9 {x y : Int32} (h : (x &&& (15 : Int32)) % (9 : Int32) = y) : 0 ≤ y.toInt ∧ y.toInt ≤ 8 := by
  have hm := c_mask x 15 4 (by decide) (by decide)
  have hw := (c_irem (x &&& 15) 9 9 (by decide)).1 (by omega)
  rw [h] at hw
  omega
theorem own_same (a : Int32) (v : Int64) (cn lm fil : Int32) (xs : List Int32) (k : Int32) (hx : xs.length = 8) (ha : 0 ≤ a.toInt ∧ a.toInt ≤ 8) (hc : 0 ≤ cn.toInt ∧ cn.toInt ≤ 8) (hk : 0 ≤ k.toInt ∧ k.toInt < 8) (horig : rdI xs k = f_orig fil k) :
    f_same (putLe a v lm cn.toInt.toNat 0 xs) k a v cn lm fil = 1 := by
  have h := own_putLe a v lm ha k hk.1 cn.toInt.toNat 0 xs (by rw [hx]; omega) (by decide) (by rw [show (0 : Int32).toInt = 0 from by decide]; omega)
  rw [show (0 : Int32).toInt = 0 from by decide, horig] at h
  have h2 := c_isub k a
  have r2 := rng32 (k - a)
  have hka : (k - a).toInt = k.toInt - a.toInt := by omega
  unfold f_same
  generalize rdI (putLe a v lm cn.toInt.toNat 0 xs) k = R at *
  simp only [Int32.lt_iff_toInt_lt, hka]
  by_cases c1 : k.toInt < a.toInt
  · rw [if_neg (by omega)] at h
    rw [if_pos c1, if_pos h]; rfl
  · rw [if_neg c1]
    by_cases c2 : k.toInt - a.toInt < cn.toInt
    · rw [if_pos c2]
      by_cases c3 : k.toInt < lm.toInt
      · rw [if_pos (by omega)] at h
        rw [if_pos c3, if_pos h]; rfl
      · rw [if_neg (by omega)] at h
        rw [if_neg c3, if_pos h]; rfl
    · rw [if_neg (by omega)] at h
      rw [if_neg c2, if_pos h]; rfl
theorem own_on (x y : Int32) : nar .byte (f_orig x y) = f_orig x y := by unfold f_orig; simp [nar]
theorem own_plen (a : Int32) (v : Int64) (lm : Int32) (d : Nat) (i : Int32) (xs : List Int32) : (putLe a v lm d i xs).length = xs.length := by
  induction d generalizing i xs with
  | zero => rfl
  | succ d ih => unfold putLe; split
                 · rw [ih]; simp
                 · rfl
set_option maxRecDepth 65536 in
set_option maxHeartbeats 40000000 in
theorem rm_law (l : Launch) (Z : State) (a0 : Array Value) (hw : ∀ d ∈ tables_1, d.before a0 Z = true) (p0 : Int32) (q1 : Int64) (p2 : Int32) (p3 : Int32) (p4 : Int32) (p5 : Int32) (h0 : Heap) (n0 : Nat) (Z0 : n0 ≤ h0.size)  :
    Meets l x code maxLocals ret room_1 Z #[(.int p0), (.long q1), (.int p2), (.int p3), (.int p4), (.int p5)] h0 n0 (fun v h => v = some (Value.int 1)) := by
  refine meets_of (plainFor_of_name pn0) (Ls := #[.val (.int p0), .val (.long q1), .second, .val (.int p2), .val (.int p3), .val (.int p4), .val (.int p5), .unset, .unset, .unset, .unset, .unset, .unset]) (fun m => by first | (simp [entryFrame, mkF, argsToLocals, Value.category, maxLocals]; done) | rfl) ?_
  intro p e s m below meth c K
  replace K : Kx Z "com/example/batchwright/batchwright/wire/BoundedOutputPutLeAtPinLaw" "law" code maxLocals ret p s m meth c := K
  obtain ⟨Q, hQ⟩ : ∃ Q : Option Value → Heap → Prop, Q = (fun v h => v = some (Value.int 1)) := ⟨_, rfl⟩
  rw [← hQ]
  refine g_iloadN K 0 at_0 rfl ?_
  refine g_bipush K 1 (15 : Int32) at_1 (by decide) ?_
  refine g_iand K 3 at_3 ?_
  refine g_bipush K 4 (9 : Int32) at_4 (by decide) ?_
  refine g_irem K 6 at_6 (by decide) ?_
  generalize hv1 : ((p0 &&& (15 : Int32)) % (9 : Int32)) = v1
  refine g_istore K 7 #[.val (.int p0), .val (.long q1), .second, .val (.int p2), .val (.int p3), .val (.int p4), .val (.int p5), .val (.int v1), .unset, .unset, .unset, .unset, .unset] at_7 rfl ?_
  refine g_iloadN K 9 at_9 rfl ?_
  refine g_bipush K 10 (15 : Int32) at_10 (by decide) ?_
  refine g_iand K 12 at_12 ?_
  refine g_bipush K 13 (9 : Int32) at_13 (by decide) ?_
  refine g_irem K 15 at_15 (by decide) ?_
  generalize hv2 : ((p2 &&& (15 : Int32)) % (9 : Int32)) = v2
  refine g_istore K 16 #[.val (.int p0), .val (.long q1), .second, .val (.int p2), .val (.int p3), .val (.int p4), .val (.int p5), .val (.int v1), .val (.int v2), .unset, .unset, .unset, .unset] at_16 rfl ?_
  refine g_iload K 18 at_18 rfl ?_
  refine g_bipush K 20 (15 : Int32) at_20 (by decide) ?_
  refine g_iand K 22 at_22 ?_
  refine g_bipush K 23 (9 : Int32) at_23 (by decide) ?_
  refine g_irem K 25 at_25 (by decide) ?_
  generalize hv3 : ((p3 &&& (15 : Int32)) % (9 : Int32)) = v3
  refine g_istore K 26 #[.val (.int p0), .val (.long q1), .second, .val (.int p2), .val (.int p3), .val (.int p4), .val (.int p5), .val (.int v1), .val (.int v2), .val (.int v3), .unset, .unset, .unset] at_26 rfl ?_
  refine g_bipush K 28 (8 : Int32) at_28 (by decide) ?_
  refine g_newI K 30 .byte at_30 rfl rfl (tw hw 0 rfl) (by decide) 8 (by decide) (by decide) (by decide) (by decide) ?_
  intro h5 a4 eq8 Kp6 A7
  have g9 : n0 ≤ a4 := eq8 ▸ Z0
  have Z10 := Nat.le_trans Z0 Kp6.1
  have A11 : IA Z h5 a4 .byte [0, 0, 0, 0, 0, 0, 0, 0] := (by have q := A7; rw [show (8 : Int32).toNatClampNeg = 8 from by decide] at q; exact q)
  refine g_astore K 32 #[.val (.int p0), .val (.long q1), .second, .val (.int p2), .val (.int p3), .val (.int p4), .val (.int p5), .val (.int v1), .val (.int v2), .val (.int v3), .val (.ref a4), .unset, .unset] at_32 rfl rfl ?_
  refine g_aload K 34 at_34 rfl rfl ?_
  refine g_iconst K 36 (0 : Int32) at_36 (by decide) ?_
  refine g_iload K 37 at_37 rfl ?_
  refine g_iconst K 39 (0 : Int32) at_39 (by decide) ?_
  refine g_callS K 40 [(.int p5), (.int (0 : Int32))] 2 at_40 (rm_orig l Z a0 hw p5 (0 : Int32) h5 n0 Z10  ) (tw hw 1 rfl) (tw hw 2 rfl) (tw hw 3 rfl) (tw hw 4 rfl) (by decide) pd0 rfl (st := [(.int (0 : Int32)), (.ref a4)]) rfl (Nat.le_of_eq rfl) rfl (by decide) (by decide) (by decide) (by decide) ?_
  rintro _ _ ⟨hv, hh⟩
  rw [hv, hh]
  clear hv hh
  refine go_cast (k' := (0 + 1)) (n' := (0 + 8)) (st' := [(.int (f_orig p5 (0 : Int32))), (.int (0 : Int32)), (.ref a4)]) rfl rfl rfl ?_
  refine g_bastore K 43 at_43 A11 (by decide) (show (0 : Int32).toNatClampNeg < 8 from by decide) g9 ?_
  intro h12 Kp13 A14
  have Z15 := Nat.le_trans Z10 Kp13.1
  have A16 : IA Z h12 a4 .byte [nar .byte (f_orig p5 (0 : Int32)), 0, 0, 0, 0, 0, 0, 0] := (by have q := A14; rw [show (0 : Int32).toNatClampNeg = 0 from by decide] at q; exact q)
  refine g_aload K 44 at_44 rfl rfl ?_
  refine g_iconst K 46 (1 : Int32) at_46 (by decide) ?_
  refine g_iload K 47 at_47 rfl ?_
  refine g_iconst K 49 (1 : Int32) at_49 (by decide) ?_
  refine g_callS K 50 [(.int p5), (.int (1 : Int32))] 2 at_50 (rm_orig l Z a0 hw p5 (1 : Int32) h12 n0 Z15  ) (tw hw 1 rfl) (tw hw 2 rfl) (tw hw 3 rfl) (tw hw 4 rfl) (by decide) pd0 rfl (st := [(.int (1 : Int32)), (.ref a4)]) rfl (Nat.le_of_eq rfl) rfl (by decide) (by decide) (by decide) (by decide) ?_
  rintro _ _ ⟨hv, hh⟩
  rw [hv, hh]
  clear hv hh
  refine go_cast (k' := (0 + 1)) (n' := (0 + 8)) (st' := [(.int (f_orig p5 (1 : Int32))), (.int (1 : Int32)), (.ref a4)]) rfl rfl rfl ?_
  refine g_bastore K 53 at_53 A16 (by decide) (show (1 : Int32).toNatClampNeg < 8 from by decide) g9 ?_
  intro h17 Kp18 A19
  have Z20 := Nat.le_trans Z15 Kp18.1
  have A21 : IA Z h17 a4 .byte [nar .byte (f_orig p5 (0 : Int32)), nar .byte (f_orig p5 (1 : Int32)), 0, 0, 0, 0, 0, 0] := (by have q := A19; rw [show (1 : Int32).toNatClampNeg = 1 from by decide] at q; exact q)
  refine g_aload K 54 at_54 rfl rfl ?_
  refine g_iconst K 56 (2 : Int32) at_56 (by decide) ?_
  refine g_iload K 57 at_57 rfl ?_
  refine g_iconst K 59 (2 : Int32) at_59 (by decide) ?_
  refine g_callS K 60 [(.int p5), (.int (2 : Int32))] 2 at_60 (rm_orig l Z a0 hw p5 (2 : Int32) h17 n0 Z20  ) (tw hw 1 rfl) (tw hw 2 rfl) (tw hw 3 rfl) (tw hw 4 rfl) (by decide) pd0 rfl (st := [(.int (2 : Int32)), (.ref a4)]) rfl (Nat.le_of_eq rfl) rfl (by decide) (by decide) (by decide) (by decide) ?_
  rintro _ _ ⟨hv, hh⟩
  rw [hv, hh]
  clear hv hh
  refine go_cast (k' := (0 + 1)) (n' := (0 + 8)) (st' := [(.int (f_orig p5 (2 : Int32))), (.int (2 : Int32)), (.ref a4)]) rfl rfl rfl ?_
  refine g_bastore K 63 at_63 A21 (by decide) (show (2 : Int32).toNatClampNeg < 8 from by decide) g9 ?_
  intro h22 Kp23 A24
  have Z25 := Nat.le_trans Z20 Kp23.1
  have A26 : IA Z h22 a4 .byte [nar .byte (f_orig p5 (0 : Int32)), nar .byte (f_orig p5 (1 : Int32)), nar .byte (f_orig p5 (2 : Int32)), 0, 0, 0, 0, 0] := (by have q := A24; rw [show (2 : Int32).toNatClampNeg = 2 from by decide] at q; exact q)
  refine g_aload K 64 at_64 rfl rfl ?_
  refine g_iconst K 66 (3 : Int32) at_66 (by decide) ?_
  refine g_iload K 67 at_67 rfl ?_
  refine g_iconst K 69 (3 : Int32) at_69 (by decide) ?_
  refine g_callS K 70 [(.int p5), (.int (3 : Int32))] 2 at_70 (rm_orig l Z a0 hw p5 (3 : Int32) h22 n0 Z25  ) (tw hw 1 rfl) (tw hw 2 rfl) (tw hw 3 rfl) (tw hw 4 rfl) (by decide) pd0 rfl (st := [(.int (3 : Int32)), (.ref a4)]) rfl (Nat.le_of_eq rfl) rfl (by decide) (by decide) (by decide) (by decide) ?_
  rintro _ _ ⟨hv, hh⟩
  rw [hv, hh]
  clear hv hh
  refine go_cast (k' := (0 + 1)) (n' := (0 + 8)) (st' := [(.int (f_orig p5 (3 : Int32))), (.int (3 : Int32)), (.ref a4)]) rfl rfl rfl ?_
  refine g_bastore K 73 at_73 A26 (by decide) (show (3 : Int32).toNatClampNeg < 8 from by decide) g9 ?_
  intro h27 Kp28 A29
  have Z30 := Nat.le_trans Z25 Kp28.1
  have A31 : IA Z h27 a4 .byte [nar .byte (f_orig p5 (0 : Int32)), nar .byte (f_orig p5 (1 : Int32)), nar .byte (f_orig p5 (2 : Int32)), nar .byte (f_orig p5 (3 : Int32)), 0, 0, 0, 0] := (by have q := A29; rw [show (3 : Int32).toNatClampNeg = 3 from by decide] at q; exact q)
  refine g_aload K 74 at_74 rfl rfl ?_
  refine g_iconst K 76 (4 : Int32) at_76 (by decide) ?_
  refine g_iload K 77 at_77 rfl ?_
  refine g_iconst K 79 (4 : Int32) at_79 (by decide) ?_
  refine g_callS K 80 [(.int p5), (.int (4 : Int32))] 2 at_80 (rm_orig l Z a0 hw p5 (4 : Int32) h27 n0 Z30  ) (tw hw 1 rfl) (tw hw 2 rfl) (tw hw 3 rfl) (tw hw 4 rfl) (by decide) pd0 rfl (st := [(.int (4 : Int32)), (.ref a4)]) rfl (Nat.le_of_eq rfl) rfl (by decide) (by decide) (by decide) (by decide) ?_
  rintro _ _ ⟨hv, hh⟩
  rw [hv, hh]
  clear hv hh
  refine go_cast (k' := (0 + 1)) (n' := (0 + 8)) (st' := [(.int (f_orig p5 (4 : Int32))), (.int (4 : Int32)), (.ref a4)]) rfl rfl rfl ?_
  refine g_bastore K 83 at_83 A31 (by decide) (show (4 : Int32).toNatClampNeg < 8 from by decide) g9 ?_
  intro h32 Kp33 A34
  have Z35 := Nat.le_trans Z30 Kp33.1
  have A36 : IA Z h32 a4 .byte [nar .byte (f_orig p5 (0 : Int32)), nar .byte (f_orig p5 (1 : Int32)), nar .byte (f_orig p5 (2 : Int32)), nar .byte (f_orig p5 (3 : Int32)), nar .byte (f_orig p5 (4 : Int32)), 0, 0, 0] := (by have q := A34; rw [show (4 : Int32).toNatClampNeg = 4 from by decide] at q; exact q)
  refine g_aload K 84 at_84 rfl rfl ?_
  refine g_iconst K 86 (5 : Int32) at_86 (by decide) ?_
  refine g_iload K 87 at_87 rfl ?_
  refine g_iconst K 89 (5 : Int32) at_89 (by decide) ?_
  refine g_callS K 90 [(.int p5), (.int (5 : Int32))] 2 at_90 (rm_orig l Z a0 hw p5 (5 : Int32) h32 n0 Z35  ) (tw hw 1 rfl) (tw hw 2 rfl) (tw hw 3 rfl) (tw hw 4 rfl) (by decide) pd0 rfl (st := [(.int (5 : Int32)), (.ref a4)]) rfl (Nat.le_of_eq rfl) rfl (by decide) (by decide) (by decide) (by decide) ?_
  rintro _ _ ⟨hv, hh⟩
  rw [hv, hh]
  clear hv hh
  refine go_cast (k' := (0 + 1)) (n' := (0 + 8)) (st' := [(.int (f_orig p5 (5 : Int32))), (.int (5 : Int32)), (.ref a4)]) rfl rfl rfl ?_
  refine g_bastore K 93 at_93 A36 (by decide) (show (5 : Int32).toNatClampNeg < 8 from by decide) g9 ?_
  intro h37 Kp38 A39
  have Z40 := Nat.le_trans Z35 Kp38.1
  have A41 : IA Z h37 a4 .byte [nar .byte (f_orig p5 (0 : Int32)), nar .byte (f_orig p5 (1 : Int32)), nar .byte (f_orig p5 (2 : Int32)), nar .byte (f_orig p5 (3 : Int32)), nar .byte (f_orig p5 (4 : Int32)), nar .byte (f_orig p5 (5 : Int32)), 0, 0] := (by have q := A39; rw [show (5 : Int32).toNatClampNeg = 5 from by decide] at q; exact q)
  refine g_aload K 94 at_94 rfl rfl ?_
  refine g_bipush K 96 (6 : Int32) at_96 (by decide) ?_
  refine g_iload K 98 at_98 rfl ?_
  refine g_bipush K 100 (6 : Int32) at_100 (by decide) ?_
  refine g_callS K 102 [(.int p5), (.int (6 : Int32))] 2 at_102 (rm_orig l Z a0 hw p5 (6 : Int32) h37 n0 Z40  ) (tw hw 1 rfl) (tw hw 2 rfl) (tw hw 3 rfl) (tw hw 4 rfl) (by decide) pd0 rfl (st := [(.int (6 : Int32)), (.ref a4)]) rfl (Nat.le_of_eq rfl) rfl (by decide) (by decide) (by decide) (by decide) ?_
  rintro _ _ ⟨hv, hh⟩
  rw [hv, hh]
  clear hv hh
  refine go_cast (k' := (0 + 1)) (n' := (0 + 8)) (st' := [(.int (f_orig p5 (6 : Int32))), (.int (6 : Int32)), (.ref a4)]) rfl rfl rfl ?_
  refine g_bastore K 105 at_105 A41 (by decide) (show (6 : Int32).toNatClampNeg < 8 from by decide) g9 ?_
  intro h42 Kp43 A44
  have Z45 := Nat.le_trans Z40 Kp43.1
  have A46 : IA Z h42 a4 .byte [nar .byte (f_orig p5 (0 : Int32)), nar .byte (f_orig p5 (1 : Int32)), nar .byte (f_orig p5 (2 : Int32)), nar .byte (f_orig p5 (3 : Int32)), nar .byte (f_orig p5 (4 : Int32)), nar .byte (f_orig p5 (5 : Int32)), nar .byte (f_orig p5 (6 : Int32)), 0] := (by have q := A44; rw [show (6 : Int32).toNatClampNeg = 6 from by decide] at q; exact q)
  refine g_aload K 106 at_106 rfl rfl ?_
  refine g_bipush K 108 (7 : Int32) at_108 (by decide) ?_
  refine g_iload K 110 at_110 rfl ?_
  refine g_bipush K 112 (7 : Int32) at_112 (by decide) ?_
  refine g_callS K 114 [(.int p5), (.int (7 : Int32))] 2 at_114 (rm_orig l Z a0 hw p5 (7 : Int32) h42 n0 Z45  ) (tw hw 1 rfl) (tw hw 2 rfl) (tw hw 3 rfl) (tw hw 4 rfl) (by decide) pd0 rfl (st := [(.int (7 : Int32)), (.ref a4)]) rfl (Nat.le_of_eq rfl) rfl (by decide) (by decide) (by decide) (by decide) ?_
  rintro _ _ ⟨hv, hh⟩
  rw [hv, hh]
  clear hv hh
  refine go_cast (k' := (0 + 1)) (n' := (0 + 8)) (st' := [(.int (f_orig p5 (7 : Int32))), (.int (7 : Int32)), (.ref a4)]) rfl rfl rfl ?_
  refine g_bastore K 117 at_117 A46 (by decide) (show (7 : Int32).toNatClampNeg < 8 from by decide) g9 ?_
  intro h47 Kp48 A49
  have Z50 := Nat.le_trans Z45 Kp48.1
  have A51 : IA Z h47 a4 .byte [nar .byte (f_orig p5 (0 : Int32)), nar .byte (f_orig p5 (1 : Int32)), nar .byte (f_orig p5 (2 : Int32)), nar .byte (f_orig p5 (3 : Int32)), nar .byte (f_orig p5 (4 : Int32)), nar .byte (f_orig p5 (5 : Int32)), nar .byte (f_orig p5 (6 : Int32)), nar .byte (f_orig p5 (7 : Int32))] := (by have q := A49; rw [show (7 : Int32).toNatClampNeg = 7 from by decide] at q; exact q)
  refine g_new K 118 at_118 (tw hw 5 rfl) (tw hw 6 rfl) (tw hw 7 rfl) (by decide) (by decide) ?_
  intro h53 a52 eq57 Kp54 E55 D56
  have g58 : n0 ≤ a52 := eq57 ▸ Z50
  have ne59 : a4 ≠ a52 := own_ne_of_lt A51.lt eq57
  have Z60 := Nat.le_trans Z50 Kp54.1
  have F61 := A51.keep Kp54 nin0
  have F62 : Fld Z h53 a52 "com/example/batchwright/batchwright/wire/BoundedOutput" "array" "[B" .null := D56 (Or.inr (tw hw 15 rfl)) (ty := (.array .byte)) (by decide)
  have F63 : Fld Z h53 a52 "com/example/batchwright/batchwright/wire/BoundedOutput" "position" "I" (.int (0 : Int32)) := D56 (Or.inl (tw hw 17 rfl)) (ty := .int) (by decide)
  have F64 : Fld Z h53 a52 "com/example/batchwright/batchwright/wire/BoundedOutput" "limit" "I" (.int (0 : Int32)) := D56 (Or.inr (tw hw 19 rfl)) (ty := .int) (by decide)
  refine g_dup K 121 at_121 rfl ?_
  refine g_aload K 122 at_122 rfl rfl ?_
  refine g_iload K 124 at_124 rfl ?_
  refine g_iload K 126 at_126 rfl ?_
  refine g_callN K 128 [(.ref a4), (.int p4), (.int v3)] 1 at_128 (rm_init l Z a0 hw a52 a4 p4 v3 h53 n0 Z60  E55 g58 F62 F63 F64 ) rfl (tw hw 8 rfl) (tw hw 9 rfl) (tw hw 7 rfl) (tw hw 10 rfl) (by decide) pd1 rfl (st := [(.ref a52)]) rfl (Nat.le_of_eq rfl) rfl (by decide) (by decide) (by decide) (by decide) ?_
  rintro _ h65 ⟨hv, Kp66, E67, F68, F69, F70⟩
  rw [hv]
  clear hv
  have Z71 := Nat.le_trans Z60 Kp66.1
  have F72 := F61.keep Kp66 (ninS ne59 nin0)
  refine go_cast (k' := ((0 + 1) + 1)) (n' := ((0 + 8) + 3)) (st' := [(.ref a52)]) rfl rfl rfl ?_
  refine g_astore K 131 #[.val (.int p0), .val (.long q1), .second, .val (.int p2), .val (.int p3), .val (.int p4), .val (.int p5), .val (.int v1), .val (.int v2), .val (.int v3), .val (.ref a4), .val (.ref a52), .unset] at_131 rfl rfl ?_
  refine g_aload K 133 at_133 rfl rfl ?_
  refine g_iload K 135 at_135 rfl ?_
  refine g_lloadN K 137 at_137 rfl ?_
  refine g_iload K 138 at_138 rfl ?_
  refine g_callV K 140 [(.int v1), (.long q1), (.int v2)] 0 at_140 (rm_putLeAt l Z a0 hw a52 v1 q1 v2 h65 n0 Z71 a4 p4 v3 ([nar .byte (f_orig p5 (0 : Int32)), nar .byte (f_orig p5 (1 : Int32)), nar .byte (f_orig p5 (2 : Int32)), nar .byte (f_orig p5 (3 : Int32)), nar .byte (f_orig p5 (4 : Int32)), nar .byte (f_orig p5 (5 : Int32)), nar .byte (f_orig p5 (6 : Int32)), nar .byte (f_orig p5 (7 : Int32))]) E67 g58 F68 F69 F70 F72 g9 ne59.symm rfl (own_r9 (by assumption)) (own_r9 (by assumption)) (own_r9 (by assumption)).2) E67 (tw hw 20 rfl) (tw hw 21 rfl) (tw hw 23 rfl) (tw hw 23 rfl) (tw hw 22 rfl) (tw hw 7 rfl) (tw hw 24 rfl) (by decide) pd3 rfl (st := []) rfl (Nat.le_of_eq rfl) rfl (by decide) (by decide) (by decide) (by decide) ?_
  rintro _ h73 ⟨hv, Kp74, E75, F76, A77⟩
  rw [hv]
  clear hv
  have Z78 := Nat.le_trans Z71 Kp74.1
  refine go_cast (k' := ((0 + 1) + 1)) (n' := ((0 + 8) + 3)) (st' := []) rfl rfl rfl ?_
  refine g_aload K 143 at_143 rfl rfl ?_
  refine g_callV K 145 [] 0 at_145 (rm_pos l Z a0 hw a52 h73 n0 Z78 p4 F76) E75 (tw hw 25 rfl) (tw hw 26 rfl) (tw hw 28 rfl) (tw hw 28 rfl) (tw hw 27 rfl) (tw hw 7 rfl) (tw hw 29 rfl) (by decide) pd4 rfl (st := []) rfl (Nat.le_of_eq rfl) rfl (by decide) (by decide) (by decide) (by decide) ?_
  rintro _ _ ⟨hv, hh⟩
  rw [hv, hh]
  clear hv hh
  refine go_cast (k' := ((0 + 1) + 1)) (n' := ((0 + 8) + 3)) (st' := [(.int (f_pos p4))]) rfl rfl rfl ?_
  refine g_iload K 148 at_148 rfl ?_
  refine g_ii_ne K 150 157 at_150 (by decide) (by decide) ?_ ?_
  · intro c79
    exfalso
    exact c79 rfl
  · intro c79
    refine g_iconst K 153 (1 : Int32) at_153 (by decide) ?_
    refine g_goto K 154 158 at_154 (by decide) (by decide) ?_
    refine g_istore K 158 #[.val (.int p0), .val (.long q1), .second, .val (.int p2), .val (.int p3), .val (.int p4), .val (.int p5), .val (.int v1), .val (.int v2), .val (.int v3), .val (.ref a4), .val (.ref a52), .val (.int (1 : Int32))] at_158 rfl ?_
    refine g_iload K 160 at_160 rfl ?_
    refine g_if_eq K 162 187 at_162 (by decide) (by decide) ?_ ?_
    · intro c80
      exact absurd c80 (by decide)
    · intro c80
      refine g_aload K 165 at_165 rfl rfl ?_
      refine g_iconst K 167 (0 : Int32) at_167 (by decide) ?_
      refine g_iload K 168 at_168 rfl ?_
      refine g_lloadN K 170 at_170 rfl ?_
      refine g_iload K 171 at_171 rfl ?_
      refine g_iload K 173 at_173 rfl ?_
      refine g_iload K 175 at_175 rfl ?_
      refine g_callS K 177 [(.ref a4), (.int (0 : Int32)), (.int v1), (.long q1), (.int v2), (.int v3), (.int p5)] 0 at_177 (rm_same l Z a0 hw a4 (0 : Int32) v1 q1 v2 v3 p5 h73 n0 Z78 (putLe v1 q1 v3 (v2).toInt.toNat 0 [nar .byte (f_orig p5 (0 : Int32)), nar .byte (f_orig p5 (1 : Int32)), nar .byte (f_orig p5 (2 : Int32)), nar .byte (f_orig p5 (3 : Int32)), nar .byte (f_orig p5 (4 : Int32)), nar .byte (f_orig p5 (5 : Int32)), nar .byte (f_orig p5 (6 : Int32)), nar .byte (f_orig p5 (7 : Int32))]) A77 ⟨by decide, by rw [own_plen]; exact (show (0 : Int32).toNatClampNeg < 8 from by decide)⟩) (tw hw 30 rfl) (tw hw 31 rfl) (tw hw 3 rfl) (tw hw 32 rfl) (by decide) pd5 rfl (st := []) rfl (Nat.le_of_eq rfl) rfl (by decide) (by decide) (by decide) (by decide) ?_
      rintro _ _ ⟨hv, hh⟩
      rw [hv, hh]
      clear hv hh
      refine go_cast (k' := ((0 + 1) + 1)) (n' := ((0 + 8) + 3)) (st' := [(.int (f_same (putLe v1 q1 v3 (v2).toInt.toNat 0 [nar .byte (f_orig p5 (0 : Int32)), nar .byte (f_orig p5 (1 : Int32)), nar .byte (f_orig p5 (2 : Int32)), nar .byte (f_orig p5 (3 : Int32)), nar .byte (f_orig p5 (4 : Int32)), nar .byte (f_orig p5 (5 : Int32)), nar .byte (f_orig p5 (6 : Int32)), nar .byte (f_orig p5 (7 : Int32))]) (0 : Int32) v1 q1 v2 v3 p5))]) rfl rfl rfl ?_
      refine g_if_eq K 180 187 at_180 (by decide) (by decide) ?_ ?_
      · intro c81
        exfalso
        exact absurd ((own_same _ _ _ _ _ _ (0 : Int32) rfl (own_r9 hv1) (own_r9 hv2) (by decide) (by unfold rdI; rw [show (0 : Int32).toNatClampNeg = 0 from by decide]; exact own_on _ _)).symm.trans c81) (by decide)
      · intro c81
        refine g_iconst K 183 (1 : Int32) at_183 (by decide) ?_
        refine g_goto K 184 188 at_184 (by decide) (by decide) ?_
        refine g_istore K 188 #[.val (.int p0), .val (.long q1), .second, .val (.int p2), .val (.int p3), .val (.int p4), .val (.int p5), .val (.int v1), .val (.int v2), .val (.int v3), .val (.ref a4), .val (.ref a52), .val (.int (1 : Int32))] at_188 rfl ?_
        refine g_iload K 190 at_190 rfl ?_
        refine g_if_eq K 192 217 at_192 (by decide) (by decide) ?_ ?_
        · intro c82
          exact absurd c82 (by decide)
        · intro c82
          refine g_aload K 195 at_195 rfl rfl ?_
          refine g_iconst K 197 (1 : Int32) at_197 (by decide) ?_
          refine g_iload K 198 at_198 rfl ?_
          refine g_lloadN K 200 at_200 rfl ?_
          refine g_iload K 201 at_201 rfl ?_
          refine g_iload K 203 at_203 rfl ?_
          refine g_iload K 205 at_205 rfl ?_
          refine g_callS K 207 [(.ref a4), (.int (1 : Int32)), (.int v1), (.long q1), (.int v2), (.int v3), (.int p5)] 0 at_207 (rm_same l Z a0 hw a4 (1 : Int32) v1 q1 v2 v3 p5 h73 n0 Z78 (putLe v1 q1 v3 (v2).toInt.toNat 0 [nar .byte (f_orig p5 (0 : Int32)), nar .byte (f_orig p5 (1 : Int32)), nar .byte (f_orig p5 (2 : Int32)), nar .byte (f_orig p5 (3 : Int32)), nar .byte (f_orig p5 (4 : Int32)), nar .byte (f_orig p5 (5 : Int32)), nar .byte (f_orig p5 (6 : Int32)), nar .byte (f_orig p5 (7 : Int32))]) A77 ⟨by decide, by rw [own_plen]; exact (show (1 : Int32).toNatClampNeg < 8 from by decide)⟩) (tw hw 30 rfl) (tw hw 31 rfl) (tw hw 3 rfl) (tw hw 32 rfl) (by decide) pd5 rfl (st := []) rfl (Nat.le_of_eq rfl) rfl (by decide) (by decide) (by decide) (by decide) ?_
          rintro _ _ ⟨hv, hh⟩
          rw [hv, hh]
          clear hv hh
          refine go_cast (k' := ((0 + 1) + 1)) (n' := ((0 + 8) + 3)) (st' := [(.int (f_same (putLe v1 q1 v3 (v2).toInt.toNat 0 [nar .byte (f_orig p5 (0 : Int32)), nar .byte (f_orig p5 (1 : Int32)), nar .byte (f_orig p5 (2 : Int32)), nar .byte (f_orig p5 (3 : Int32)), nar .byte (f_orig p5 (4 : Int32)), nar .byte (f_orig p5 (5 : Int32)), nar .byte (f_orig p5 (6 : Int32)), nar .byte (f_orig p5 (7 : Int32))]) (1 : Int32) v1 q1 v2 v3 p5))]) rfl rfl rfl ?_
          refine g_if_eq K 210 217 at_210 (by decide) (by decide) ?_ ?_
          · intro c83
            exfalso
            exact absurd ((own_same _ _ _ _ _ _ (1 : Int32) rfl (own_r9 hv1) (own_r9 hv2) (by decide) (by unfold rdI; rw [show (1 : Int32).toNatClampNeg = 1 from by decide]; exact own_on _ _)).symm.trans c83) (by decide)
          · intro c83
            refine g_iconst K 213 (1 : Int32) at_213 (by decide) ?_
            refine g_goto K 214 218 at_214 (by decide) (by decide) ?_
            refine g_istore K 218 #[.val (.int p0), .val (.long q1), .second, .val (.int p2), .val (.int p3), .val (.int p4), .val (.int p5), .val (.int v1), .val (.int v2), .val (.int v3), .val (.ref a4), .val (.ref a52), .val (.int (1 : Int32))] at_218 rfl ?_
            refine g_iload K 220 at_220 rfl ?_
            refine g_if_eq K 222 247 at_222 (by decide) (by decide) ?_ ?_
            · intro c84
              exact absurd c84 (by decide)
            · intro c84
              refine g_aload K 225 at_225 rfl rfl ?_
              refine g_iconst K 227 (2 : Int32) at_227 (by decide) ?_
              refine g_iload K 228 at_228 rfl ?_
              refine g_lloadN K 230 at_230 rfl ?_
              refine g_iload K 231 at_231 rfl ?_
              refine g_iload K 233 at_233 rfl ?_
              refine g_iload K 235 at_235 rfl ?_
              refine g_callS K 237 [(.ref a4), (.int (2 : Int32)), (.int v1), (.long q1), (.int v2), (.int v3), (.int p5)] 0 at_237 (rm_same l Z a0 hw a4 (2 : Int32) v1 q1 v2 v3 p5 h73 n0 Z78 (putLe v1 q1 v3 (v2).toInt.toNat 0 [nar .byte (f_orig p5 (0 : Int32)), nar .byte (f_orig p5 (1 : Int32)), nar .byte (f_orig p5 (2 : Int32)), nar .byte (f_orig p5 (3 : Int32)), nar .byte (f_orig p5 (4 : Int32)), nar .byte (f_orig p5 (5 : Int32)), nar .byte (f_orig p5 (6 : Int32)), nar .byte (f_orig p5 (7 : Int32))]) A77 ⟨by decide, by rw [own_plen]; exact (show (2 : Int32).toNatClampNeg < 8 from by decide)⟩) (tw hw 30 rfl) (tw hw 31 rfl) (tw hw 3 rfl) (tw hw 32 rfl) (by decide) pd5 rfl (st := []) rfl (Nat.le_of_eq rfl) rfl (by decide) (by decide) (by decide) (by decide) ?_
              rintro _ _ ⟨hv, hh⟩
              rw [hv, hh]
              clear hv hh
              refine go_cast (k' := ((0 + 1) + 1)) (n' := ((0 + 8) + 3)) (st' := [(.int (f_same (putLe v1 q1 v3 (v2).toInt.toNat 0 [nar .byte (f_orig p5 (0 : Int32)), nar .byte (f_orig p5 (1 : Int32)), nar .byte (f_orig p5 (2 : Int32)), nar .byte (f_orig p5 (3 : Int32)), nar .byte (f_orig p5 (4 : Int32)), nar .byte (f_orig p5 (5 : Int32)), nar .byte (f_orig p5 (6 : Int32)), nar .byte (f_orig p5 (7 : Int32))]) (2 : Int32) v1 q1 v2 v3 p5))]) rfl rfl rfl ?_
              refine g_if_eq K 240 247 at_240 (by decide) (by decide) ?_ ?_
              · intro c85
                exfalso
                exact absurd ((own_same _ _ _ _ _ _ (2 : Int32) rfl (own_r9 hv1) (own_r9 hv2) (by decide) (by unfold rdI; rw [show (2 : Int32).toNatClampNeg = 2 from by decide]; exact own_on _ _)).symm.trans c85) (by decide)
              · intro c85
                refine g_iconst K 243 (1 : Int32) at_243 (by decide) ?_
                refine g_goto K 244 248 at_244 (by decide) (by decide) ?_
                refine g_istore K 248 #[.val (.int p0), .val (.long q1), .second, .val (.int p2), .val (.int p3), .val (.int p4), .val (.int p5), .val (.int v1), .val (.int v2), .val (.int v3), .val (.ref a4), .val (.ref a52), .val (.int (1 : Int32))] at_248 rfl ?_
                refine g_iload K 250 at_250 rfl ?_
                refine g_if_eq K 252 277 at_252 (by decide) (by decide) ?_ ?_
                · intro c86
                  exact absurd c86 (by decide)
                · intro c86
                  refine g_aload K 255 at_255 rfl rfl ?_
                  refine g_iconst K 257 (3 : Int32) at_257 (by decide) ?_
                  refine g_iload K 258 at_258 rfl ?_
                  refine g_lloadN K 260 at_260 rfl ?_
                  refine g_iload K 261 at_261 rfl ?_
                  refine g_iload K 263 at_263 rfl ?_
                  refine g_iload K 265 at_265 rfl ?_
                  refine g_callS K 267 [(.ref a4), (.int (3 : Int32)), (.int v1), (.long q1), (.int v2), (.int v3), (.int p5)] 0 at_267 (rm_same l Z a0 hw a4 (3 : Int32) v1 q1 v2 v3 p5 h73 n0 Z78 (putLe v1 q1 v3 (v2).toInt.toNat 0 [nar .byte (f_orig p5 (0 : Int32)), nar .byte (f_orig p5 (1 : Int32)), nar .byte (f_orig p5 (2 : Int32)), nar .byte (f_orig p5 (3 : Int32)), nar .byte (f_orig p5 (4 : Int32)), nar .byte (f_orig p5 (5 : Int32)), nar .byte (f_orig p5 (6 : Int32)), nar .byte (f_orig p5 (7 : Int32))]) A77 ⟨by decide, by rw [own_plen]; exact (show (3 : Int32).toNatClampNeg < 8 from by decide)⟩) (tw hw 30 rfl) (tw hw 31 rfl) (tw hw 3 rfl) (tw hw 32 rfl) (by decide) pd5 rfl (st := []) rfl (Nat.le_of_eq rfl) rfl (by decide) (by decide) (by decide) (by decide) ?_
                  rintro _ _ ⟨hv, hh⟩
                  rw [hv, hh]
                  clear hv hh
                  refine go_cast (k' := ((0 + 1) + 1)) (n' := ((0 + 8) + 3)) (st' := [(.int (f_same (putLe v1 q1 v3 (v2).toInt.toNat 0 [nar .byte (f_orig p5 (0 : Int32)), nar .byte (f_orig p5 (1 : Int32)), nar .byte (f_orig p5 (2 : Int32)), nar .byte (f_orig p5 (3 : Int32)), nar .byte (f_orig p5 (4 : Int32)), nar .byte (f_orig p5 (5 : Int32)), nar .byte (f_orig p5 (6 : Int32)), nar .byte (f_orig p5 (7 : Int32))]) (3 : Int32) v1 q1 v2 v3 p5))]) rfl rfl rfl ?_
                  refine g_if_eq K 270 277 at_270 (by decide) (by decide) ?_ ?_
                  · intro c87
                    exfalso
                    exact absurd ((own_same _ _ _ _ _ _ (3 : Int32) rfl (own_r9 hv1) (own_r9 hv2) (by decide) (by unfold rdI; rw [show (3 : Int32).toNatClampNeg = 3 from by decide]; exact own_on _ _)).symm.trans c87) (by decide)
                  · intro c87
                    refine g_iconst K 273 (1 : Int32) at_273 (by decide) ?_
                    refine g_goto K 274 278 at_274 (by decide) (by decide) ?_
                    refine g_istore K 278 #[.val (.int p0), .val (.long q1), .second, .val (.int p2), .val (.int p3), .val (.int p4), .val (.int p5), .val (.int v1), .val (.int v2), .val (.int v3), .val (.ref a4), .val (.ref a52), .val (.int (1 : Int32))] at_278 rfl ?_
                    refine g_iload K 280 at_280 rfl ?_
                    refine g_if_eq K 282 307 at_282 (by decide) (by decide) ?_ ?_
                    · intro c88
                      exact absurd c88 (by decide)
                    · intro c88
                      refine g_aload K 285 at_285 rfl rfl ?_
                      refine g_iconst K 287 (4 : Int32) at_287 (by decide) ?_
                      refine g_iload K 288 at_288 rfl ?_
                      refine g_lloadN K 290 at_290 rfl ?_
                      refine g_iload K 291 at_291 rfl ?_
                      refine g_iload K 293 at_293 rfl ?_
                      refine g_iload K 295 at_295 rfl ?_
                      refine g_callS K 297 [(.ref a4), (.int (4 : Int32)), (.int v1), (.long q1), (.int v2), (.int v3), (.int p5)] 0 at_297 (rm_same l Z a0 hw a4 (4 : Int32) v1 q1 v2 v3 p5 h73 n0 Z78 (putLe v1 q1 v3 (v2).toInt.toNat 0 [nar .byte (f_orig p5 (0 : Int32)), nar .byte (f_orig p5 (1 : Int32)), nar .byte (f_orig p5 (2 : Int32)), nar .byte (f_orig p5 (3 : Int32)), nar .byte (f_orig p5 (4 : Int32)), nar .byte (f_orig p5 (5 : Int32)), nar .byte (f_orig p5 (6 : Int32)), nar .byte (f_orig p5 (7 : Int32))]) A77 ⟨by decide, by rw [own_plen]; exact (show (4 : Int32).toNatClampNeg < 8 from by decide)⟩) (tw hw 30 rfl) (tw hw 31 rfl) (tw hw 3 rfl) (tw hw 32 rfl) (by decide) pd5 rfl (st := []) rfl (Nat.le_of_eq rfl) rfl (by decide) (by decide) (by decide) (by decide) ?_
                      rintro _ _ ⟨hv, hh⟩
                      rw [hv, hh]
                      clear hv hh
                      refine go_cast (k' := ((0 + 1) + 1)) (n' := ((0 + 8) + 3)) (st' := [(.int (f_same (putLe v1 q1 v3 (v2).toInt.toNat 0 [nar .byte (f_orig p5 (0 : Int32)), nar .byte (f_orig p5 (1 : Int32)), nar .byte (f_orig p5 (2 : Int32)), nar .byte (f_orig p5 (3 : Int32)), nar .byte (f_orig p5 (4 : Int32)), nar .byte (f_orig p5 (5 : Int32)), nar .byte (f_orig p5 (6 : Int32)), nar .byte (f_orig p5 (7 : Int32))]) (4 : Int32) v1 q1 v2 v3 p5))]) rfl rfl rfl ?_
                      refine g_if_eq K 300 307 at_300 (by decide) (by decide) ?_ ?_
                      · intro c89
                        exfalso
                        exact absurd ((own_same _ _ _ _ _ _ (4 : Int32) rfl (own_r9 hv1) (own_r9 hv2) (by decide) (by unfold rdI; rw [show (4 : Int32).toNatClampNeg = 4 from by decide]; exact own_on _ _)).symm.trans c89) (by decide)
                      · intro c89
                        refine g_iconst K 303 (1 : Int32) at_303 (by decide) ?_
                        refine g_goto K 304 308 at_304 (by decide) (by decide) ?_
                        refine g_istore K 308 #[.val (.int p0), .val (.long q1), .second, .val (.int p2), .val (.int p3), .val (.int p4), .val (.int p5), .val (.int v1), .val (.int v2), .val (.int v3), .val (.ref a4), .val (.ref a52), .val (.int (1 : Int32))] at_308 rfl ?_
                        refine g_iload K 310 at_310 rfl ?_
                        refine g_if_eq K 312 337 at_312 (by decide) (by decide) ?_ ?_
                        · intro c90
                          exact absurd c90 (by decide)
                        · intro c90
                          refine g_aload K 315 at_315 rfl rfl ?_
                          refine g_iconst K 317 (5 : Int32) at_317 (by decide) ?_
                          refine g_iload K 318 at_318 rfl ?_
                          refine g_lloadN K 320 at_320 rfl ?_
                          refine g_iload K 321 at_321 rfl ?_
                          refine g_iload K 323 at_323 rfl ?_
                          refine g_iload K 325 at_325 rfl ?_
                          refine g_callS K 327 [(.ref a4), (.int (5 : Int32)), (.int v1), (.long q1), (.int v2), (.int v3), (.int p5)] 0 at_327 (rm_same l Z a0 hw a4 (5 : Int32) v1 q1 v2 v3 p5 h73 n0 Z78 (putLe v1 q1 v3 (v2).toInt.toNat 0 [nar .byte (f_orig p5 (0 : Int32)), nar .byte (f_orig p5 (1 : Int32)), nar .byte (f_orig p5 (2 : Int32)), nar .byte (f_orig p5 (3 : Int32)), nar .byte (f_orig p5 (4 : Int32)), nar .byte (f_orig p5 (5 : Int32)), nar .byte (f_orig p5 (6 : Int32)), nar .byte (f_orig p5 (7 : Int32))]) A77 ⟨by decide, by rw [own_plen]; exact (show (5 : Int32).toNatClampNeg < 8 from by decide)⟩) (tw hw 30 rfl) (tw hw 31 rfl) (tw hw 3 rfl) (tw hw 32 rfl) (by decide) pd5 rfl (st := []) rfl (Nat.le_of_eq rfl) rfl (by decide) (by decide) (by decide) (by decide) ?_
                          rintro _ _ ⟨hv, hh⟩
                          rw [hv, hh]
                          clear hv hh
                          refine go_cast (k' := ((0 + 1) + 1)) (n' := ((0 + 8) + 3)) (st' := [(.int (f_same (putLe v1 q1 v3 (v2).toInt.toNat 0 [nar .byte (f_orig p5 (0 : Int32)), nar .byte (f_orig p5 (1 : Int32)), nar .byte (f_orig p5 (2 : Int32)), nar .byte (f_orig p5 (3 : Int32)), nar .byte (f_orig p5 (4 : Int32)), nar .byte (f_orig p5 (5 : Int32)), nar .byte (f_orig p5 (6 : Int32)), nar .byte (f_orig p5 (7 : Int32))]) (5 : Int32) v1 q1 v2 v3 p5))]) rfl rfl rfl ?_
                          refine g_if_eq K 330 337 at_330 (by decide) (by decide) ?_ ?_
                          · intro c91
                            exfalso
                            exact absurd ((own_same _ _ _ _ _ _ (5 : Int32) rfl (own_r9 hv1) (own_r9 hv2) (by decide) (by unfold rdI; rw [show (5 : Int32).toNatClampNeg = 5 from by decide]; exact own_on _ _)).symm.trans c91) (by decide)
                          · intro c91
                            refine g_iconst K 333 (1 : Int32) at_333 (by decide) ?_
                            refine g_goto K 334 338 at_334 (by decide) (by decide) ?_
                            refine g_istore K 338 #[.val (.int p0), .val (.long q1), .second, .val (.int p2), .val (.int p3), .val (.int p4), .val (.int p5), .val (.int v1), .val (.int v2), .val (.int v3), .val (.ref a4), .val (.ref a52), .val (.int (1 : Int32))] at_338 rfl ?_
                            refine g_iload K 340 at_340 rfl ?_
                            refine g_if_eq K 342 368 at_342 (by decide) (by decide) ?_ ?_
                            · intro c92
                              exact absurd c92 (by decide)
                            · intro c92
                              refine g_aload K 345 at_345 rfl rfl ?_
                              refine g_bipush K 347 (6 : Int32) at_347 (by decide) ?_
                              refine g_iload K 349 at_349 rfl ?_
                              refine g_lloadN K 351 at_351 rfl ?_
                              refine g_iload K 352 at_352 rfl ?_
                              refine g_iload K 354 at_354 rfl ?_
                              refine g_iload K 356 at_356 rfl ?_
                              refine g_callS K 358 [(.ref a4), (.int (6 : Int32)), (.int v1), (.long q1), (.int v2), (.int v3), (.int p5)] 0 at_358 (rm_same l Z a0 hw a4 (6 : Int32) v1 q1 v2 v3 p5 h73 n0 Z78 (putLe v1 q1 v3 (v2).toInt.toNat 0 [nar .byte (f_orig p5 (0 : Int32)), nar .byte (f_orig p5 (1 : Int32)), nar .byte (f_orig p5 (2 : Int32)), nar .byte (f_orig p5 (3 : Int32)), nar .byte (f_orig p5 (4 : Int32)), nar .byte (f_orig p5 (5 : Int32)), nar .byte (f_orig p5 (6 : Int32)), nar .byte (f_orig p5 (7 : Int32))]) A77 ⟨by decide, by rw [own_plen]; exact (show (6 : Int32).toNatClampNeg < 8 from by decide)⟩) (tw hw 30 rfl) (tw hw 31 rfl) (tw hw 3 rfl) (tw hw 32 rfl) (by decide) pd5 rfl (st := []) rfl (Nat.le_of_eq rfl) rfl (by decide) (by decide) (by decide) (by decide) ?_
                              rintro _ _ ⟨hv, hh⟩
                              rw [hv, hh]
                              clear hv hh
                              refine go_cast (k' := ((0 + 1) + 1)) (n' := ((0 + 8) + 3)) (st' := [(.int (f_same (putLe v1 q1 v3 (v2).toInt.toNat 0 [nar .byte (f_orig p5 (0 : Int32)), nar .byte (f_orig p5 (1 : Int32)), nar .byte (f_orig p5 (2 : Int32)), nar .byte (f_orig p5 (3 : Int32)), nar .byte (f_orig p5 (4 : Int32)), nar .byte (f_orig p5 (5 : Int32)), nar .byte (f_orig p5 (6 : Int32)), nar .byte (f_orig p5 (7 : Int32))]) (6 : Int32) v1 q1 v2 v3 p5))]) rfl rfl rfl ?_
                              refine g_if_eq K 361 368 at_361 (by decide) (by decide) ?_ ?_
                              · intro c93
                                exfalso
                                exact absurd ((own_same _ _ _ _ _ _ (6 : Int32) rfl (own_r9 hv1) (own_r9 hv2) (by decide) (by unfold rdI; rw [show (6 : Int32).toNatClampNeg = 6 from by decide]; exact own_on _ _)).symm.trans c93) (by decide)
                              · intro c93
                                refine g_iconst K 364 (1 : Int32) at_364 (by decide) ?_
                                refine g_goto K 365 369 at_365 (by decide) (by decide) ?_
                                refine g_istore K 369 #[.val (.int p0), .val (.long q1), .second, .val (.int p2), .val (.int p3), .val (.int p4), .val (.int p5), .val (.int v1), .val (.int v2), .val (.int v3), .val (.ref a4), .val (.ref a52), .val (.int (1 : Int32))] at_369 rfl ?_
                                refine g_iload K 371 at_371 rfl ?_
                                refine g_if_eq K 373 399 at_373 (by decide) (by decide) ?_ ?_
                                · intro c94
                                  exact absurd c94 (by decide)
                                · intro c94
                                  refine g_aload K 376 at_376 rfl rfl ?_
                                  refine g_bipush K 378 (7 : Int32) at_378 (by decide) ?_
                                  refine g_iload K 380 at_380 rfl ?_
                                  refine g_lloadN K 382 at_382 rfl ?_
                                  refine g_iload K 383 at_383 rfl ?_
                                  refine g_iload K 385 at_385 rfl ?_
                                  refine g_iload K 387 at_387 rfl ?_
                                  refine g_callS K 389 [(.ref a4), (.int (7 : Int32)), (.int v1), (.long q1), (.int v2), (.int v3), (.int p5)] 0 at_389 (rm_same l Z a0 hw a4 (7 : Int32) v1 q1 v2 v3 p5 h73 n0 Z78 (putLe v1 q1 v3 (v2).toInt.toNat 0 [nar .byte (f_orig p5 (0 : Int32)), nar .byte (f_orig p5 (1 : Int32)), nar .byte (f_orig p5 (2 : Int32)), nar .byte (f_orig p5 (3 : Int32)), nar .byte (f_orig p5 (4 : Int32)), nar .byte (f_orig p5 (5 : Int32)), nar .byte (f_orig p5 (6 : Int32)), nar .byte (f_orig p5 (7 : Int32))]) A77 ⟨by decide, by rw [own_plen]; exact (show (7 : Int32).toNatClampNeg < 8 from by decide)⟩) (tw hw 30 rfl) (tw hw 31 rfl) (tw hw 3 rfl) (tw hw 32 rfl) (by decide) pd5 rfl (st := []) rfl (Nat.le_of_eq rfl) rfl (by decide) (by decide) (by decide) (by decide) ?_
                                  rintro _ _ ⟨hv, hh⟩
                                  rw [hv, hh]
                                  clear hv hh
                                  refine go_cast (k' := ((0 + 1) + 1)) (n' := ((0 + 8) + 3)) (st' := [(.int (f_same (putLe v1 q1 v3 (v2).toInt.toNat 0 [nar .byte (f_orig p5 (0 : Int32)), nar .byte (f_orig p5 (1 : Int32)), nar .byte (f_orig p5 (2 : Int32)), nar .byte (f_orig p5 (3 : Int32)), nar .byte (f_orig p5 (4 : Int32)), nar .byte (f_orig p5 (5 : Int32)), nar .byte (f_orig p5 (6 : Int32)), nar .byte (f_orig p5 (7 : Int32))]) (7 : Int32) v1 q1 v2 v3 p5))]) rfl rfl rfl ?_
                                  refine g_if_eq K 392 399 at_392 (by decide) (by decide) ?_ ?_
                                  · intro c95
                                    exfalso
                                    exact absurd ((own_same _ _ _ _ _ _ (7 : Int32) rfl (own_r9 hv1) (own_r9 hv2) (by decide) (by unfold rdI; rw [show (7 : Int32).toNatClampNeg = 7 from by decide]; exact own_on _ _)).symm.trans c95) (by decide)
                                  · intro c95
                                    refine g_iconst K 395 (1 : Int32) at_395 (by decide) ?_
                                    refine g_goto K 396 400 at_396 (by decide) (by decide) ?_
                                    refine g_istore K 400 #[.val (.int p0), .val (.long q1), .second, .val (.int p2), .val (.int p3), .val (.int p4), .val (.int p5), .val (.int v1), .val (.int v2), .val (.int v3), .val (.ref a4), .val (.ref a52), .val (.int (1 : Int32))] at_400 rfl ?_
                                    refine g_iload K 402 at_402 rfl ?_
                                    refine g_retN K 404 .boolean at_404 rfl (by simp) (by decide) (by decide) ?_
                                    rw [hQ]
                                    rfl
set_option maxRecDepth 65536 in
theorem comes_1 {Post : Tables → Env → Array Value → State → Outcome → State → Prop} (hpost : ∀ tb e args s v u, (limb_1_1.after args s (.returned v) u = true ∧ limb_1_2.after args s (.returned v) u = true ∧ True) → FrameEnd s (.returned v) u (Jvm.fieldLocs frame_1_writes args s ++ Jvm.arrayLocs frame_1_arrays args s ++ Jvm.staticLocs frame_1_statics s) 16 128 → Post tb e args s (.returned v) u) :
    ArmFor flags0 classFile x code maxLocals ret World_1 tables_1 room_1 Calls_1 rest_1 Pre_1 Post := by
  intro l hfl _ _ p e ha hc hk s m args below hf hA hF happ hP
  obtain ⟨hcalls, hrest, hpre⟩ := hP
  obtain ⟨-, -, -, hnamed, -, -, -, hat⟩ := (Spec.applies_iff hf).mp happ
  obtain ⟨hg, hn⟩ := and_e (Cond.before_iff.mp (show (Jvm.Cond.and given_1 narrow_1).before args s = true from hpre))
  obtain ⟨hcnt, hg0⟩ := and_e hg
  obtain ⟨w0, w1, w2, w3, w4, w5, rfl⟩ : ∃ w0 w1 w2 w3 w4 w5 : Value, args = #[w0, w1, w2, w3, w4, w5] := by
    have hs : args.size = 6 := by simpa [Cond.value, given_1] using hcnt
    obtain ⟨L⟩ := args
    match L, hs with
    | [w0, w1, w2, w3, w4, w5], _ => exact ⟨w0, w1, w2, w3, w4, w5, rfl⟩
  have hw := fun d (hd : d ∈ tables_1) => atoms_spec (ws := Jvm.Cond.code x code maxLocals ret :: tables_1) hat d (List.mem_cons_of_mem _ hd)
  obtain ⟨hq0, hg1⟩ := and_e hg0
  obtain ⟨i0, e0⟩ := is_v hq0
  obtain rfl : w0 = (.int i0) := Option.some.inj e0
  obtain ⟨hq1, hg2⟩ := and_e hg1
  obtain ⟨i1, e1⟩ := isL_v hq1
  obtain rfl : w1 = (.long i1) := Option.some.inj e1
  obtain ⟨hq2, hg3⟩ := and_e hg2
  obtain ⟨i2, e2⟩ := is_v hq2
  obtain rfl : w2 = (.int i2) := Option.some.inj e2
  obtain ⟨hq3, hg4⟩ := and_e hg3
  obtain ⟨i3, e3⟩ := is_v hq3
  obtain rfl : w3 = (.int i3) := Option.some.inj e3
  obtain ⟨hq4, hg5⟩ := and_e hg4
  obtain ⟨i4, e4⟩ := is_v hq4
  obtain rfl : w4 = (.int i4) := Option.some.inj e4
  obtain ⟨i5, e5⟩ := is_v hg5
  obtain rfl : w5 = (.int i5) := Option.some.inj e5
  obtain ⟨n, o, h1, h2, h3, _, L, rfl, ⟨rfl, N⟩, hq⟩ := rm_law l s _ hw i0 i1 i2 i3 i4 i5 s.heap s.heap.size (Nat.le_refl _) tables_1 p e ha hc hk s m _ below hf ((Spec.applies_iff_loose hf).mp happ).1 ⟨rfl, State.Warmed39.refl s, rfl⟩ trivial
  refine ⟨n, _, h1, h2, h3, hpost _ _ _ _ _ _ ⟨Cond.after_iff.mpr rfl, Cond.after_iff.mpr (eq_i res_at (Term.int_eval (1)) rfl), trivial⟩ ⟨hq.1, hq.2.1, (hq.2.2.sift fun y hy => Or.inr (N y hy)).mono (by decide) (by decide)⟩⟩
theorem main_1_1 : Claimed_1_1 := comes_1 fun _ _ _ _ _ _ h hF => ⟨h.1, hF⟩
theorem main_1_2 : Claimed_1_2 := comes_1 fun _ _ _ _ _ _ h hF => ⟨h.2.1, hF⟩
end Jvm.Pilot.@@N@@
namespace Jvm.Pilot.@@N@@
open Jvm Jvm.ClassFile Sem Op Lib Jvm.Free Jvm.Stand Jvm.Pilot.@@N@@.Jvm.D
/-! MADE BY PROGRAM (witnessworld.py) out of the Statement's table words and the real class files: 9 classes; the members and pool entries that the words name. The judged class is class 1, her method 1. -/
namespace start1
open Jvm.ClassFile
def u (s : String) : CpInfo := .utf8 (stringToUtf16 s)
/-- a pool by its gaps: so many unusable entries, then the entry; so many at the end -/
def gap : Nat → List CpInfo → List CpInfo
  | 0, r => r
  | n + 1, r => .unusable :: gap n r
def poolList (es : List (Nat × CpInfo)) (last : Nat) : List CpInfo := es.foldr (fun e r => gap e.1 (e.2 :: r)) (gap last [])
def pool (es : List (Nat × CpInfo)) (last : Nat) : Array CpInfo := ⟨poolList es last⟩
def fileOf (pool : Array CpInfo) (this : Nat) (attrs : Array Attribute := #[]) (ms : Array MethodInfo := #[]) (fl : Nat := 33) (sup : Nat := 0) (ifs : Array Nat := #[]) (fds : Array FieldInfo := #[]) : ClassFile where
  minorVersion := 0
  majorVersion := 65
  constantPool := pool
  accessFlags := fl
  thisClass := this
  superClass := sup
  interfaces := ifs
  fields := fds
  methods := ms
  attributes := attrs
def plain (name : String) (sup : Option ClassId) : Class where
  name := name
  kind := .ordinary
  loader := none
  accessFlags := 33
  super := sup
  interfaces := #[]
  cf := none
  fields := #[]
  methods := #[]
  instanceTypes := #[]
  staticTypes := #[]
  resolved := #[]
  callSites := []
  init := .initialized
  statics := none
  mirror := none

def pool0 : Array CpInfo := pool [(5, u "<init>"), (0, u "()V"), (1, .class_ 10), (1, u "java/lang/Object")] 113

def k0c0 : Code := { maxStack := 0, maxLocals := 1, code := object_method_1_code, exceptionTable := #[], attributes := #[] }
def k0m0 : Method := { name := "<init>", desc := "()V", sig := { parameters := [], returnType := none }, accessFlags := 1, code := some k0c0 }
/-- java/lang/Object -/
def k0 : Class := { plain "java/lang/Object" none with
  accessFlags := 33
  interfaces := #[]
  cf := some (fileOf pool0 8 #[] #[{ accessFlags := 1, nameIndex := 5, descriptorIndex := 6, attributes := #[] }] 33 0 #[] #[])
  fields := #[]
  methods := #[k0m0]
  instanceTypes := #[]
  staticTypes := #[]
  resolved := Array.replicate 124 none
  statics := none }

def pool1 : Array CpInfo := pool [(2, .class_ 4), (1, u "java/lang/Object"), (0, u "<init>"), (0, u "()V"), (0, .methodref 8 9), (0, .class_ 10), (0, .nameAndType 11 12), (0, u "com/example/batchwright/batchwright/wire/BoundedOutputPutLeAtPinLaw"), (0, u "orig"), (0, u "(II)B"), (0, .class_ 14), (0, u "com/example/batchwright/batchwright/wire/BoundedOutput"), (0, .methodref 13 16), (0, .nameAndType 5 17), (0, u "([BII)V"), (0, .methodref 13 19), (0, .nameAndType 20 21), (0, u "putLeAt"), (0, u "(IJI)V"), (0, .methodref 13 23), (0, .nameAndType 24 25), (0, u "position"), (0, u "()I"), (0, .methodref 8 27), (0, .nameAndType 28 29), (0, u "same"), (0, u "([BIIJIII)Z"), (2, u "law"), (0, u "(IJIIII)Z")] 5

def k1m0 : Method := { name := "<init>", desc := "()V", sig := { parameters := [], returnType := none }, accessFlags := 1, code := none }
def k1c1 : Code := { maxStack := 8, maxLocals := 13, code := code, exceptionTable := #[], attributes := #[] }
def k1m1 : Method := { name := "law", desc := "(IJIIII)Z", sig := { parameters := [.int, .long, .int, .int, .int, .int], returnType := some .boolean }, accessFlags := 9, code := some k1c1 }
def k1c2 : Code := { maxStack := 3, maxLocals := 2, code := method_3_code, exceptionTable := #[], attributes := #[] }
def k1m2 : Method := { name := "orig", desc := "(II)B", sig := { parameters := [.int, .int], returnType := some .byte }, accessFlags := 10, code := some k1c2 }
def k1c3 : Code := { maxStack := 5, maxLocals := 9, code := method_4_code, exceptionTable := #[], attributes := #[] }
def k1m3 : Method := { name := "same", desc := "([BIIJIII)Z", sig := { parameters := [(.array .byte), .int, .int, .long, .int, .int, .int], returnType := some .boolean }, accessFlags := 10, code := some k1c3 }
/-- com/example/batchwright/batchwright/wire/BoundedOutputPutLeAtPinLaw -/
def k1 : Class := { plain "com/example/batchwright/batchwright/wire/BoundedOutputPutLeAtPinLaw" (some 0) with
  accessFlags := 49
  interfaces := #[]
  cf := some (fileOf pool1 8 #[] #[{ accessFlags := 1, nameIndex := 5, descriptorIndex := 6, attributes := #[] }, { accessFlags := 9, nameIndex := 32, descriptorIndex := 33, attributes := #[] }, { accessFlags := 10, nameIndex := 11, descriptorIndex := 12, attributes := #[] }, { accessFlags := 10, nameIndex := 28, descriptorIndex := 29, attributes := #[] }] 49 2 #[] #[])
  fields := #[]
  methods := #[k1m0, k1m1, k1m2, k1m3]
  instanceTypes := #[]
  staticTypes := #[]
  resolved := Array.replicate 39 none
  statics := none }

def pool2 : Array CpInfo := pool [(1, .methodref 2 3), (0, .class_ 4), (0, .nameAndType 5 6), (0, u "java/lang/Object"), (0, u "<init>"), (0, u "()V"), (0, .fieldref 8 9), (0, .class_ 10), (0, .nameAndType 11 12), (0, u "com/example/batchwright/batchwright/wire/BoundedOutput"), (0, u "array"), (0, u "[B"), (0, .fieldref 8 14), (0, .nameAndType 15 16), (0, u "position"), (0, u "I"), (0, .fieldref 8 18), (0, .nameAndType 19 16), (0, u "limit"), (14, u "([BII)V"), (2, u "()I"), (6, u "putLeAt"), (0, u "(IJI)V")] 3

def k2c0 : Code := { maxStack := 2, maxLocals := 4, code := prog_50_method_1_code, exceptionTable := #[], attributes := #[] }
def k2m0 : Method := { name := "<init>", desc := "([BII)V", sig := { parameters := [(.array .byte), .int, .int], returnType := none }, accessFlags := 0, code := some k2c0 }
def k2c1 : Code := { maxStack := 1, maxLocals := 1, code := prog_50_method_2_code, exceptionTable := #[], attributes := #[] }
def k2m1 : Method := { name := "position", desc := "()I", sig := { parameters := [], returnType := some .int }, accessFlags := 0, code := some k2c1 }
def k2c2 : Code := { maxStack := 6, maxLocals := 6, code := prog_50_method_9_code, exceptionTable := #[], attributes := #[] }
def k2m2 : Method := { name := "putLeAt", desc := "(IJI)V", sig := { parameters := [.int, .long, .int], returnType := none }, accessFlags := 0, code := some k2c2 }
/-- com/example/batchwright/batchwright/wire/BoundedOutput -/
def k2 : Class := { plain "com/example/batchwright/batchwright/wire/BoundedOutput" (some 0) with
  accessFlags := 48
  interfaces := #[]
  cf := some (fileOf pool2 8 #[] #[{ accessFlags := 0, nameIndex := 5, descriptorIndex := 34, attributes := #[] }, { accessFlags := 0, nameIndex := 15, descriptorIndex := 37, attributes := #[] }, { accessFlags := 0, nameIndex := 44, descriptorIndex := 45, attributes := #[] }] 48 2 #[] #[{ accessFlags := 18, nameIndex := 11, descriptorIndex := 12, attributes := #[] }, { accessFlags := 18, nameIndex := 19, descriptorIndex := 16, attributes := #[] }, { accessFlags := 2, nameIndex := 15, descriptorIndex := 16, attributes := #[] }])
  fields := #[{ name := "array", type := (.array .byte), accessFlags := 18, slot := 0, constantValue := 0 }, { name := "limit", type := .int, accessFlags := 18, slot := 1, constantValue := 0 }, { name := "position", type := .int, accessFlags := 2, slot := 2, constantValue := 0 }]
  methods := #[k2m0, k2m1, k2m2]
  instanceTypes := #[(.array .byte), .int, .int]
  staticTypes := #[]
  resolved := Array.replicate 49 none
  statics := none }

def pool3 : Array CpInfo := pool [(1, u "java/lang/Cloneable"), (0, .class_ 1), (0, u "java/lang/Object"), (0, .class_ 3)] 3

/-- java/lang/Cloneable -/
def k3 : Class := { plain "java/lang/Cloneable" (some 0) with
  accessFlags := 1537
  interfaces := #[]
  cf := some (fileOf pool3 2 #[] #[] 1537 4 #[] #[])
  fields := #[]
  methods := #[]
  instanceTypes := #[]
  staticTypes := #[]
  resolved := Array.replicate 8 none
  statics := none }

def pool4 : Array CpInfo := pool [(1, u "java/io/Serializable"), (0, .class_ 1), (0, u "java/lang/Object"), (0, .class_ 3)] 3

/-- java/io/Serializable -/
def k4 : Class := { plain "java/io/Serializable" (some 0) with
  accessFlags := 1537
  interfaces := #[]
  cf := some (fileOf pool4 2 #[] #[] 1537 4 #[] #[])
  fields := #[]
  methods := #[]
  instanceTypes := #[]
  staticTypes := #[]
  resolved := Array.replicate 8 none
  statics := none }

/-- the primitive byte -/
def k5 : Class := { plain "byte" none with kind := .primitive 'B', accessFlags := 0x411 }
/-- [B -/
def k6 : Class := { plain "[B" (some 0) with kind := .array 5 .byte, interfaces := #[3, 4], accessFlags := 1041 }

/-- the primitive int -/
def k7 : Class := { plain "int" none with kind := .primitive 'I', accessFlags := 0x411 }
/-- [I -/
def k8 : Class := { plain "[I" (some 0) with kind := .array 7 .int, interfaces := #[3, 4], accessFlags := 1041 }

def heap : Heap := #[]
def classes : Array Class := #[k0, k1, k2, k3, k4, k5, k6, k7, k8]
def interned : List (Array UInt16 × Addr) := []
def slotsUsed : Nat := 0
def theMethod : MethodId := ⟨1, 1⟩
def args0 : Array Value := #[.int 300, .long 7, .int 9, .int 3, .int 5, .int 6]
def aboutOver (below : List Frame) : State where
  vm := { classes := classes, interned := interned.toArray }
  heap := heap
  slotsUsed := slotsUsed
  threads := #[{ frames := .invoking theMethod args0 :: below }]
def below0 : List Frame := [.native { method := ⟨0, 0⟩, args := #[] }]
def about1 : State := aboutOver below0
def p0 : Program := .bare "" "" ""
def e0 : Env := launch0.env 0 0 0
theorem w_frames : about1.frames = Frame.invoking theMethod args0 :: below0 := rfl
set_option maxRecDepth 65536 in
theorem w_args : argsFit about1.vm theMethod args0 = true := by decide +kernel
set_option maxRecDepth 65536 in
theorem w_heap : heapFits about1 = true := by decide +kernel
set_option maxRecDepth 65536 in
theorem w_runnable : about1.curStatus? = some .runnable := by decide +kernel
set_option maxRecDepth 65536 in
theorem w_alone : about1.alone = true := by decide +kernel
set_option maxRecDepth 65536 in
theorem w_named : about1.methodNamed? x = some theMethod := by decide +kernel
set_option maxRecDepth 65536 in
theorem w_hears : about1.hears theMethod below0 = true := by decide +kernel
set_option maxRecDepth 65536 in
theorem w_ripe : about1.ripe theMethod args0 below0 = true := by decide +kernel
theorem w_running : about1.status = .running := rfl
set_option maxRecDepth 65536 in
theorem w_room : about1.hasRoom e0.platform room_1 = true :=
  launch0.hasRoom_least _ room_1 (by decide +kernel) (by decide +kernel) (by decide +kernel) (by decide +kernel) (by decide +kernel) (by decide +kernel)
theorem allAtoms_all (ts : List Jvm.Cond) (a : Array Jvm.Value) (st : Jvm.State) : (allAtoms ts).before a st = ts.all (fun c => c.before a st) := by
  induction ts with
  | nil => rfl
  | cons c t ih =>
    show (Jvm.Cond.and c (allAtoms t)).before a st = _
    rw [Jvm.Cond.before_and, ih, List.all_cons]
def words1 : List Jvm.Cond := Jvm.Cond.code x code maxLocals ret :: tables_1
/-- a 'code' word, met by the world's own term for the bytes: nothing is compared byte by byte -/
theorem code_word {y : MethodName} {bytes : ByteArray} {mx : Nat} {rt : Option FieldType} {a : Array Value} {s : State} {m : MethodId} {meth : Method} {c : Code} (h1 : s.methodNamed? y = some m) (h2 : s.vm.method? m = some meth) (h3 : meth.code = some c) (h4 : c.code = bytes)
    (h5 : (c.maxLocals == mx && c.exceptionTable.isEmpty && decide (c.maxStack ≤ mostOperands) && decide (meth.sig.returnType = rt) && !meth.locks && decide (parseMethodDescriptor y.desc = some meth.sig)) = true) : (Jvm.Cond.code y bytes mx rt).before a s = true := by
  simp only [Bool.and_eq_true, beq_iff_eq, Bool.not_eq_true', decide_eq_true_eq] at h5
  obtain ⟨⟨⟨⟨⟨g1, g2⟩, g3⟩, g4⟩, g5⟩, g6⟩ := h5
  simp [Cond.before, Cond.holds, Cond.value, h1, h2, h3, h4, g1, g2, g3, g4, g5, g6]
def isCode : Jvm.Cond → Bool
  | .code _ _ _ _ => true
  | _ => false
theorem all_split {L : List Jvm.Cond} {P : Jvm.Cond → Bool} (h1 : L.all (fun c => isCode c || P c) = true) (h2 : ∀ c ∈ L.filter isCode, P c = true) : L.all P = true := by
  refine List.all_eq_true.mpr fun c hc => ?_
  have h := List.all_eq_true.mp h1 c hc
  rcases Bool.eq_false_or_eq_true (isCode c) with hi | hi
  · exact h2 c (List.mem_filter.mpr ⟨hc, hi⟩)
  · simpa [hi] using h
set_option maxRecDepth 65536 in
theorem w_c0 : (Jvm.Cond.code x code maxLocals ret).before args0 about1 = true := code_word (m := ⟨1, 1⟩) (meth := k1m1) (c := k1c1) (by decide +kernel) rfl rfl rfl (by decide +kernel)
set_option maxRecDepth 65536 in
theorem w_c1 : (Jvm.Cond.code ({ cls := "com/example/batchwright/batchwright/wire/BoundedOutputPutLeAtPinLaw", name := "orig", desc := "(II)B" } : Jvm.MethodName) method_3_code (2 : Nat) (Option.some Jvm.ClassFile.FieldType.byte)).before args0 about1 = true := code_word (m := ⟨1, 2⟩) (meth := k1m2) (c := k1c2) (by decide +kernel) rfl rfl rfl (by decide +kernel)
set_option maxRecDepth 65536 in
theorem w_c2 : (Jvm.Cond.code ({ cls := "com/example/batchwright/batchwright/wire/BoundedOutput", name := "<init>", desc := "([BII)V" } : Jvm.MethodName) prog_50_method_1_code (4 : Nat) (Option.none : Option Jvm.ClassFile.FieldType)).before args0 about1 = true := code_word (m := ⟨2, 0⟩) (meth := k2m0) (c := k2c0) (by decide +kernel) rfl rfl rfl (by decide +kernel)
set_option maxRecDepth 65536 in
theorem w_c3 : (Jvm.Cond.code ({ cls := "java/lang/Object", name := "<init>", desc := "()V" } : Jvm.MethodName) object_method_1_code (1 : Nat) (Option.none : Option Jvm.ClassFile.FieldType)).before args0 about1 = true := code_word (m := ⟨0, 0⟩) (meth := k0m0) (c := k0c0) (by decide +kernel) rfl rfl rfl (by decide +kernel)
set_option maxRecDepth 65536 in
theorem w_c4 : (Jvm.Cond.code ({ cls := "com/example/batchwright/batchwright/wire/BoundedOutput", name := "putLeAt", desc := "(IJI)V" } : Jvm.MethodName) prog_50_method_9_code (6 : Nat) (Option.none : Option Jvm.ClassFile.FieldType)).before args0 about1 = true := code_word (m := ⟨2, 2⟩) (meth := k2m2) (c := k2c2) (by decide +kernel) rfl rfl rfl (by decide +kernel)
set_option maxRecDepth 65536 in
theorem w_c5 : (Jvm.Cond.code ({ cls := "com/example/batchwright/batchwright/wire/BoundedOutput", name := "position", desc := "()I" } : Jvm.MethodName) prog_50_method_2_code (1 : Nat) (Option.some Jvm.ClassFile.FieldType.int)).before args0 about1 = true := code_word (m := ⟨2, 1⟩) (meth := k2m1) (c := k2c1) (by decide +kernel) rfl rfl rfl (by decide +kernel)
set_option maxRecDepth 65536 in
theorem w_c6 : (Jvm.Cond.code ({ cls := "com/example/batchwright/batchwright/wire/BoundedOutputPutLeAtPinLaw", name := "same", desc := "([BIIJIII)Z" } : Jvm.MethodName) method_4_code (9 : Nat) (Option.some Jvm.ClassFile.FieldType.boolean)).before args0 about1 = true := code_word (m := ⟨1, 3⟩) (meth := k1m3) (c := k1c3) (by decide +kernel) rfl rfl rfl (by decide +kernel)
def codes1 : List Jvm.Cond := [Jvm.Cond.code x code maxLocals ret, Jvm.Cond.code ({ cls := "com/example/batchwright/batchwright/wire/BoundedOutputPutLeAtPinLaw", name := "orig", desc := "(II)B" } : Jvm.MethodName) method_3_code (2 : Nat) (Option.some Jvm.ClassFile.FieldType.byte), Jvm.Cond.code ({ cls := "com/example/batchwright/batchwright/wire/BoundedOutput", name := "<init>", desc := "([BII)V" } : Jvm.MethodName) prog_50_method_1_code (4 : Nat) (Option.none : Option Jvm.ClassFile.FieldType), Jvm.Cond.code ({ cls := "java/lang/Object", name := "<init>", desc := "()V" } : Jvm.MethodName) object_method_1_code (1 : Nat) (Option.none : Option Jvm.ClassFile.FieldType), Jvm.Cond.code ({ cls := "com/example/batchwright/batchwright/wire/BoundedOutput", name := "putLeAt", desc := "(IJI)V" } : Jvm.MethodName) prog_50_method_9_code (6 : Nat) (Option.none : Option Jvm.ClassFile.FieldType), Jvm.Cond.code ({ cls := "com/example/batchwright/batchwright/wire/BoundedOutput", name := "position", desc := "()I" } : Jvm.MethodName) prog_50_method_2_code (1 : Nat) (Option.some Jvm.ClassFile.FieldType.int), Jvm.Cond.code ({ cls := "com/example/batchwright/batchwright/wire/BoundedOutputPutLeAtPinLaw", name := "same", desc := "([BIIJIII)Z" } : Jvm.MethodName) method_4_code (9 : Nat) (Option.some Jvm.ClassFile.FieldType.boolean)]
set_option maxRecDepth 65536 in
theorem codes_eq : words1.filter isCode = codes1 := rfl
theorem w_codes : ∀ c ∈ words1.filter isCode, c.before args0 about1 = true := by
  rw [codes_eq]
  intro c hc
  simp only [codes1, List.mem_cons, List.not_mem_nil, or_false] at hc
  rcases hc with rfl | rfl | rfl | rfl | rfl | rfl | rfl
  · exact w_c0
  · exact w_c1
  · exact w_c2
  · exact w_c3
  · exact w_c4
  · exact w_c5
  · exact w_c6
set_option maxRecDepth 65536 in
theorem w_t1 : (words1.take 24).all (fun c => isCode c || c.before args0 about1) = true := by decide +kernel
set_option maxRecDepth 65536 in
theorem w_t2 : (words1.drop 24).all (fun c => isCode c || c.before args0 about1) = true := by decide +kernel
theorem w_tables : (allAtoms (Jvm.Cond.code x code maxLocals ret :: tables_1)).before args0 about1 = true := by
  rw [allAtoms_all]
  show words1.all (fun c => c.before args0 about1) = true
  refine all_split ?_ w_codes
  rw [← List.take_append_drop 24 words1, List.all_append, w_t1, w_t2]
  rfl
set_option maxRecDepth 65536 in
theorem w_case : (Jvm.Cond.and given_1 narrow_1).before args0 about1 = true := by decide +kernel
theorem w_applies : (headSpec (Jvm.Cond.code x code maxLocals ret :: tables_1) room_1).applies x e0.platform about1 = true :=
  (Spec.applies_iff w_frames).mpr ⟨w_running, w_runnable, w_alone, w_named, w_hears, w_ripe, w_room, w_tables⟩
theorem atStart : AtStart classFile x code maxLocals ret World_1 tables_1 room_1 Calls_1 rest_1 Pre_1 launch0 p0 e0 about1 theMethod args0 below0 :=
  ⟨lists_1, trivial, launch0.admits_env _ _ _, launch0.least_env, fairChoices_fair.cas, fairChoices_fair.clock, w_frames, w_args, w_heap, w_applies, trivial, trivial, w_case⟩
end start1
theorem witness_1 : WitnessClaimed_1 := ⟨start1.p0, start1.e0, start1.about1, start1.theMethod, start1.args0, start1.below0, start1.atStart⟩
end Jvm.Pilot.@@N@@
