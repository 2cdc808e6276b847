import JvmDerived
import JvmDerived.Pilot.@@N@@Statement
import JvmDerived.Pilot.@@N@@Code
set_option linter.unusedVariables false
set_option linter.unusedSimpArgs false
namespace Jvm.Pilot.@@N@@
open Jvm Jvm.ClassFile Sem Op Lib Jvm.Free Jvm.Stand Jvm.LawKit Jvm.RoadKit Bundle Jvm.Pilot.@@N@@.Jvm.D
/-- from any state that stands here with this heap the walk comes to a return with Q -/
def Go (p : Program) (l : Launch) (e : Env) (R : Room) (s : State) (m : MethodId) (args : Array Value) (below : List Frame) (meth : Method) (c : Code) (n0 : Nat) (Q : Option Value → Heap → Prop) (h : Heap) (k n : Nat) (f : JFrame) : Prop :=
  ∀ T L, Stand p l e R s m args below meth c T L k n → T.heap = h → Fr n0 L →
    ∃ s₂ o, Steps p.tables e below (T.setTop f) s₂ ∧ s₂.status = .running ∧ Ended s₂ below o ∧
      ∃ v L', o = .returned v ∧ (Q v s₂.heap ∧ Fr n0 L') ∧ FrameEnd s o s₂ L' R.cells R.slots
/-- what is known of the body that is walked -/
def Kx (Z : State) (own nm : String) (bytes : ByteArray) (ml : Nat) (rt : Option FieldType) (p : Program) (s : State) (m : MethodId) (meth : Method) (c : Code) : Prop :=
  p.tables.exec = Jvm.exec ∧ Z.Warmed39 s.vm ∧ s.vm.findClass own = some m.cls ∧ c.code = bytes ∧ c.maxLocals = ml ∧ meth.sig.returnType = rt ∧ meth.locks = false ∧ meth.name = nm
/-- a method's contract, at given arguments and heap -/
def Meets (l : Launch) (y : MethodName) (bytes : ByteArray) (ml : Nat) (rt : Option FieldType) (rm : Room) (Z : State) (as : Array Value) (h0 : Heap) (n0 : Nat) (Q : Option Value → Heap → Prop) : Prop :=
  ∀ ws : List Jvm.Cond, MetFree l y (head1 (Jvm.Cond.code y bytes ml rt :: ws) rm) (fun a U => a = as ∧ Z.Warmed39 U.vm ∧ U.heap = h0) (fun _ _ _ _ _ => True)
    (fun _ U o U' => ∃ v L, o = .returned v ∧ (Q v U'.heap ∧ Fr n0 L) ∧ FrameEnd U o U' L rm.cells rm.slots)
/-- an array of ints, bytes, booleans ..: its values as a list -/
def IA (Z : State) (h : Heap) (a : Addr) (ty : FieldType) (xs : List Int32) : Prop := ∃ cl : Cell, Arr Z h a cl ty ∧ cl.slots = (xs.map Value.int).toArray
/-- an array of longs -/
def LA (Z : State) (h : Heap) (a : Addr) (xs : List Int64) : Prop := ∃ cl : Cell, Arr Z h a cl .long ∧ cl.slots = (xs.map Value.long).toArray
section ArrFacts
variable {Z : State} {h h' : Heap} {a : Addr} {ty : FieldType} {xs : List Int32} {ys : List Int64} {ws : List Addr}
theorem IA.keep (F : IA Z h a ty xs) (K : Keep h h' ws) (q : a ∉ ws) : IA Z h' a ty xs := by obtain ⟨c, A, r⟩ := F; exact ⟨c, ⟨K.2.1 a c A.1 q, A.2⟩, r⟩
theorem LA.keep (F : LA Z h a ys) (K : Keep h h' ws) (q : a ∉ ws) : LA Z h' a ys := by obtain ⟨c, A, r⟩ := F; exact ⟨c, ⟨K.2.1 a c A.1 q, A.2⟩, r⟩
theorem IA.lt (F : IA Z h a ty xs) : a < h.size := by obtain ⟨c, A, -⟩ := F; exact A.lt
theorem LA.lt (F : LA Z h a ys) : a < h.size := by obtain ⟨c, A, -⟩ := F; exact A.lt
theorem IA.set {j : Nat} {x : Int32} (F : IA Z h a ty xs) (W : Wr h h' a j (.int x)) : IA Z h' a ty (xs.set j x) := by
  obtain ⟨c, A, r⟩ := F
  refine ⟨_, A.same W, ?_⟩
  simp [Cell.setSlot, r, List.map_set]
theorem LA.set {j : Nat} {x : Int64} (F : LA Z h a ys) (W : Wr h h' a j (.long x)) : LA Z h' a (ys.set j x) := by
  obtain ⟨c, A, r⟩ := F
  refine ⟨_, A.same W, ?_⟩
  simp [Cell.setSlot, r, List.map_set]
theorem keep_ext (E : Ext h h') : Keep h h' [] := (Keep.refl h []).ext E
theorem own_clamp {j : Int32} {n : Nat} (h0 : ¬ j < 0) (hn : j.toNatClampNeg < n) {cl : Cell} (hs : cl.slots.size = n) : ¬ (j < 0 ∨ cl.slots.size ≤ j.toNatClampNeg) := by
  rw [hs]; rintro (q | q)
  · exact h0 q
  · omega
theorem own_ne_of_lt {a b : Nat} {h : Heap} (q : a < h.size) (r : b = h.size) : a ≠ b := by omega
end ArrFacts
section GoSteps
variable {p : Program} {l : Launch} {e : Env} {R : Room} {s : State} {m : MethodId} {args : Array Value} {below : List Frame} {meth : Method} {c : Code} {n0 : Nat} {Q : Option Value → Heap → Prop} {h : Heap} {k n : Nat} {Z : State} {own nm : String} {bytes : ByteArray} {ml : Nat} {rt : Option FieldType} {Ls : Array Slot} {st : List Value} {a0 : Array Value}
theorem go_step {f f' : JFrame} (st : ∀ T L, Stand p l e R s m args below meth c T L k n → ∀ t, Steps p.tables e below (T.setTop f') t → Steps p.tables e below (T.setTop f) t) (hr : Go p l e R s m args below meth c n0 Q h k n f') : Go p l e R s m args below meth c n0 Q h k n f := by
  intro T L X eT N
  obtain ⟨s₂, o, S, r⟩ := hr T L X eT N
  exact ⟨s₂, o, st T L X _ S, r⟩
theorem go_mono {f : JFrame} {k' n' : Nat} (hk : k ≤ k') (hn : n ≤ n') (hr : Go p l e R s m args below meth c n0 Q h k' n' f) : Go p l e R s m args below meth c n0 Q h k n f := by
  intro T L X eT N
  exact hr T L (X.more hk hn) eT N
theorem go_post {f : JFrame} {Q' : Option Value → Heap → Prop} (hq : ∀ v h, Q' v h → Q v h) (hr : Go p l e R s m args below meth c n0 Q' h k n f) : Go p l e R s m args below meth c n0 Q h k n f := by
  intro T L X eT N
  obtain ⟨s₂, o, S, r1, r2, v, L', q1, q2, q3⟩ := hr T L X eT N
  exact ⟨s₂, o, S, r1, r2, v, L', q1, ⟨hq _ _ q2.1, q2.2⟩, q3⟩
theorem go_cast {pc : Nat} {k' n' : Nat} {st' : List Value} (q1 : k = k') (q2 : n = n') (q3 : st = st') (hr : Go p l e R s m args below meth c n0 Q h k' n' (mkF m pc Ls st')) : Go p l e R s m args below meth c n0 Q h k n (mkF m pc Ls st) := by subst q1 q2 q3; exact hr
theorem g_iload (K : Kx Z own nm bytes ml rt p s m meth c) (pc : Nat) {i : Nat} {v : Int32} (hd : decode bytes pc = .ok (.iload i, 2)) (hl : Ls[i]? = some (.val (.int v))) (hr : Go p l e R s m args below meth c n0 Q h k n (mkF m (pc + 2) Ls (.int v :: st))) : Go p l e R s m args below meth c n0 Q h k n (mkF m pc Ls st) :=
  go_step (fun T L X t S => XS.iload X.here K.1 rfl (hb K.2.2.2.1 hd) hl S) hr
theorem g_iloadN (K : Kx Z own nm bytes ml rt p s m meth c) (pc : Nat) {i : Fin 4} {v : Int32} (hd : decode bytes pc = .ok (.iload_n i, 1)) (hl : Ls[i.val]? = some (.val (.int v))) (hr : Go p l e R s m args below meth c n0 Q h k n (mkF m (pc + 1) Ls (.int v :: st))) : Go p l e R s m args below meth c n0 Q h k n (mkF m pc Ls st) :=
  go_step (fun T L X t S => XS.iloadN X.here K.1 rfl (hb K.2.2.2.1 hd) hl S) hr
theorem g_lload (K : Kx Z own nm bytes ml rt p s m meth c) (pc : Nat) {i : Nat} {v : Int64} (hd : decode bytes pc = .ok (.lload i, 2)) (hl : Ls[i]? = some (.val (.long v))) (hr : Go p l e R s m args below meth c n0 Q h k n (mkF m (pc + 2) Ls (.long v :: st))) : Go p l e R s m args below meth c n0 Q h k n (mkF m pc Ls st) :=
  go_step (fun T L X t S => XT.lload X.here K.1 rfl (hb K.2.2.2.1 hd) hl S) hr
theorem g_lloadN (K : Kx Z own nm bytes ml rt p s m meth c) (pc : Nat) {i : Fin 4} {v : Int64} (hd : decode bytes pc = .ok (.lload_n i, 1)) (hl : Ls[i.val]? = some (.val (.long v))) (hr : Go p l e R s m args below meth c n0 Q h k n (mkF m (pc + 1) Ls (.long v :: st))) : Go p l e R s m args below meth c n0 Q h k n (mkF m pc Ls st) :=
  go_step (fun T L X t S => XT.lloadN X.here K.1 rfl (hb K.2.2.2.1 hd) hl S) hr
theorem g_aload (K : Kx Z own nm bytes ml rt p s m meth c) (pc : Nat) {i : Nat} {v : Value} (hd : decode bytes pc = .ok (.aload i, 2)) (hl : Ls[i]? = some (.val v)) (hv : v.isRef = true) (hr : Go p l e R s m args below meth c n0 Q h k n (mkF m (pc + 2) Ls (v :: st))) : Go p l e R s m args below meth c n0 Q h k n (mkF m pc Ls st) :=
  go_step (fun T L X t S => XS.aload X.here K.1 rfl (hb K.2.2.2.1 hd) hl hv S) hr
theorem g_aloadN (K : Kx Z own nm bytes ml rt p s m meth c) (pc : Nat) {i : Fin 4} {v : Value} (hd : decode bytes pc = .ok (.aload_n i, 1)) (hl : Ls[i.val]? = some (.val v)) (hv : v.isRef = true) (hr : Go p l e R s m args below meth c n0 Q h k n (mkF m (pc + 1) Ls (v :: st))) : Go p l e R s m args below meth c n0 Q h k n (mkF m pc Ls st) :=
  go_step (fun T L X t S => XS.aloadN X.here K.1 rfl (hb K.2.2.2.1 hd) hl hv S) hr
theorem g_istore (K : Kx Z own nm bytes ml rt p s m meth c) (pc : Nat) {i : Nat} {v : Int32} (l' : Array Slot) (hd : decode bytes pc = .ok (.istore i, 2)) (hl : storeLocals Ls i (.int v) = some l') (hr : Go p l e R s m args below meth c n0 Q h k n (mkF m (pc + 2) l' st)) : Go p l e R s m args below meth c n0 Q h k n (mkF m pc Ls (.int v :: st)) :=
  go_step (fun T L X t S => XS.istore X.here K.1 rfl (hb K.2.2.2.1 hd) rfl hl S) hr
theorem g_istoreN (K : Kx Z own nm bytes ml rt p s m meth c) (pc : Nat) {i : Fin 4} {v : Int32} (l' : Array Slot) (hd : decode bytes pc = .ok (.istore_n i, 1)) (hl : storeLocals Ls i.val (.int v) = some l') (hr : Go p l e R s m args below meth c n0 Q h k n (mkF m (pc + 1) l' st)) : Go p l e R s m args below meth c n0 Q h k n (mkF m pc Ls (.int v :: st)) :=
  go_step (fun T L X t S => XS.istoreN X.here K.1 rfl (hb K.2.2.2.1 hd) rfl hl S) hr
theorem g_lstore (K : Kx Z own nm bytes ml rt p s m meth c) (pc : Nat) {i : Nat} {v : Int64} (l' : Array Slot) (hd : decode bytes pc = .ok (.lstore i, 2)) (hl : storeLocals Ls i (.long v) = some l') (hr : Go p l e R s m args below meth c n0 Q h k n (mkF m (pc + 2) l' st)) : Go p l e R s m args below meth c n0 Q h k n (mkF m pc Ls (.long v :: st)) :=
  go_step (fun T L X t S => XT.lstore X.here K.1 rfl (hb K.2.2.2.1 hd) rfl hl S) hr
theorem g_lstoreN (K : Kx Z own nm bytes ml rt p s m meth c) (pc : Nat) {i : Fin 4} {v : Int64} (l' : Array Slot) (hd : decode bytes pc = .ok (.lstore_n i, 1)) (hl : storeLocals Ls i.val (.long v) = some l') (hr : Go p l e R s m args below meth c n0 Q h k n (mkF m (pc + 1) l' st)) : Go p l e R s m args below meth c n0 Q h k n (mkF m pc Ls (.long v :: st)) :=
  go_step (fun T L X t S => XT.lstoreN X.here K.1 rfl (hb K.2.2.2.1 hd) rfl hl S) hr
theorem g_astore (K : Kx Z own nm bytes ml rt p s m meth c) (pc : Nat) {i : Nat} {v : Value} (l' : Array Slot) (hd : decode bytes pc = .ok (.astore i, 2)) (hv : v.isRef = true) (hl : storeLocals Ls i v = some l') (hr : Go p l e R s m args below meth c n0 Q h k n (mkF m (pc + 2) l' st)) : Go p l e R s m args below meth c n0 Q h k n (mkF m pc Ls (v :: st)) :=
  go_step (fun T L X t S => XS.astore X.here K.1 rfl (hb K.2.2.2.1 hd) rfl hv hl S) hr
theorem g_astoreN (K : Kx Z own nm bytes ml rt p s m meth c) (pc : Nat) {i : Fin 4} {v : Value} (l' : Array Slot) (hd : decode bytes pc = .ok (.astore_n i, 1)) (hv : v.isRef = true) (hl : storeLocals Ls i.val v = some l') (hr : Go p l e R s m args below meth c n0 Q h k n (mkF m (pc + 1) l' st)) : Go p l e R s m args below meth c n0 Q h k n (mkF m pc Ls (v :: st)) :=
  go_step (fun T L X t S => XS.astoreN X.here K.1 rfl (hb K.2.2.2.1 hd) rfl hv hl S) hr
theorem g_iconst (K : Kx Z own nm bytes ml rt p s m meth c) (pc : Nat) {i : Int} (v : Int32) (hd : decode bytes pc = .ok (.iconst i, 1)) (hv : Int32.ofInt i = v) (hr : Go p l e R s m args below meth c n0 Q h k n (mkF m (pc + 1) Ls (.int v :: st))) : Go p l e R s m args below meth c n0 Q h k n (mkF m pc Ls st) :=
  go_step (fun T L X t S => XT.iconstV X.here K.1 rfl v (hb K.2.2.2.1 hd) hv S) hr
theorem g_bipush (K : Kx Z own nm bytes ml rt p s m meth c) (pc : Nat) {i : Int} (v : Int32) (hd : decode bytes pc = .ok (.bipush i, 2)) (hv : (Int8.ofInt i).toInt32 = v) (hr : Go p l e R s m args below meth c n0 Q h k n (mkF m (pc + 2) Ls (.int v :: st))) : Go p l e R s m args below meth c n0 Q h k n (mkF m pc Ls st) :=
  go_step (fun T L X t S => XT.bipushV X.here K.1 rfl v (hb K.2.2.2.1 hd) hv S) hr
theorem g_sipush (K : Kx Z own nm bytes ml rt p s m meth c) (pc : Nat) {i : Int} (v : Int32) (hd : decode bytes pc = .ok (.sipush i, 3)) (hv : (Int16.ofInt i).toInt32 = v) (hr : Go p l e R s m args below meth c n0 Q h k n (mkF m (pc + 3) Ls (.int v :: st))) : Go p l e R s m args below meth c n0 Q h k n (mkF m pc Ls st) :=
  go_step (fun T L X t S => XT.sipushV X.here K.1 rfl v (hb K.2.2.2.1 hd) hv S) hr
theorem g_lconst (K : Kx Z own nm bytes ml rt p s m meth c) (pc : Nat) {i : Fin 2} (v : Int64) (hd : decode bytes pc = .ok (.lconst i, 1)) (hv : Int64.ofNat i = v) (hr : Go p l e R s m args below meth c n0 Q h k n (mkF m (pc + 1) Ls (.long v :: st))) : Go p l e R s m args below meth c n0 Q h k n (mkF m pc Ls st) :=
  go_step (fun T L X t S => XT.lconstV X.here K.1 rfl v (hb K.2.2.2.1 hd) hv S) hr
theorem g_aconst_null (K : Kx Z own nm bytes ml rt p s m meth c) (pc : Nat)  (hd : decode bytes pc = .ok (.aconst_null, 1))  (hr : Go p l e R s m args below meth c n0 Q h k n (mkF m (pc + 1) Ls (.null :: st))) : Go p l e R s m args below meth c n0 Q h k n (mkF m pc Ls st) :=
  go_step (fun T L X t S => XS.aconstNull X.here K.1 rfl (hb K.2.2.2.1 hd)  S) hr
theorem g_iinc (K : Kx Z own nm bytes ml rt p s m meth c) (pc : Nat) {i : Nat} {cst : Int} {x : Int32} (v : Int32) (l' : Array Slot) (hd : decode bytes pc = .ok (.iinc i cst, 3)) (hv : Int32.ofInt cst = v) (hl : Ls[i]? = some (.val (.int x))) (hl' : storeLocals Ls i (.int (x + v)) = some l') (hr : Go p l e R s m args below meth c n0 Q h k n (mkF m (pc + 3) l' st)) : Go p l e R s m args below meth c n0 Q h k n (mkF m pc Ls st) :=
  go_step (fun T L X t S => XT.iincV X.here K.1 rfl v (hb K.2.2.2.1 hd) hv hl hl' S) hr
theorem g_iadd (K : Kx Z own nm bytes ml rt p s m meth c) (pc : Nat) {x y : Int32} (hd : decode bytes pc = .ok (.iadd, 1))  (hr : Go p l e R s m args below meth c n0 Q h k n (mkF m (pc + 1) Ls (.int (x + y) :: st))) : Go p l e R s m args below meth c n0 Q h k n (mkF m pc Ls (.int y :: .int x :: st)) :=
  go_step (fun T L X t S => XS.iadd X.here K.1 rfl (hb K.2.2.2.1 hd) rfl S) hr
theorem g_isub (K : Kx Z own nm bytes ml rt p s m meth c) (pc : Nat) {x y : Int32} (hd : decode bytes pc = .ok (.isub, 1))  (hr : Go p l e R s m args below meth c n0 Q h k n (mkF m (pc + 1) Ls (.int (x - y) :: st))) : Go p l e R s m args below meth c n0 Q h k n (mkF m pc Ls (.int y :: .int x :: st)) :=
  go_step (fun T L X t S => XS.isub X.here K.1 rfl (hb K.2.2.2.1 hd) rfl S) hr
theorem g_imul (K : Kx Z own nm bytes ml rt p s m meth c) (pc : Nat) {x y : Int32} (hd : decode bytes pc = .ok (.imul, 1))  (hr : Go p l e R s m args below meth c n0 Q h k n (mkF m (pc + 1) Ls (.int (x * y) :: st))) : Go p l e R s m args below meth c n0 Q h k n (mkF m pc Ls (.int y :: .int x :: st)) :=
  go_step (fun T L X t S => XS.imul X.here K.1 rfl (hb K.2.2.2.1 hd) rfl S) hr
theorem g_iand (K : Kx Z own nm bytes ml rt p s m meth c) (pc : Nat) {x y : Int32} (hd : decode bytes pc = .ok (.iand, 1))  (hr : Go p l e R s m args below meth c n0 Q h k n (mkF m (pc + 1) Ls (.int (x &&& y) :: st))) : Go p l e R s m args below meth c n0 Q h k n (mkF m pc Ls (.int y :: .int x :: st)) :=
  go_step (fun T L X t S => XS.iand X.here K.1 rfl (hb K.2.2.2.1 hd) rfl S) hr
theorem g_ior (K : Kx Z own nm bytes ml rt p s m meth c) (pc : Nat) {x y : Int32} (hd : decode bytes pc = .ok (.ior, 1))  (hr : Go p l e R s m args below meth c n0 Q h k n (mkF m (pc + 1) Ls (.int (x ||| y) :: st))) : Go p l e R s m args below meth c n0 Q h k n (mkF m pc Ls (.int y :: .int x :: st)) :=
  go_step (fun T L X t S => XT.ior X.here K.1 rfl (hb K.2.2.2.1 hd) rfl S) hr
theorem g_ixor (K : Kx Z own nm bytes ml rt p s m meth c) (pc : Nat) {x y : Int32} (hd : decode bytes pc = .ok (.ixor, 1))  (hr : Go p l e R s m args below meth c n0 Q h k n (mkF m (pc + 1) Ls (.int (x ^^^ y) :: st))) : Go p l e R s m args below meth c n0 Q h k n (mkF m pc Ls (.int y :: .int x :: st)) :=
  go_step (fun T L X t S => XT.ixor X.here K.1 rfl (hb K.2.2.2.1 hd) rfl S) hr
theorem g_ishl (K : Kx Z own nm bytes ml rt p s m meth c) (pc : Nat) {x y : Int32} (hd : decode bytes pc = .ok (.ishl, 1))  (hr : Go p l e R s m args below meth c n0 Q h k n (mkF m (pc + 1) Ls (.int (x <<< (y &&& 31)) :: st))) : Go p l e R s m args below meth c n0 Q h k n (mkF m pc Ls (.int y :: .int x :: st)) :=
  go_step (fun T L X t S => XT.ishl X.here K.1 rfl (hb K.2.2.2.1 hd) rfl S) hr
theorem g_ishr (K : Kx Z own nm bytes ml rt p s m meth c) (pc : Nat) {x y : Int32} (hd : decode bytes pc = .ok (.ishr, 1))  (hr : Go p l e R s m args below meth c n0 Q h k n (mkF m (pc + 1) Ls (.int (x >>> (y &&& 31)) :: st))) : Go p l e R s m args below meth c n0 Q h k n (mkF m pc Ls (.int y :: .int x :: st)) :=
  go_step (fun T L X t S => XT.ishr X.here K.1 rfl (hb K.2.2.2.1 hd) rfl S) hr
theorem g_iushr (K : Kx Z own nm bytes ml rt p s m meth c) (pc : Nat) {x y : Int32} (hd : decode bytes pc = .ok (.iushr, 1))  (hr : Go p l e R s m args below meth c n0 Q h k n (mkF m (pc + 1) Ls (.int (XT.ushr x y) :: st))) : Go p l e R s m args below meth c n0 Q h k n (mkF m pc Ls (.int y :: .int x :: st)) :=
  go_step (fun T L X t S => XT.iushr X.here K.1 rfl (hb K.2.2.2.1 hd) rfl S) hr
theorem g_idiv (K : Kx Z own nm bytes ml rt p s m meth c) (pc : Nat) {x y : Int32} (hd : decode bytes pc = .ok (.idiv, 1)) (hy : y ≠ 0) (hr : Go p l e R s m args below meth c n0 Q h k n (mkF m (pc + 1) Ls (.int (x / y) :: st))) : Go p l e R s m args below meth c n0 Q h k n (mkF m pc Ls (.int y :: .int x :: st)) :=
  go_step (fun T L X t S => XS.idiv X.here K.1 rfl (hb K.2.2.2.1 hd) rfl hy S) hr
theorem g_irem (K : Kx Z own nm bytes ml rt p s m meth c) (pc : Nat) {x y : Int32} (hd : decode bytes pc = .ok (.irem, 1)) (hy : y ≠ 0) (hr : Go p l e R s m args below meth c n0 Q h k n (mkF m (pc + 1) Ls (.int (x % y) :: st))) : Go p l e R s m args below meth c n0 Q h k n (mkF m pc Ls (.int y :: .int x :: st)) :=
  go_step (fun T L X t S => iremM X K.1 rfl (hb K.2.2.2.1 hd) rfl hy S) hr
theorem g_ineg (K : Kx Z own nm bytes ml rt p s m meth c) (pc : Nat) {x : Int32} (hd : decode bytes pc = .ok (.ineg, 1))  (hr : Go p l e R s m args below meth c n0 Q h k n (mkF m (pc + 1) Ls (.int (-x) :: st))) : Go p l e R s m args below meth c n0 Q h k n (mkF m pc Ls (.int x :: st)) :=
  go_step (fun T L X t S => XS.ineg X.here K.1 rfl (hb K.2.2.2.1 hd) rfl S) hr
theorem g_ladd (K : Kx Z own nm bytes ml rt p s m meth c) (pc : Nat) {x y : Int64} (hd : decode bytes pc = .ok (.ladd, 1))  (hr : Go p l e R s m args below meth c n0 Q h k n (mkF m (pc + 1) Ls (.long (x + y) :: st))) : Go p l e R s m args below meth c n0 Q h k n (mkF m pc Ls (.long y :: .long x :: st)) :=
  go_step (fun T L X t S => XT.ladd X.here K.1 rfl (hb K.2.2.2.1 hd) rfl S) hr
theorem g_lsub (K : Kx Z own nm bytes ml rt p s m meth c) (pc : Nat) {x y : Int64} (hd : decode bytes pc = .ok (.lsub, 1))  (hr : Go p l e R s m args below meth c n0 Q h k n (mkF m (pc + 1) Ls (.long (x - y) :: st))) : Go p l e R s m args below meth c n0 Q h k n (mkF m pc Ls (.long y :: .long x :: st)) :=
  go_step (fun T L X t S => XT.lsub X.here K.1 rfl (hb K.2.2.2.1 hd) rfl S) hr
theorem g_lmul (K : Kx Z own nm bytes ml rt p s m meth c) (pc : Nat) {x y : Int64} (hd : decode bytes pc = .ok (.lmul, 1))  (hr : Go p l e R s m args below meth c n0 Q h k n (mkF m (pc + 1) Ls (.long (x * y) :: st))) : Go p l e R s m args below meth c n0 Q h k n (mkF m pc Ls (.long y :: .long x :: st)) :=
  go_step (fun T L X t S => XT.lmul X.here K.1 rfl (hb K.2.2.2.1 hd) rfl S) hr
theorem g_land (K : Kx Z own nm bytes ml rt p s m meth c) (pc : Nat) {x y : Int64} (hd : decode bytes pc = .ok (.land, 1))  (hr : Go p l e R s m args below meth c n0 Q h k n (mkF m (pc + 1) Ls (.long (x &&& y) :: st))) : Go p l e R s m args below meth c n0 Q h k n (mkF m pc Ls (.long y :: .long x :: st)) :=
  go_step (fun T L X t S => XT.land X.here K.1 rfl (hb K.2.2.2.1 hd) rfl S) hr
theorem g_lor (K : Kx Z own nm bytes ml rt p s m meth c) (pc : Nat) {x y : Int64} (hd : decode bytes pc = .ok (.lor, 1))  (hr : Go p l e R s m args below meth c n0 Q h k n (mkF m (pc + 1) Ls (.long (x ||| y) :: st))) : Go p l e R s m args below meth c n0 Q h k n (mkF m pc Ls (.long y :: .long x :: st)) :=
  go_step (fun T L X t S => XT.lor X.here K.1 rfl (hb K.2.2.2.1 hd) rfl S) hr
theorem g_lxor (K : Kx Z own nm bytes ml rt p s m meth c) (pc : Nat) {x y : Int64} (hd : decode bytes pc = .ok (.lxor, 1))  (hr : Go p l e R s m args below meth c n0 Q h k n (mkF m (pc + 1) Ls (.long (x ^^^ y) :: st))) : Go p l e R s m args below meth c n0 Q h k n (mkF m pc Ls (.long y :: .long x :: st)) :=
  go_step (fun T L X t S => XT.lxor X.here K.1 rfl (hb K.2.2.2.1 hd) rfl S) hr
theorem g_ldiv (K : Kx Z own nm bytes ml rt p s m meth c) (pc : Nat) {x y : Int64} (hd : decode bytes pc = .ok (.ldiv, 1)) (hy : y ≠ 0) (hr : Go p l e R s m args below meth c n0 Q h k n (mkF m (pc + 1) Ls (.long (x / y) :: st))) : Go p l e R s m args below meth c n0 Q h k n (mkF m pc Ls (.long y :: .long x :: st)) :=
  go_step (fun T L X t S => XT.ldiv X.here K.1 rfl (hb K.2.2.2.1 hd) rfl hy S) hr
theorem g_lshl (K : Kx Z own nm bytes ml rt p s m meth c) (pc : Nat) {x : Int64} {y : Int32} (hd : decode bytes pc = .ok (.lshl, 1))  (hr : Go p l e R s m args below meth c n0 Q h k n (mkF m (pc + 1) Ls (.long (x <<< (y.toInt64 &&& 63)) :: st))) : Go p l e R s m args below meth c n0 Q h k n (mkF m pc Ls (.int y :: .long x :: st)) :=
  go_step (fun T L X t S => XT.lshl X.here K.1 rfl (hb K.2.2.2.1 hd) rfl S) hr
theorem g_lshr (K : Kx Z own nm bytes ml rt p s m meth c) (pc : Nat) {x : Int64} {y : Int32} (hd : decode bytes pc = .ok (.lshr, 1))  (hr : Go p l e R s m args below meth c n0 Q h k n (mkF m (pc + 1) Ls (.long (x >>> (y.toInt64 &&& 63)) :: st))) : Go p l e R s m args below meth c n0 Q h k n (mkF m pc Ls (.int y :: .long x :: st)) :=
  go_step (fun T L X t S => XT.lshr X.here K.1 rfl (hb K.2.2.2.1 hd) rfl S) hr
theorem g_lushr (K : Kx Z own nm bytes ml rt p s m meth c) (pc : Nat) {x : Int64} {y : Int32} (hd : decode bytes pc = .ok (.lushr, 1))  (hr : Go p l e R s m args below meth c n0 Q h k n (mkF m (pc + 1) Ls (.long (XT.ushrL x y) :: st))) : Go p l e R s m args below meth c n0 Q h k n (mkF m pc Ls (.int y :: .long x :: st)) :=
  go_step (fun T L X t S => XT.lushr X.here K.1 rfl (hb K.2.2.2.1 hd) rfl S) hr
theorem g_lneg (K : Kx Z own nm bytes ml rt p s m meth c) (pc : Nat) {x : Int64} (hd : decode bytes pc = .ok (.lneg, 1))  (hr : Go p l e R s m args below meth c n0 Q h k n (mkF m (pc + 1) Ls (.long (-x) :: st))) : Go p l e R s m args below meth c n0 Q h k n (mkF m pc Ls (.long x :: st)) :=
  go_step (fun T L X t S => XT.lneg X.here K.1 rfl (hb K.2.2.2.1 hd) rfl S) hr
theorem g_i2l (K : Kx Z own nm bytes ml rt p s m meth c) (pc : Nat) {x : Int32} (hd : decode bytes pc = .ok (.i2l, 1))  (hr : Go p l e R s m args below meth c n0 Q h k n (mkF m (pc + 1) Ls (.long x.toInt64 :: st))) : Go p l e R s m args below meth c n0 Q h k n (mkF m pc Ls (.int x :: st)) :=
  go_step (fun T L X t S => XT.i2l X.here K.1 rfl (hb K.2.2.2.1 hd) rfl S) hr
theorem g_l2i (K : Kx Z own nm bytes ml rt p s m meth c) (pc : Nat) {x : Int64} (hd : decode bytes pc = .ok (.l2i, 1))  (hr : Go p l e R s m args below meth c n0 Q h k n (mkF m (pc + 1) Ls (.int x.toInt32 :: st))) : Go p l e R s m args below meth c n0 Q h k n (mkF m pc Ls (.long x :: st)) :=
  go_step (fun T L X t S => XT.l2i X.here K.1 rfl (hb K.2.2.2.1 hd) rfl S) hr
theorem g_i2b (K : Kx Z own nm bytes ml rt p s m meth c) (pc : Nat) {x : Int32} (hd : decode bytes pc = .ok (.i2b, 1))  (hr : Go p l e R s m args below meth c n0 Q h k n (mkF m (pc + 1) Ls (.int x.toInt8.toInt32 :: st))) : Go p l e R s m args below meth c n0 Q h k n (mkF m pc Ls (.int x :: st)) :=
  go_step (fun T L X t S => XT.i2b X.here K.1 rfl (hb K.2.2.2.1 hd) rfl S) hr
theorem g_i2s (K : Kx Z own nm bytes ml rt p s m meth c) (pc : Nat) {x : Int32} (hd : decode bytes pc = .ok (.i2s, 1))  (hr : Go p l e R s m args below meth c n0 Q h k n (mkF m (pc + 1) Ls (.int x.toInt16.toInt32 :: st))) : Go p l e R s m args below meth c n0 Q h k n (mkF m pc Ls (.int x :: st)) :=
  go_step (fun T L X t S => XT.i2s X.here K.1 rfl (hb K.2.2.2.1 hd) rfl S) hr
theorem g_lcmp (K : Kx Z own nm bytes ml rt p s m meth c) (pc : Nat) {x y : Int64} (hd : decode bytes pc = .ok (.lcmp, 1))  (hr : Go p l e R s m args below meth c n0 Q h k n (mkF m (pc + 1) Ls (.int (XT.cmpL x y) :: st))) : Go p l e R s m args below meth c n0 Q h k n (mkF m pc Ls (.long y :: .long x :: st)) :=
  go_step (fun T L X t S => XT.lcmp X.here K.1 rfl (hb K.2.2.2.1 hd) rfl S) hr
theorem g_dup (K : Kx Z own nm bytes ml rt p s m meth c) (pc : Nat) {v : Value} (hd : decode bytes pc = .ok (.dup, 1)) (hc : v.category = 1) (hr : Go p l e R s m args below meth c n0 Q h k n (mkF m (pc + 1) Ls (v :: v :: st))) : Go p l e R s m args below meth c n0 Q h k n (mkF m pc Ls (v :: st)) :=
  go_step (fun T L X t S => XS.dup X.here K.1 rfl (hb K.2.2.2.1 hd) rfl hc S) hr
theorem g_pop (K : Kx Z own nm bytes ml rt p s m meth c) (pc : Nat) {v : Value} (hd : decode bytes pc = .ok (.pop, 1)) (hc : v.category = 1) (hr : Go p l e R s m args below meth c n0 Q h k n (mkF m (pc + 1) Ls st)) : Go p l e R s m args below meth c n0 Q h k n (mkF m pc Ls (v :: st)) :=
  go_step (fun T L X t S => XT.pop X.here K.1 rfl (hb K.2.2.2.1 hd) rfl hc S) hr
theorem g_goto (K : Kx Z own nm bytes ml rt p s m meth c) (pc pc' : Nat) {o : Int} (hd : decode bytes pc = .ok (.goto o, 3)) (ho : 0 ≤ (pc : Int) + o) (hp : ((pc : Int) + o).toNat = pc') (hr : Go p l e R s m args below meth c n0 Q h k n (mkF m pc' Ls st)) : Go p l e R s m args below meth c n0 Q h k n (mkF m pc Ls st) :=
  go_step (fun T L X t S => XS.goto X.here K.1 rfl rfl (hb K.2.2.2.1 hd) ho hp S) hr
theorem g_if_eq (K : Kx Z own nm bytes ml rt p s m meth c) (pc pc' : Nat) {o : Int} {x : Int32} (hd : decode bytes pc = .ok (.ifCond .eq o, 3)) (ho : 0 ≤ (pc : Int) + o) (hp : ((pc : Int) + o).toNat = pc') (hT : x = 0 → Go p l e R s m args below meth c n0 Q h k n (mkF m pc' Ls st)) (hF : ¬ x = 0 → Go p l e R s m args below meth c n0 Q h k n (mkF m (pc + 3) Ls st)) : Go p l e R s m args below meth c n0 Q h k n (mkF m pc Ls (.int x :: st)) := by
  by_cases q : x = 0
  · exact go_step (fun T L X t S => XS.ifYes X.here K.1 rfl rfl (hb K.2.2.2.1 hd) rfl (XT.i0_eq_t q) ho hp S) (hT q)
  · exact go_step (fun T L X t S => XS.ifNo X.here K.1 rfl (hb K.2.2.2.1 hd) rfl (XT.i0_eq_f q) S) (hF q)
theorem g_ii_eq (K : Kx Z own nm bytes ml rt p s m meth c) (pc pc' : Nat) {o : Int} {x y : Int32} (hd : decode bytes pc = .ok (.if_icmp .eq o, 3)) (ho : 0 ≤ (pc : Int) + o) (hp : ((pc : Int) + o).toNat = pc') (hT : x = y → Go p l e R s m args below meth c n0 Q h k n (mkF m pc' Ls st)) (hF : ¬ x = y → Go p l e R s m args below meth c n0 Q h k n (mkF m (pc + 3) Ls st)) : Go p l e R s m args below meth c n0 Q h k n (mkF m pc Ls (.int y :: .int x :: st)) := by
  by_cases q : x = y
  · exact go_step (fun T L X t S => XS.icmpYes X.here K.1 rfl rfl (hb K.2.2.2.1 hd) rfl (XT.ii_eq_t q) ho hp S) (hT q)
  · exact go_step (fun T L X t S => XS.icmpNo X.here K.1 rfl (hb K.2.2.2.1 hd) rfl (XT.ii_eq_f q) S) (hF q)
theorem g_ll_eq (K : Kx Z own nm bytes ml rt p s m meth c) (pc pc' : Nat) {o : Int} {x y : Int64} (hd : decode bytes pc = .ok (.ifCond .eq o, 3)) (ho : 0 ≤ (pc : Int) + o) (hp : ((pc : Int) + o).toNat = pc') (hT : x = y → Go p l e R s m args below meth c n0 Q h k n (mkF m pc' Ls st)) (hF : ¬ x = y → Go p l e R s m args below meth c n0 Q h k n (mkF m (pc + 3) Ls st)) : Go p l e R s m args below meth c n0 Q h k n (mkF m pc Ls (.int (XT.cmpL x y) :: st)) := by
  by_cases q : x = y
  · exact go_step (fun T L X t S => XS.ifYes X.here K.1 rfl rfl (hb K.2.2.2.1 hd) rfl (XT.ll_eq_t q) ho hp S) (hT q)
  · exact go_step (fun T L X t S => XS.ifNo X.here K.1 rfl (hb K.2.2.2.1 hd) rfl (XT.ll_eq_f q) S) (hF q)
theorem g_if_ne (K : Kx Z own nm bytes ml rt p s m meth c) (pc pc' : Nat) {o : Int} {x : Int32} (hd : decode bytes pc = .ok (.ifCond .ne o, 3)) (ho : 0 ≤ (pc : Int) + o) (hp : ((pc : Int) + o).toNat = pc') (hT : ¬ x = 0 → Go p l e R s m args below meth c n0 Q h k n (mkF m pc' Ls st)) (hF : x = 0 → Go p l e R s m args below meth c n0 Q h k n (mkF m (pc + 3) Ls st)) : Go p l e R s m args below meth c n0 Q h k n (mkF m pc Ls (.int x :: st)) := by
  by_cases q : x = 0
  · exact go_step (fun T L X t S => XS.ifNo X.here K.1 rfl (hb K.2.2.2.1 hd) rfl (XT.i0_ne_f q) S) (hF q)
  · exact go_step (fun T L X t S => XS.ifYes X.here K.1 rfl rfl (hb K.2.2.2.1 hd) rfl (XT.i0_ne_t q) ho hp S) (hT q)
theorem g_ii_ne (K : Kx Z own nm bytes ml rt p s m meth c) (pc pc' : Nat) {o : Int} {x y : Int32} (hd : decode bytes pc = .ok (.if_icmp .ne o, 3)) (ho : 0 ≤ (pc : Int) + o) (hp : ((pc : Int) + o).toNat = pc') (hT : ¬ x = y → Go p l e R s m args below meth c n0 Q h k n (mkF m pc' Ls st)) (hF : x = y → Go p l e R s m args below meth c n0 Q h k n (mkF m (pc + 3) Ls st)) : Go p l e R s m args below meth c n0 Q h k n (mkF m pc Ls (.int y :: .int x :: st)) := by
  by_cases q : x = y
  · exact go_step (fun T L X t S => XS.icmpNo X.here K.1 rfl (hb K.2.2.2.1 hd) rfl (XT.ii_ne_f q) S) (hF q)
  · exact go_step (fun T L X t S => XS.icmpYes X.here K.1 rfl rfl (hb K.2.2.2.1 hd) rfl (XT.ii_ne_t q) ho hp S) (hT q)
theorem g_ll_ne (K : Kx Z own nm bytes ml rt p s m meth c) (pc pc' : Nat) {o : Int} {x y : Int64} (hd : decode bytes pc = .ok (.ifCond .ne o, 3)) (ho : 0 ≤ (pc : Int) + o) (hp : ((pc : Int) + o).toNat = pc') (hT : ¬ x = y → Go p l e R s m args below meth c n0 Q h k n (mkF m pc' Ls st)) (hF : x = y → Go p l e R s m args below meth c n0 Q h k n (mkF m (pc + 3) Ls st)) : Go p l e R s m args below meth c n0 Q h k n (mkF m pc Ls (.int (XT.cmpL x y) :: st)) := by
  by_cases q : x = y
  · exact go_step (fun T L X t S => XS.ifNo X.here K.1 rfl (hb K.2.2.2.1 hd) rfl (XT.ll_ne_f q) S) (hF q)
  · exact go_step (fun T L X t S => XS.ifYes X.here K.1 rfl rfl (hb K.2.2.2.1 hd) rfl (XT.ll_ne_t q) ho hp S) (hT q)
theorem g_if_lt (K : Kx Z own nm bytes ml rt p s m meth c) (pc pc' : Nat) {o : Int} {x : Int32} (hd : decode bytes pc = .ok (.ifCond .lt o, 3)) (ho : 0 ≤ (pc : Int) + o) (hp : ((pc : Int) + o).toNat = pc') (hT : x < 0 → Go p l e R s m args below meth c n0 Q h k n (mkF m pc' Ls st)) (hF : ¬ x < 0 → Go p l e R s m args below meth c n0 Q h k n (mkF m (pc + 3) Ls st)) : Go p l e R s m args below meth c n0 Q h k n (mkF m pc Ls (.int x :: st)) := by
  by_cases q : x < 0
  · exact go_step (fun T L X t S => XS.ifYes X.here K.1 rfl rfl (hb K.2.2.2.1 hd) rfl (XT.i0_lt_t q) ho hp S) (hT q)
  · exact go_step (fun T L X t S => XS.ifNo X.here K.1 rfl (hb K.2.2.2.1 hd) rfl (XT.i0_lt_f q) S) (hF q)
theorem g_ii_lt (K : Kx Z own nm bytes ml rt p s m meth c) (pc pc' : Nat) {o : Int} {x y : Int32} (hd : decode bytes pc = .ok (.if_icmp .lt o, 3)) (ho : 0 ≤ (pc : Int) + o) (hp : ((pc : Int) + o).toNat = pc') (hT : x < y → Go p l e R s m args below meth c n0 Q h k n (mkF m pc' Ls st)) (hF : ¬ x < y → Go p l e R s m args below meth c n0 Q h k n (mkF m (pc + 3) Ls st)) : Go p l e R s m args below meth c n0 Q h k n (mkF m pc Ls (.int y :: .int x :: st)) := by
  by_cases q : x < y
  · exact go_step (fun T L X t S => XS.icmpYes X.here K.1 rfl rfl (hb K.2.2.2.1 hd) rfl (XT.ii_lt_t q) ho hp S) (hT q)
  · exact go_step (fun T L X t S => XS.icmpNo X.here K.1 rfl (hb K.2.2.2.1 hd) rfl (XT.ii_lt_f q) S) (hF q)
theorem g_ll_lt (K : Kx Z own nm bytes ml rt p s m meth c) (pc pc' : Nat) {o : Int} {x y : Int64} (hd : decode bytes pc = .ok (.ifCond .lt o, 3)) (ho : 0 ≤ (pc : Int) + o) (hp : ((pc : Int) + o).toNat = pc') (hT : x < y → Go p l e R s m args below meth c n0 Q h k n (mkF m pc' Ls st)) (hF : ¬ x < y → Go p l e R s m args below meth c n0 Q h k n (mkF m (pc + 3) Ls st)) : Go p l e R s m args below meth c n0 Q h k n (mkF m pc Ls (.int (XT.cmpL x y) :: st)) := by
  by_cases q : x < y
  · exact go_step (fun T L X t S => XS.ifYes X.here K.1 rfl rfl (hb K.2.2.2.1 hd) rfl (XT.ll_lt_t q) ho hp S) (hT q)
  · exact go_step (fun T L X t S => XS.ifNo X.here K.1 rfl (hb K.2.2.2.1 hd) rfl (XT.ll_lt_f q) S) (hF q)
theorem g_if_ge (K : Kx Z own nm bytes ml rt p s m meth c) (pc pc' : Nat) {o : Int} {x : Int32} (hd : decode bytes pc = .ok (.ifCond .ge o, 3)) (ho : 0 ≤ (pc : Int) + o) (hp : ((pc : Int) + o).toNat = pc') (hT : ¬ x < 0 → Go p l e R s m args below meth c n0 Q h k n (mkF m pc' Ls st)) (hF : x < 0 → Go p l e R s m args below meth c n0 Q h k n (mkF m (pc + 3) Ls st)) : Go p l e R s m args below meth c n0 Q h k n (mkF m pc Ls (.int x :: st)) := by
  by_cases q : x < 0
  · exact go_step (fun T L X t S => XS.ifNo X.here K.1 rfl (hb K.2.2.2.1 hd) rfl (XT.i0_ge_f q) S) (hF q)
  · exact go_step (fun T L X t S => XS.ifYes X.here K.1 rfl rfl (hb K.2.2.2.1 hd) rfl (XT.i0_ge_t q) ho hp S) (hT q)
theorem g_ii_ge (K : Kx Z own nm bytes ml rt p s m meth c) (pc pc' : Nat) {o : Int} {x y : Int32} (hd : decode bytes pc = .ok (.if_icmp .ge o, 3)) (ho : 0 ≤ (pc : Int) + o) (hp : ((pc : Int) + o).toNat = pc') (hT : ¬ x < y → Go p l e R s m args below meth c n0 Q h k n (mkF m pc' Ls st)) (hF : x < y → Go p l e R s m args below meth c n0 Q h k n (mkF m (pc + 3) Ls st)) : Go p l e R s m args below meth c n0 Q h k n (mkF m pc Ls (.int y :: .int x :: st)) := by
  by_cases q : x < y
  · exact go_step (fun T L X t S => XS.icmpNo X.here K.1 rfl (hb K.2.2.2.1 hd) rfl (XT.ii_ge_f q) S) (hF q)
  · exact go_step (fun T L X t S => XS.icmpYes X.here K.1 rfl rfl (hb K.2.2.2.1 hd) rfl (XT.ii_ge_t q) ho hp S) (hT q)
theorem g_ll_ge (K : Kx Z own nm bytes ml rt p s m meth c) (pc pc' : Nat) {o : Int} {x y : Int64} (hd : decode bytes pc = .ok (.ifCond .ge o, 3)) (ho : 0 ≤ (pc : Int) + o) (hp : ((pc : Int) + o).toNat = pc') (hT : ¬ x < y → Go p l e R s m args below meth c n0 Q h k n (mkF m pc' Ls st)) (hF : x < y → Go p l e R s m args below meth c n0 Q h k n (mkF m (pc + 3) Ls st)) : Go p l e R s m args below meth c n0 Q h k n (mkF m pc Ls (.int (XT.cmpL x y) :: st)) := by
  by_cases q : x < y
  · exact go_step (fun T L X t S => XS.ifNo X.here K.1 rfl (hb K.2.2.2.1 hd) rfl (XT.ll_ge_f q) S) (hF q)
  · exact go_step (fun T L X t S => XS.ifYes X.here K.1 rfl rfl (hb K.2.2.2.1 hd) rfl (XT.ll_ge_t q) ho hp S) (hT q)
theorem g_if_gt (K : Kx Z own nm bytes ml rt p s m meth c) (pc pc' : Nat) {o : Int} {x : Int32} (hd : decode bytes pc = .ok (.ifCond .gt o, 3)) (ho : 0 ≤ (pc : Int) + o) (hp : ((pc : Int) + o).toNat = pc') (hT : 0 < x → Go p l e R s m args below meth c n0 Q h k n (mkF m pc' Ls st)) (hF : ¬ 0 < x → Go p l e R s m args below meth c n0 Q h k n (mkF m (pc + 3) Ls st)) : Go p l e R s m args below meth c n0 Q h k n (mkF m pc Ls (.int x :: st)) := by
  by_cases q : 0 < x
  · exact go_step (fun T L X t S => XS.ifYes X.here K.1 rfl rfl (hb K.2.2.2.1 hd) rfl (XT.i0_gt_t q) ho hp S) (hT q)
  · exact go_step (fun T L X t S => XS.ifNo X.here K.1 rfl (hb K.2.2.2.1 hd) rfl (XT.i0_gt_f q) S) (hF q)
theorem g_ii_gt (K : Kx Z own nm bytes ml rt p s m meth c) (pc pc' : Nat) {o : Int} {x y : Int32} (hd : decode bytes pc = .ok (.if_icmp .gt o, 3)) (ho : 0 ≤ (pc : Int) + o) (hp : ((pc : Int) + o).toNat = pc') (hT : y < x → Go p l e R s m args below meth c n0 Q h k n (mkF m pc' Ls st)) (hF : ¬ y < x → Go p l e R s m args below meth c n0 Q h k n (mkF m (pc + 3) Ls st)) : Go p l e R s m args below meth c n0 Q h k n (mkF m pc Ls (.int y :: .int x :: st)) := by
  by_cases q : y < x
  · exact go_step (fun T L X t S => XS.icmpYes X.here K.1 rfl rfl (hb K.2.2.2.1 hd) rfl (XT.ii_gt_t q) ho hp S) (hT q)
  · exact go_step (fun T L X t S => XS.icmpNo X.here K.1 rfl (hb K.2.2.2.1 hd) rfl (XT.ii_gt_f q) S) (hF q)
theorem g_ll_gt (K : Kx Z own nm bytes ml rt p s m meth c) (pc pc' : Nat) {o : Int} {x y : Int64} (hd : decode bytes pc = .ok (.ifCond .gt o, 3)) (ho : 0 ≤ (pc : Int) + o) (hp : ((pc : Int) + o).toNat = pc') (hT : y < x → Go p l e R s m args below meth c n0 Q h k n (mkF m pc' Ls st)) (hF : ¬ y < x → Go p l e R s m args below meth c n0 Q h k n (mkF m (pc + 3) Ls st)) : Go p l e R s m args below meth c n0 Q h k n (mkF m pc Ls (.int (XT.cmpL x y) :: st)) := by
  by_cases q : y < x
  · exact go_step (fun T L X t S => XS.ifYes X.here K.1 rfl rfl (hb K.2.2.2.1 hd) rfl (XT.ll_gt_t q) ho hp S) (hT q)
  · exact go_step (fun T L X t S => XS.ifNo X.here K.1 rfl (hb K.2.2.2.1 hd) rfl (XT.ll_gt_f q) S) (hF q)
theorem g_if_le (K : Kx Z own nm bytes ml rt p s m meth c) (pc pc' : Nat) {o : Int} {x : Int32} (hd : decode bytes pc = .ok (.ifCond .le o, 3)) (ho : 0 ≤ (pc : Int) + o) (hp : ((pc : Int) + o).toNat = pc') (hT : ¬ 0 < x → Go p l e R s m args below meth c n0 Q h k n (mkF m pc' Ls st)) (hF : 0 < x → Go p l e R s m args below meth c n0 Q h k n (mkF m (pc + 3) Ls st)) : Go p l e R s m args below meth c n0 Q h k n (mkF m pc Ls (.int x :: st)) := by
  by_cases q : 0 < x
  · exact go_step (fun T L X t S => XS.ifNo X.here K.1 rfl (hb K.2.2.2.1 hd) rfl (XT.i0_le_f q) S) (hF q)
  · exact go_step (fun T L X t S => XS.ifYes X.here K.1 rfl rfl (hb K.2.2.2.1 hd) rfl (XT.i0_le_t q) ho hp S) (hT q)
theorem g_ii_le (K : Kx Z own nm bytes ml rt p s m meth c) (pc pc' : Nat) {o : Int} {x y : Int32} (hd : decode bytes pc = .ok (.if_icmp .le o, 3)) (ho : 0 ≤ (pc : Int) + o) (hp : ((pc : Int) + o).toNat = pc') (hT : ¬ y < x → Go p l e R s m args below meth c n0 Q h k n (mkF m pc' Ls st)) (hF : y < x → Go p l e R s m args below meth c n0 Q h k n (mkF m (pc + 3) Ls st)) : Go p l e R s m args below meth c n0 Q h k n (mkF m pc Ls (.int y :: .int x :: st)) := by
  by_cases q : y < x
  · exact go_step (fun T L X t S => XS.icmpNo X.here K.1 rfl (hb K.2.2.2.1 hd) rfl (XT.ii_le_f q) S) (hF q)
  · exact go_step (fun T L X t S => XS.icmpYes X.here K.1 rfl rfl (hb K.2.2.2.1 hd) rfl (XT.ii_le_t q) ho hp S) (hT q)
theorem g_ll_le (K : Kx Z own nm bytes ml rt p s m meth c) (pc pc' : Nat) {o : Int} {x y : Int64} (hd : decode bytes pc = .ok (.ifCond .le o, 3)) (ho : 0 ≤ (pc : Int) + o) (hp : ((pc : Int) + o).toNat = pc') (hT : ¬ y < x → Go p l e R s m args below meth c n0 Q h k n (mkF m pc' Ls st)) (hF : y < x → Go p l e R s m args below meth c n0 Q h k n (mkF m (pc + 3) Ls st)) : Go p l e R s m args below meth c n0 Q h k n (mkF m pc Ls (.int (XT.cmpL x y) :: st)) := by
  by_cases q : y < x
  · exact go_step (fun T L X t S => XS.ifNo X.here K.1 rfl (hb K.2.2.2.1 hd) rfl (XT.ll_le_f q) S) (hF q)
  · exact go_step (fun T L X t S => XS.ifYes X.here K.1 rfl rfl (hb K.2.2.2.1 hd) rfl (XT.ll_le_t q) ho hp S) (hT q)
theorem g_aa_eq (K : Kx Z own nm bytes ml rt p s m meth c) (pc pc' : Nat) {o : Int} {x y : Value} (hx' : x.isRef = true) (hy' : y.isRef = true) (hd : decode bytes pc = .ok (.if_acmp .eq o, 3)) (ho : 0 ≤ (pc : Int) + o) (hp : ((pc : Int) + o).toNat = pc') (hT : x = y → Go p l e R s m args below meth c n0 Q h k n (mkF m pc' Ls st)) (hF : ¬ x = y → Go p l e R s m args below meth c n0 Q h k n (mkF m (pc + 3) Ls st)) : Go p l e R s m args below meth c n0 Q h k n (mkF m pc Ls (y :: x :: st)) := by
  by_cases q : x = y
  · exact go_step (fun T L X t S => XT.acmpYes X.here K.1 rfl rfl (hb K.2.2.2.1 hd) rfl hx' hy' (XT.aa_eq_t q) ho hp S) (hT q)
  · exact go_step (fun T L X t S => XT.acmpNo X.here K.1 rfl (hb K.2.2.2.1 hd) rfl hx' hy' (XT.aa_eq_f q) S) (hF q)
theorem g_aa_ne (K : Kx Z own nm bytes ml rt p s m meth c) (pc pc' : Nat) {o : Int} {x y : Value} (hx' : x.isRef = true) (hy' : y.isRef = true) (hd : decode bytes pc = .ok (.if_acmp .ne o, 3)) (ho : 0 ≤ (pc : Int) + o) (hp : ((pc : Int) + o).toNat = pc') (hT : ¬ x = y → Go p l e R s m args below meth c n0 Q h k n (mkF m pc' Ls st)) (hF : x = y → Go p l e R s m args below meth c n0 Q h k n (mkF m (pc + 3) Ls st)) : Go p l e R s m args below meth c n0 Q h k n (mkF m pc Ls (y :: x :: st)) := by
  by_cases q : x = y
  · exact go_step (fun T L X t S => XT.acmpNo X.here K.1 rfl (hb K.2.2.2.1 hd) rfl hx' hy' (XT.aa_ne_f q) S) (hF q)
  · exact go_step (fun T L X t S => XT.acmpYes X.here K.1 rfl rfl (hb K.2.2.2.1 hd) rfl hx' hy' (XT.aa_ne_t q) ho hp S) (hT q)
theorem g_ifnull_ref (K : Kx Z own nm bytes ml rt p s m meth c) (pc : Nat) {o : Int} {b : Addr} (hd : decode bytes pc = .ok (.ifnull o, 3)) (hr : Go p l e R s m args below meth c n0 Q h k n (mkF m (pc + 3) Ls st)) : Go p l e R s m args below meth c n0 Q h k n (mkF m pc Ls (.ref b :: st)) :=
  go_step (fun T L X t S => XS.ifnullNo X.here K.1 rfl (hb K.2.2.2.1 hd) rfl S) hr
theorem g_ifnull_null (K : Kx Z own nm bytes ml rt p s m meth c) (pc pc' : Nat) {o : Int} (hd : decode bytes pc = .ok (.ifnull o, 3)) (ho : 0 ≤ (pc : Int) + o) (hp : ((pc : Int) + o).toNat = pc') (hr : Go p l e R s m args below meth c n0 Q h k n (mkF m pc' Ls st)) : Go p l e R s m args below meth c n0 Q h k n (mkF m pc Ls (.null :: st)) :=
  go_step (fun T L X t S => XS.ifnullYes X.here K.1 rfl rfl (hb K.2.2.2.1 hd) rfl ho hp S) hr
theorem g_ldc (K : Kx Z own nm bytes ml rt p s m meth c) (pc : Nat) {i : Nat} {v : Int32} (hd : decode bytes pc = .ok (.ldc i, 2)) (w : (Jvm.Cond.constant own i v).before a0 Z = true) (hr : Go p l e R s m args below meth c n0 Q h k n (mkF m (pc + 2) Ls (.int v :: st))) : Go p l e R s m args below meth c n0 Q h k n (mkF m pc Ls st) :=
  go_step (fun T L X t S => X.ldcI K.1 K.2.2.1 (mvT K.2.1 w) rfl (hb K.2.2.2.1 hd) S) hr
theorem g_ldc_w (K : Kx Z own nm bytes ml rt p s m meth c) (pc : Nat) {i : Nat} {v : Int32} (hd : decode bytes pc = .ok (.ldc_w i, 3)) (w : (Jvm.Cond.constant own i v).before a0 Z = true) (hr : Go p l e R s m args below meth c n0 Q h k n (mkF m (pc + 3) Ls (.int v :: st))) : Go p l e R s m args below meth c n0 Q h k n (mkF m pc Ls st) :=
  go_step (fun T L X t S => X.ldcWI K.1 K.2.2.1 (mvT K.2.1 w) rfl (hb K.2.2.2.1 hd) S) hr
theorem g_ldc2_w (K : Kx Z own nm bytes ml rt p s m meth c) (pc : Nat) {i : Nat} {v : Int64} (hd : decode bytes pc = .ok (.ldc2_w i, 3)) (w : (Jvm.Cond.constantLong own i v).before a0 Z = true) (hr : Go p l e R s m args below meth c n0 Q h k n (mkF m (pc + 3) Ls (.long v :: st))) : Go p l e R s m args below meth c n0 Q h k n (mkF m pc Ls st) :=
  go_step (fun T L X t S => X.ldc2J K.1 K.2.2.1 (mvT K.2.1 w) rfl (hb K.2.2.2.1 hd) S) hr
theorem g_ireturn (K : Kx Z own nm bytes ml rt p s m meth c) (pc : Nat) {z : Int32} (hd : decode bytes pc = .ok (.ireturn, 1)) (hrt : rt = some .int)  (hk : k ≤ R.cells) (hn : n ≤ R.slots) (hq : Q (some (.int z)) h) : Go p l e R s m args below meth c n0 Q h k n (mkF m pc Ls [.int z]) := by
  intro T L X eT N
  obtain ⟨fs, hr, hrun, hended, hW, hsame⟩ := X.leave (v := some (.int z)) (fun hh => by first | rfl | (rw [K.2.2.2.2.2.1, hrt] at hh; cases hh)) K.2.2.2.2.2.2.1
  refine ⟨_, _, X.ireturnOut K.1 (K.2.2.2.2.2.1.trans hrt) rfl (Or.inl rfl) (hb K.2.2.2.1 hd) hr, hrun, hended, _, L, rfl, ⟨?_, N⟩, ⟨_, rfl⟩, hW, hsame.mono hk hn⟩
  show Q _ T.heap
  rw [eT]; exact hq
theorem g_retN (K : Kx Z own nm bytes ml rt p s m meth c) (pc : Nat) {z : Int32} (t : FieldType) (hd : decode bytes pc = .ok (.ireturn, 1)) (hrt : rt = some t) (ht : t = .boolean ∨ t = .byte ∨ t = .char ∨ t = .short) (hk : k ≤ R.cells) (hn : n ≤ R.slots) (hq : Q (some (.int (nar t z))) h) : Go p l e R s m args below meth c n0 Q h k n (mkF m pc Ls (.int z :: st)) := by
  intro T L X eT N
  obtain ⟨fs, hr, hrun, hended, hW, hsame⟩ := X.leave (v := some (.int (nar t z))) (fun hh => by first | rfl | (rw [K.2.2.2.2.2.1, hrt] at hh; cases hh)) K.2.2.2.2.2.2.1
  refine ⟨_, _, retN X K.1 (K.2.2.2.2.2.1.trans hrt) ht (hb K.2.2.2.1 hd) hr, hrun, hended, _, L, rfl, ⟨?_, N⟩, ⟨_, rfl⟩, hW, hsame.mono hk hn⟩
  show Q _ T.heap
  rw [eT]; exact hq
theorem g_lreturn (K : Kx Z own nm bytes ml rt p s m meth c) (pc : Nat) {z : Int64} (hd : decode bytes pc = .ok (.lreturn, 1)) (hrt : rt = some .long)  (hk : k ≤ R.cells) (hn : n ≤ R.slots) (hq : Q (some (.long z)) h) : Go p l e R s m args below meth c n0 Q h k n (mkF m pc Ls [.long z]) := by
  intro T L X eT N
  obtain ⟨fs, hr, hrun, hended, hW, hsame⟩ := X.leave (v := some (.long z)) (fun hh => by first | rfl | (rw [K.2.2.2.2.2.1, hrt] at hh; cases hh)) K.2.2.2.2.2.2.1
  refine ⟨_, _, X.lreturnOut K.1 (K.2.2.2.2.2.1.trans hrt) (hb K.2.2.2.1 hd) hr, hrun, hended, _, L, rfl, ⟨?_, N⟩, ⟨_, rfl⟩, hW, hsame.mono hk hn⟩
  show Q _ T.heap
  rw [eT]; exact hq
theorem g_areturn (K : Kx Z own nm bytes ml rt p s m meth c) (pc : Nat) {w : Value} (t : FieldType) (hd : decode bytes pc = .ok (.areturn, 1)) (hrt : rt = some t) (hw : w.isRef = true) (ht : t.isReference = true) (hk : k ≤ R.cells) (hn : n ≤ R.slots) (hq : Q (some w) h) : Go p l e R s m args below meth c n0 Q h k n (mkF m pc Ls [w]) := by
  intro T L X eT N
  obtain ⟨fs, hr, hrun, hended, hW, hsame⟩ := X.leave (v := some w) (fun hh => by first | rfl | (rw [K.2.2.2.2.2.1, hrt] at hh; cases hh)) K.2.2.2.2.2.2.1
  refine ⟨_, _, X.areturnOut K.1 hw (K.2.2.2.2.2.1.trans hrt) ht (hb K.2.2.2.1 hd) hr, hrun, hended, _, L, rfl, ⟨?_, N⟩, ⟨_, rfl⟩, hW, hsame.mono hk hn⟩
  show Q _ T.heap
  rw [eT]; exact hq
theorem g_return (K : Kx Z own nm bytes ml rt p s m meth c) (pc : Nat)  (hd : decode bytes pc = .ok (.return_, 1)) (hrt : rt = none)  (hk : k ≤ R.cells) (hn : n ≤ R.slots) (hq : Q none h) : Go p l e R s m args below meth c n0 Q h k n (mkF m pc Ls []) := by
  intro T L X eT N
  obtain ⟨fs, hr, hrun, hended, hW, hsame⟩ := X.leave (v := none) (fun hh => by first | rfl | (rw [K.2.2.2.2.2.1, hrt] at hh; cases hh)) K.2.2.2.2.2.2.1
  refine ⟨_, _, X.returnOut K.1 (K.2.2.2.2.2.1.trans hrt) (hb K.2.2.2.1 hd) hr, hrun, hended, _, L, rfl, ⟨?_, N⟩, ⟨_, rfl⟩, hW, hsame.mono hk hn⟩
  show Q _ T.heap
  rw [eT]; exact hq
theorem g_getfield (K : Kx Z own nm bytes ml rt p s m meth c) (pc : Nat) {i : Nat} {C f d : String} {a : Addr} {v : Value} (hd : decode bytes pc = .ok (.getfield i, 3)) (w : (Jvm.Cond.fieldLink own i C f d).before a0 Z = true) (F : Fld Z h a C f d v) (hr : Go p l e R s m args below meth c n0 Q h k n (mkF m (pc + 3) Ls (v :: st))) : Go p l e R s m args below meth c n0 Q h k n (mkF m pc Ls (.ref a :: st)) := by
  intro T L X eT N
  obtain ⟨T', X', e', stp⟩ := getF X K.1 K.2.1 K.2.2.1 (host := "") (Or.inl w) Via.refl eT F (g := mkF m pc Ls (.ref a :: st)) rfl rfl (hb K.2.2.2.1 hd)
  obtain ⟨s₂, o, S, r⟩ := hr T' L X' e' N
  exact ⟨s₂, o, stp _ S, r⟩
theorem g_putfield (K : Kx Z own nm bytes ml rt p s m meth c) (pc : Nat) {i kk : Nat} {C f d : String} {a : Addr} {v old : Value} (ty : FieldType) (hd : decode bytes pc = .ok (.putfield i, 3)) (w : (Jvm.Cond.fieldLink own i C f d).before a0 Z = true) (F : Fld Z h a C f d old) (E : Exa Z h a C) (Lw : (Jvm.Cond.lays C C f d).before a0 Z = true ∨ ((Jvm.Cond.laysFinal C C f d).before a0 Z = true ∧ own = C ∧ nm = "<init>")) (wi : (Jvm.Cond.instantiable C kk).before a0 Z = true) (hty : parseFieldDescriptor d = some ty) (hnv : narrow ty v = v) (hfv : fits ty v = true) (ha : n0 ≤ a) (hr : ∀ h', Wr h h' a (Jvm.RoadKit.slotOf Z C f d) v → Keep h h' [a] → Go p l e R s m args below meth c n0 Q h' k n (mkF m (pc + 3) Ls st)) : Go p l e R s m args below meth c n0 Q h k n (mkF m pc Ls (v :: .ref a :: st)) := by
  intro T L X eT N
  obtain ⟨T', h', X', e', W, stp⟩ := putF X K.1 K.2.1 K.2.2.1 (host := "") (Or.inl w) Via.refl eT F E (Lw.imp id fun q => ⟨q.1, q.2.1, K.2.2.2.2.2.2.2.trans q.2.2⟩) wi hty hnv hfv (g := mkF m pc Ls (v :: .ref a :: st)) rfl rfl (hb K.2.2.2.1 hd)
  obtain ⟨s₂, o, S, r⟩ := hr h' W (Keep.of_wr W) T' _ X' e' (Fr.snoc X' N ha)
  exact ⟨s₂, o, stp _ S, r⟩
theorem g_new (K : Kx Z own nm bytes ml rt p s m meth c) (pc : Nat) {i kk : Nat} {C : String} (hd : decode bytes pc = .ok (.new i, 3)) (w : (Jvm.Cond.classLink own i C).before a0 Z = true) (wi : (Jvm.Cond.instantiable C kk).before a0 Z = true) (wz : (Jvm.Cond.initialized C).before a0 Z = true) (hk : k + 1 ≤ R.cells) (hn : n + kk ≤ R.slots) (hr : ∀ h' a, a = h.size → Keep h h' [] → Exa Z h' a C → (∀ {O f d : String} {ty : FieldType}, Laid Z a0 C O f d → parseFieldDescriptor d = some ty → Fld Z h' a O f d (defaultValue ty)) → Go p l e R s m args below meth c n0 Q h' (k + 1) (n + kk) (mkF m (pc + 3) Ls (.ref a :: st))) : Go p l e R s m args below meth c n0 Q h k n (mkF m pc Ls st) := by
  intro T L X eT N
  obtain ⟨T', h', X', e', E, A, D, -, stp⟩ := newO X K.1 K.2.1 K.2.2.1 w wi wz eT (g := mkF m pc Ls st) rfl (hb K.2.2.2.1 hd) hk hn
  obtain ⟨s₂, o, S, r⟩ := hr h' h.size rfl (keep_ext E) A D T' L X' e' N
  exact ⟨s₂, o, stp _ S, r⟩
theorem g_initO (K : Kx Z own nm bytes ml rt p s m meth c) (pc : Nat) {i : Nat} {a : Addr} (hd : decode bytes pc = .ok (.invokespecial i, 3)) (w1 : (Jvm.Cond.methodLink own i Lib.objectInit).before a0 Z = true) (w2 : (Jvm.Cond.instanceMethod Lib.objectInit).before a0 Z = true) (w3 : (Jvm.Cond.code Lib.objectInit ⟨#[0xb1]⟩ 1 none).before a0 Z = true) (hls : Ls.size = ml) (hf : 1 ≤ R.frames) (W : Nat) (hW : (st.map fun v => v.category).sum ≤ W) (hlo : W + 12 ≤ R.locals) (hr : Go p l e R s m args below meth c n0 Q h k n (mkF m (pc + 3) Ls st)) : Go p l e R s m args below meth c n0 Q h k n (mkF m pc Ls (.ref a :: st)) := by
  intro T L X eT N
  obtain ⟨T', X', e', stp⟩ := initO X K.1 K.2.1 K.2.2.1 w1 w2 w3 eT (g := mkF m pc Ls (.ref a :: st)) rfl (hls.trans K.2.2.2.2.1.symm) rfl (hb K.2.2.2.1 hd) hf (W := W) (by show 2 * 0 + _ ≤ _; omega) hlo
  obtain ⟨s₂, o, S, r⟩ := hr T' L X' e' N
  exact ⟨s₂, o, stp _ S, r⟩
theorem g_newI (K : Kx Z own nm bytes ml rt p s m meth c) (pc : Nat) {aty : ArrayType} {z : Int32} (ty : FieldType) (hd : decode bytes pc = .ok (.newarray aty, 2)) (hty : newarray.typeOf aty = ty) (hdef : defaultValue ty = .int 0) (w : (Jvm.Cond.arrayClass ty).before a0 Z = true) (hz : ¬ z < 0) (cap : Nat) (hcap : z.toNatClampNeg ≤ cap) (hb8 : cap * 8 ≤ 536870912) (hk : k + 1 ≤ R.cells) (hn : n + cap ≤ R.slots) (hr : ∀ h' a, a = h.size → Keep h h' [] → IA Z h' a ty (List.replicate z.toNatClampNeg 0) → Go p l e R s m args below meth c n0 Q h' (k + 1) (n + cap) (mkF m (pc + 2) Ls (.ref a :: st))) : Go p l e R s m args below meth c n0 Q h k n (mkF m pc Ls (.int z :: st)) := by
  subst hty
  intro T L X eT N
  obtain ⟨T', h', cA, X', e', E, A, stp⟩ := newP X K.1 K.2.1 w eT (g := mkF m pc Ls (.int z :: st)) rfl (hb K.2.2.2.1 hd) rfl hz hcap hb8 hk hn
  obtain ⟨s₂, o, S, r⟩ := hr h' h.size rfl (keep_ext E) ⟨_, A, by simp [newA, hdef]⟩ T' L X' e' N
  exact ⟨s₂, o, stp _ S, r⟩
theorem g_newJ (K : Kx Z own nm bytes ml rt p s m meth c) (pc : Nat) {z : Int32} (hd : decode bytes pc = .ok (.newarray .long, 2)) (w : (Jvm.Cond.arrayClass .long).before a0 Z = true) (hz : ¬ z < 0) (cap : Nat) (hcap : z.toNatClampNeg ≤ cap) (hb8 : cap * 8 ≤ 536870912) (hk : k + 1 ≤ R.cells) (hn : n + cap ≤ R.slots) (hr : ∀ h' a, a = h.size → Keep h h' [] → LA Z h' a (List.replicate z.toNatClampNeg 0) → Go p l e R s m args below meth c n0 Q h' (k + 1) (n + cap) (mkF m (pc + 2) Ls (.ref a :: st))) : Go p l e R s m args below meth c n0 Q h k n (mkF m pc Ls (.int z :: st)) := by
  intro T L X eT N
  obtain ⟨T', h', cA, X', e', E, A, stp⟩ := newP X K.1 K.2.1 (aty := .long) w eT (g := mkF m pc Ls (.int z :: st)) rfl (hb K.2.2.2.1 hd) rfl hz hcap hb8 hk hn
  obtain ⟨s₂, o, S, r⟩ := hr h' h.size rfl (keep_ext E) ⟨_, A, by simp [newA, defaultValue, newarray.typeOf]⟩ T' L X' e' N
  exact ⟨s₂, o, stp _ S, r⟩
theorem g_iaload (K : Kx Z own nm bytes ml rt p s m meth c) (pc : Nat) {a : Addr} {xs : List Int32} {j : Int32} (v : Int32) (hd : decode bytes pc = .ok (.iaload, 1)) (F : IA Z h a .int xs) (hj : ¬ j < 0) (hv : xs[j.toNatClampNeg]? = some v) (hr : Go p l e R s m args below meth c n0 Q h k n (mkF m (pc + 1) Ls (.int v :: st))) : Go p l e R s m args below meth c n0 Q h k n (mkF m pc Ls (.int j :: .ref a :: st)) := by
  intro T L X eT N
  obtain ⟨cl, A, es⟩ := F
  obtain ⟨s₂, o, S, r⟩ := hr T L X eT N
  have hlt : j.toNatClampNeg < xs.length := (List.getElem?_eq_some_iff.mp hv).1
  refine ⟨s₂, o, X.iaload K.1 (j := j) (v := (.int v)) (by rw [eT]; exact A.1) (State.isArrayOf_alike K.2.1.alike A.2.1) A.2.2 (own_clamp hj hlt (by simp [es])) (by rw [es]; simp [hv]) (g := mkF m pc Ls (.int j :: .ref a :: st)) rfl rfl (hb K.2.2.2.1 hd) _ S, r⟩
theorem g_baload (K : Kx Z own nm bytes ml rt p s m meth c) (pc : Nat) {a : Addr} {xs : List Int32} {j : Int32} (v : Int32) (hd : decode bytes pc = .ok (.baload, 1)) (F : IA Z h a .byte xs) (hj : ¬ j < 0) (hv : xs[j.toNatClampNeg]? = some v) (hr : Go p l e R s m args below meth c n0 Q h k n (mkF m (pc + 1) Ls (.int v :: st))) : Go p l e R s m args below meth c n0 Q h k n (mkF m pc Ls (.int j :: .ref a :: st)) := by
  intro T L X eT N
  obtain ⟨cl, A, es⟩ := F
  obtain ⟨s₂, o, S, r⟩ := hr T L X eT N
  have hlt : j.toNatClampNeg < xs.length := (List.getElem?_eq_some_iff.mp hv).1
  refine ⟨s₂, o, X.baloadBytes K.1 (j := j) (v := (.int v)) (by rw [eT]; exact A.1) (State.isArrayOf_alike K.2.1.alike A.2.1) A.2.2 (own_clamp hj hlt (by simp [es])) (by rw [es]; simp [hv]) (g := mkF m pc Ls (.int j :: .ref a :: st)) rfl rfl (hb K.2.2.2.1 hd) _ S, r⟩
theorem g_zaload (K : Kx Z own nm bytes ml rt p s m meth c) (pc : Nat) {a : Addr} {xs : List Int32} {j : Int32} (v : Int32) (hd : decode bytes pc = .ok (.baload, 1)) (F : IA Z h a .boolean xs) (hj : ¬ j < 0) (hv : xs[j.toNatClampNeg]? = some v) (hr : Go p l e R s m args below meth c n0 Q h k n (mkF m (pc + 1) Ls (.int v :: st))) : Go p l e R s m args below meth c n0 Q h k n (mkF m pc Ls (.int j :: .ref a :: st)) := by
  intro T L X eT N
  obtain ⟨cl, A, es⟩ := F
  obtain ⟨s₂, o, S, r⟩ := hr T L X eT N
  have hlt : j.toNatClampNeg < xs.length := (List.getElem?_eq_some_iff.mp hv).1
  refine ⟨s₂, o, X.baloadBooleans K.1 (j := j) (v := (.int v)) (by rw [eT]; exact A.1) (State.isArrayOf_alike K.2.1.alike A.2.1) A.2.2 (own_clamp hj hlt (by simp [es])) (by rw [es]; simp [hv]) (g := mkF m pc Ls (.int j :: .ref a :: st)) rfl rfl (hb K.2.2.2.1 hd) _ S, r⟩
theorem g_saload (K : Kx Z own nm bytes ml rt p s m meth c) (pc : Nat) {a : Addr} {xs : List Int32} {j : Int32} (v : Int32) (hd : decode bytes pc = .ok (.saload, 1)) (F : IA Z h a .short xs) (hj : ¬ j < 0) (hv : xs[j.toNatClampNeg]? = some v) (hr : Go p l e R s m args below meth c n0 Q h k n (mkF m (pc + 1) Ls (.int v :: st))) : Go p l e R s m args below meth c n0 Q h k n (mkF m pc Ls (.int j :: .ref a :: st)) := by
  intro T L X eT N
  obtain ⟨cl, A, es⟩ := F
  obtain ⟨s₂, o, S, r⟩ := hr T L X eT N
  have hlt : j.toNatClampNeg < xs.length := (List.getElem?_eq_some_iff.mp hv).1
  refine ⟨s₂, o, X.saload K.1 (j := j) (v := (.int v)) (by rw [eT]; exact A.1) (State.isArrayOf_alike K.2.1.alike A.2.1) A.2.2 (own_clamp hj hlt (by simp [es])) (by rw [es]; simp [hv]) (g := mkF m pc Ls (.int j :: .ref a :: st)) rfl rfl (hb K.2.2.2.1 hd) _ S, r⟩
theorem g_laload (K : Kx Z own nm bytes ml rt p s m meth c) (pc : Nat) {a : Addr} {xs : List Int64} {j : Int32} (v : Int64) (hd : decode bytes pc = .ok (.laload, 1)) (F : LA Z h a xs) (hj : ¬ j < 0) (hv : xs[j.toNatClampNeg]? = some v) (hr : Go p l e R s m args below meth c n0 Q h k n (mkF m (pc + 1) Ls (.long v :: st))) : Go p l e R s m args below meth c n0 Q h k n (mkF m pc Ls (.int j :: .ref a :: st)) := by
  intro T L X eT N
  obtain ⟨cl, A, es⟩ := F
  obtain ⟨s₂, o, S, r⟩ := hr T L X eT N
  have hlt : j.toNatClampNeg < xs.length := (List.getElem?_eq_some_iff.mp hv).1
  refine ⟨s₂, o, X.laload K.1 (j := j) (v := (.long v)) (by rw [eT]; exact A.1) (State.isArrayOf_alike K.2.1.alike A.2.1) A.2.2 (own_clamp hj hlt (by simp [es])) (by rw [es]; simp [hv]) (g := mkF m pc Ls (.int j :: .ref a :: st)) rfl rfl (hb K.2.2.2.1 hd) _ S, r⟩
theorem g_iastore (K : Kx Z own nm bytes ml rt p s m meth c) (pc : Nat) {a : Addr} {xs : List Int32} {j : Int32} {x : Int32} (hd : decode bytes pc = .ok (.iastore, 1)) (F : IA Z h a .int xs) (hj : ¬ j < 0) (hlt : j.toNatClampNeg < xs.length) (ha : n0 ≤ a) (hr : ∀ h', Keep h h' [a] → IA Z h' a .int (xs.set j.toNatClampNeg (x)) → Go p l e R s m args below meth c n0 Q h' k n (mkF m (pc + 1) Ls st)) : Go p l e R s m args below meth c n0 Q h k n (mkF m pc Ls (.int x :: .int j :: .ref a :: st)) := by
  intro T L X eT N
  have F' := F
  obtain ⟨cl, A, es⟩ := F
  obtain ⟨T', h', X', e', W, stp⟩ := stI X K.1 K.2.1 eT A (j := j) (x := x) (own_clamp hj hlt (by simp [es])) (g := mkF m pc Ls (.int x :: .int j :: .ref a :: st)) rfl rfl (hb K.2.2.2.1 hd)
  obtain ⟨s₂, o, S, r⟩ := hr h' (Keep.of_wr W) (F'.set W) T' _ X' e' (Fr.snoc X' N ha)
  exact ⟨s₂, o, stp _ S, r⟩
theorem g_bastore (K : Kx Z own nm bytes ml rt p s m meth c) (pc : Nat) {a : Addr} {xs : List Int32} {j : Int32} {x : Int32} (hd : decode bytes pc = .ok (.bastore, 1)) (F : IA Z h a .byte xs) (hj : ¬ j < 0) (hlt : j.toNatClampNeg < xs.length) (ha : n0 ≤ a) (hr : ∀ h', Keep h h' [a] → IA Z h' a .byte (xs.set j.toNatClampNeg (nar .byte x)) → Go p l e R s m args below meth c n0 Q h' k n (mkF m (pc + 1) Ls st)) : Go p l e R s m args below meth c n0 Q h k n (mkF m pc Ls (.int x :: .int j :: .ref a :: st)) := by
  intro T L X eT N
  have F' := F
  obtain ⟨cl, A, es⟩ := F
  obtain ⟨T', h', X', e', W, stp⟩ := stB X K.1 K.2.1 eT A (j := j) (x := x) (own_clamp hj hlt (by simp [es])) (g := mkF m pc Ls (.int x :: .int j :: .ref a :: st)) rfl rfl (hb K.2.2.2.1 hd)
  obtain ⟨s₂, o, S, r⟩ := hr h' (Keep.of_wr W) (F'.set W) T' _ X' e' (Fr.snoc X' N ha)
  exact ⟨s₂, o, stp _ S, r⟩
theorem g_zastore (K : Kx Z own nm bytes ml rt p s m meth c) (pc : Nat) {a : Addr} {xs : List Int32} {j : Int32} {x : Int32} (hd : decode bytes pc = .ok (.bastore, 1)) (F : IA Z h a .boolean xs) (hj : ¬ j < 0) (hlt : j.toNatClampNeg < xs.length) (ha : n0 ≤ a) (hr : ∀ h', Keep h h' [a] → IA Z h' a .boolean (xs.set j.toNatClampNeg (nar .boolean x)) → Go p l e R s m args below meth c n0 Q h' k n (mkF m (pc + 1) Ls st)) : Go p l e R s m args below meth c n0 Q h k n (mkF m pc Ls (.int x :: .int j :: .ref a :: st)) := by
  intro T L X eT N
  have F' := F
  obtain ⟨cl, A, es⟩ := F
  obtain ⟨T', h', X', e', W, stp⟩ := stZ X K.1 K.2.1 eT A (j := j) (x := x) (own_clamp hj hlt (by simp [es])) (g := mkF m pc Ls (.int x :: .int j :: .ref a :: st)) rfl rfl (hb K.2.2.2.1 hd)
  obtain ⟨s₂, o, S, r⟩ := hr h' (Keep.of_wr W) (F'.set W) T' _ X' e' (Fr.snoc X' N ha)
  exact ⟨s₂, o, stp _ S, r⟩
theorem g_sastore (K : Kx Z own nm bytes ml rt p s m meth c) (pc : Nat) {a : Addr} {xs : List Int32} {j : Int32} {x : Int32} (hd : decode bytes pc = .ok (.sastore, 1)) (F : IA Z h a .short xs) (hj : ¬ j < 0) (hlt : j.toNatClampNeg < xs.length) (ha : n0 ≤ a) (hr : ∀ h', Keep h h' [a] → IA Z h' a .short (xs.set j.toNatClampNeg (nar .short x)) → Go p l e R s m args below meth c n0 Q h' k n (mkF m (pc + 1) Ls st)) : Go p l e R s m args below meth c n0 Q h k n (mkF m pc Ls (.int x :: .int j :: .ref a :: st)) := by
  intro T L X eT N
  have F' := F
  obtain ⟨cl, A, es⟩ := F
  obtain ⟨T', h', X', e', W, stp⟩ := stS X K.1 K.2.1 eT A (j := j) (x := x) (own_clamp hj hlt (by simp [es])) (g := mkF m pc Ls (.int x :: .int j :: .ref a :: st)) rfl rfl (hb K.2.2.2.1 hd)
  obtain ⟨s₂, o, S, r⟩ := hr h' (Keep.of_wr W) (F'.set W) T' _ X' e' (Fr.snoc X' N ha)
  exact ⟨s₂, o, stp _ S, r⟩
theorem g_lastore (K : Kx Z own nm bytes ml rt p s m meth c) (pc : Nat) {a : Addr} {xs : List Int64} {j : Int32} {x : Int64} (hd : decode bytes pc = .ok (.lastore, 1)) (F : LA Z h a xs) (hj : ¬ j < 0) (hlt : j.toNatClampNeg < xs.length) (ha : n0 ≤ a) (hr : ∀ h', Keep h h' [a] → LA Z h' a (xs.set j.toNatClampNeg (x)) → Go p l e R s m args below meth c n0 Q h' k n (mkF m (pc + 1) Ls st)) : Go p l e R s m args below meth c n0 Q h k n (mkF m pc Ls (.long x :: .int j :: .ref a :: st)) := by
  intro T L X eT N
  have F' := F
  obtain ⟨cl, A, es⟩ := F
  obtain ⟨T', h', X', e', W, stp⟩ := stJ X K.1 K.2.1 eT A (j := j) (x := x) (own_clamp hj hlt (by simp [es])) (g := mkF m pc Ls (.long x :: .int j :: .ref a :: st)) rfl rfl (hb K.2.2.2.1 hd)
  obtain ⟨s₂, o, S, r⟩ := hr h' (Keep.of_wr W) (F'.set W) T' _ X' e' (Fr.snoc X' N ha)
  exact ⟨s₂, o, stp _ S, r⟩
theorem g_alen (K : Kx Z own nm bytes ml rt p s m meth c) (pc : Nat) {a : Addr} {ty : FieldType} {xs : List Int32} (v : Int32) (hd : decode bytes pc = .ok (.arraylength, 1)) (F : IA Z h a ty xs) (hv : xs.length.toInt32 = v) (hr : Go p l e R s m args below meth c n0 Q h k n (mkF m (pc + 1) Ls (.int v :: st))) : Go p l e R s m args below meth c n0 Q h k n (mkF m pc Ls (.ref a :: st)) := by
  intro T L X eT N
  obtain ⟨cl, A, es⟩ := F
  obtain ⟨s₂, o, S, r⟩ := hr T L X eT N
  have hq : cl.slots.size.toInt32 = v := by rw [es]; simpa using hv
  refine ⟨s₂, o, X.arraylength K.1 (cell := cl) (by rw [eT]; exact A.1) (State.isArrayOf_alike K.2.1.alike A.2.1) (g := mkF m pc Ls (.ref a :: st)) rfl (rest := st) rfl (hb K.2.2.2.1 hd) _ ?_, r⟩
  rw [hq]; exact S
theorem g_callS (K : Kx Z own nm bytes ml rt p s m meth c) (pc : Nat) {i : Nat} {y : MethodName} {b2 : ByteArray} {ml2 : Nat} {rt2 : Option FieldType} {rm : Room} {Q' : Option Value → Heap → Prop} {sig : MethodDescriptor} {S0 : List Value} (argsL : List Value) (W : Nat) (hd : decode bytes pc = .ok (.invokestatic i, 3))
    (M : Meets l y b2 ml2 rt2 rm Z argsL.toArray h n0 Q') (wl : (Jvm.Cond.methodLink own i y).before a0 Z = true) (ws : (Jvm.Cond.static y).before a0 Z = true) (wz : (Jvm.Cond.initialized y.cls).before a0 Z = true) (wc : (Jvm.Cond.code y b2 ml2 rt2).before a0 Z = true) (hy : y.cls ≠ "java/lang/invoke/MethodHandle" ∧ y.cls ≠ "java/lang/invoke/VarHandle")
    (hpd : parseMethodDescriptor y.desc = some sig) (hlen : argsL.length = sig.parameters.length) (hS : S0 = argsL.reverse ++ st) (hW : (st.map fun v => v.category).sum ≤ W) (hls : Ls.size = ml) (hf : rm.frames + 1 ≤ R.frames) (hlo : W + (ml2 + 11) + rm.locals ≤ R.locals) (hk : k + rm.cells ≤ R.cells) (hn : n + rm.slots ≤ R.slots)
    (hr : ∀ v h', Q' v h' → Go p l e R s m args below meth c n0 Q h' (k + rm.cells) (n + rm.slots) (mkF m (pc + 3) Ls (v.toList ++ st))) : Go p l e R s m args below meth c n0 Q h k n (mkF m pc Ls S0) := by
  subst hS
  intro T L X eT N
  obtain ⟨v, vm₁, ⟨T', L', k', n'⟩, -, X', ⟨L2, hQ, l1, y1, z1⟩, stp⟩ := Jvm.LawKit.callS X K.1 (y := y) K.2.2.1 (mvT K.2.1 wl) (mvT K.2.1 ws) (mvT K.2.1 wz) (mvT K.2.1 wc) hy (backOf (W := W) (Q := fun v h L => Q' v h ∧ Fr n0 L) (M []) K.2.1 wc wz hf hlo) (g := mkF m pc Ls (argsL.reverse ++ st)) rfl (hls.trans K.2.2.2.2.1.symm) (argsL := argsL) (rest := st) (fun sg h => by cases hpd.symm.trans h; exact hlen) rfl (by show 2 * 0 + _ ≤ _; omega) (hb K.2.2.2.1 hd) (fun _ _ => ⟨rfl, eT, hk, hn⟩)
  dsimp only [Pt.U, Pt.locs, Pt.cells, Pt.slots] at X' l1 y1 z1 stp hQ
  subst l1 y1 z1
  obtain ⟨s₂, o, S, r⟩ := hr v _ hQ.1 T' _ X' rfl (Fr.app N hQ.2)
  exact ⟨s₂, o, stp _ S, r⟩
theorem g_callN (K : Kx Z own nm bytes ml rt p s m meth c) (pc : Nat) {i : Nat} {y : MethodName} {b2 : ByteArray} {ml2 : Nat} {rm : Room} {Q' : Option Value → Heap → Prop} {sig : MethodDescriptor} {S0 : List Value} {a : Addr} (argsL : List Value) (W : Nat) (hd : decode bytes pc = .ok (.invokespecial i, 3))
    (M : Meets l y b2 ml2 none rm Z (.ref a :: argsL).toArray h n0 Q') (hy1 : y.name = "<init>") (wl : (Jvm.Cond.methodLink own i y).before a0 Z = true) (wi : (Jvm.Cond.instanceMethod y).before a0 Z = true) (wz : (Jvm.Cond.initialized y.cls).before a0 Z = true) (wc : (Jvm.Cond.code y b2 ml2 none).before a0 Z = true) (hy : y.cls ≠ "java/lang/invoke/MethodHandle" ∧ y.cls ≠ "java/lang/invoke/VarHandle")
    (hpd : parseMethodDescriptor y.desc = some sig) (hlen : argsL.length = sig.parameters.length) (hS : S0 = argsL.reverse ++ .ref a :: st) (hW : (st.map fun v => v.category).sum ≤ W) (hls : Ls.size = ml) (hf : rm.frames + 1 ≤ R.frames) (hlo : W + (ml2 + 11) + rm.locals ≤ R.locals) (hk : k + rm.cells ≤ R.cells) (hn : n + rm.slots ≤ R.slots)
    (hr : ∀ v h', Q' v h' → Go p l e R s m args below meth c n0 Q h' (k + rm.cells) (n + rm.slots) (mkF m (pc + 3) Ls (v.toList ++ st))) : Go p l e R s m args below meth c n0 Q h k n (mkF m pc Ls S0) := by
  subst hS
  intro T L X eT N
  obtain ⟨v, vm₁, ⟨T', L', k', n'⟩, -, X', ⟨L2, hQ, l1, y1, z1⟩, stp⟩ := X.specialBack K.1 (y := y) hy1 K.2.2.1 (mvT K.2.1 wl) (mvT K.2.1 wi) (mvT K.2.1 wc) hy (backOf (W := W) (Q := fun v h L => Q' v h ∧ Fr n0 L) (M []) K.2.1 wc wz hf hlo) (g := mkF m pc Ls (argsL.reverse ++ .ref a :: st)) rfl (hls.trans K.2.2.2.2.1.symm) (Steps.refl _) (a := a) (argsL := argsL) (rest := st) (fun sg h => by cases hpd.symm.trans h; exact hlen) rfl (by show 2 * 0 + _ ≤ _; omega) (hb K.2.2.2.1 hd) (fun _ _ => ⟨rfl, eT, hk, hn⟩)
  dsimp only [Pt.U, Pt.locs, Pt.cells, Pt.slots] at X' l1 y1 z1 stp hQ
  subst l1 y1 z1
  obtain ⟨s₂, o, S, r⟩ := hr v _ hQ.1 T' _ X' rfl (Fr.app N hQ.2)
  exact ⟨s₂, o, stp.trans S, r⟩
theorem g_callV (K : Kx Z own nm bytes ml rt p s m meth c) (pc : Nat) {i : Nat} {y z : MethodName} {C : String} {b2 : ByteArray} {ml2 : Nat} {rt2 : Option FieldType} {rm : Room} {Q' : Option Value → Heap → Prop} {sig : MethodDescriptor} {S0 : List Value} {a : Addr} (argsL : List Value) (W : Nat) (hd : decode bytes pc = .ok (.invokevirtual i, 3))
    (M : Meets l z b2 ml2 rt2 rm Z (.ref a :: argsL).toArray h n0 Q') (E : Exa Z h a C) (wl : (Jvm.Cond.methodLink own i y).before a0 Z = true) (wd : (Jvm.Cond.declares y).before a0 Z = true) (wsel : (Jvm.Cond.selects C y z).before a0 Z = true) (wself : (Jvm.Cond.selects y.cls y y).before a0 Z = true) (wi : (Jvm.Cond.instanceMethod z).before a0 Z = true) (wz : (Jvm.Cond.initialized z.cls).before a0 Z = true) (wc : (Jvm.Cond.code z b2 ml2 rt2).before a0 Z = true) (hy : y.cls ≠ "java/lang/invoke/MethodHandle" ∧ y.cls ≠ "java/lang/invoke/VarHandle")
    (hpd : parseMethodDescriptor y.desc = some sig) (hlen : argsL.length = sig.parameters.length) (hS : S0 = argsL.reverse ++ .ref a :: st) (hW : (st.map fun v => v.category).sum ≤ W) (hls : Ls.size = ml) (hf : rm.frames + 1 ≤ R.frames) (hlo : W + (ml2 + 11) + rm.locals ≤ R.locals) (hk : k + rm.cells ≤ R.cells) (hn : n + rm.slots ≤ R.slots)
    (hr : ∀ v h', Q' v h' → Go p l e R s m args below meth c n0 Q h' (k + rm.cells) (n + rm.slots) (mkF m (pc + 3) Ls (v.toList ++ st))) : Go p l e R s m args below meth c n0 Q h k n (mkF m pc Ls S0) := by
  subst hS
  intro T L X eT N
  obtain ⟨cB, kB, q1, q2, q3⟩ := isOf K.2.1 eT E
  obtain ⟨v, vm₁, ⟨T', L', k', n'⟩, -, X', ⟨L2, hQ, l1, y1, z1⟩, stp⟩ := X.virtualBack K.1 (y := y) (z := z) K.2.2.1 (mvT K.2.1 wl) (mvT K.2.1 wd) (notFace_of_selects (args := #[]) (mvT K.2.1 wself)) (mvT K.2.1 wsel) (mvT K.2.1 wi) hy (backOf (W := W) (Q := fun v h L => Q' v h ∧ Fr n0 L) (M []) K.2.1 wc wz hf hlo) q1 q3 (g := mkF m pc Ls (argsL.reverse ++ .ref a :: st)) rfl (hls.trans K.2.2.2.2.1.symm) (Steps.refl _) (argsL := argsL) (rest := st) (fun sg h => by cases hpd.symm.trans h; exact hlen) rfl (by show 2 * 0 + _ ≤ _; omega) (hb K.2.2.2.1 hd) (fun _ _ => ⟨rfl, eT, hk, hn⟩)
  dsimp only [Pt.U, Pt.locs, Pt.cells, Pt.slots] at X' l1 y1 z1 stp hQ
  subst l1 y1 z1
  obtain ⟨s₂, o, S, r⟩ := hr v _ hQ.1 T' _ X' rfl (Fr.app N hQ.2)
  exact ⟨s₂, o, stp.trans S, r⟩
end GoSteps
theorem meets_of {l : Launch} {y : MethodName} {bytes : ByteArray} {ml : Nat} {rt : Option FieldType} {rm : Room} {Z : State} {as : Array Value} {h0 : Heap} {n0 : Nat} {Q : Option Value → Heap → Prop} (hx : plainFor y = true) {Ls : Array Slot} (hef : ∀ m, entryFrame m as ml = mkF m 0 Ls [])
    (body : ∀ p e s m below meth c, Kx Z y.cls y.name bytes ml rt p s m meth c → Go p l e rm s m as below meth c n0 Q h0 0 0 (mkF m 0 Ls [])) : Meets l y bytes ml rt rm Z as h0 n0 Q := by
  intro ws
  refine MetFree.of_bodySF hx hisR ?_
  intro p e s m args below meth c s₁ Bd hml0 hP hK
  obtain ⟨rfl, hZ, hh⟩ := hP
  have X0 : Stand p l e rm s m args below meth c s₁ [] 0 0 := Stand.of_body Bd
  have e0 : s₁.heap = h0 := by rw [← hh, Bd.state]; rfl
  obtain ⟨s₂, o, S, r1, r2, r3⟩ := body p e s m below meth c ⟨Bd.exec, hZ, findClass_of_methodNamed Bd.named, Bd.bytes, hml0, Bd.returns, Bd.notSynchronized, (name_of_methodNamed Bd.named Bd.method).1⟩ s₁ [] X0 e0 (Fr.nil n0)
  exact ⟨s₂, o, castTop (hef m) S, r1, r2, r3⟩
theorem tw {a0 : Array Value} {Z : State} {ts : List Jvm.Cond} (hw : ∀ d ∈ ts, d.before a0 Z = true) (i : Nat) {d : Jvm.Cond} (q : ts[i]? = some d) : d.before a0 Z = true := hw _ (List.mem_of_getElem? q)
theorem pn0 : plainName "com/example/batchwright/batchwright/wire/BoundedOutput" = true := by first | (simp [plainName, overriddenIn]; done) | decide +kernel
theorem pd0 : parseMethodDescriptor "([BII)V" = some ⟨[(.array .byte), .int, .int], none⟩ := by decide +kernel
theorem pd1 : parseMethodDescriptor "()V" = some ⟨[], none⟩ := by decide +kernel
theorem pd2 : parseMethodDescriptor "(I)V" = some ⟨[.int], none⟩ := by decide +kernel
theorem pd3 : parseMethodDescriptor "()I" = some ⟨[], some .int⟩ := by decide +kernel
theorem pd4 : parseMethodDescriptor "()Z" = some ⟨[], some .boolean⟩ := by decide +kernel
theorem pn1 : plainName "com/example/batchwright/batchwright/wire/BoundedOutputPutPinLaw" = true := by first | (simp [plainName, overriddenIn]; done) | decide +kernel
theorem pd5 : parseMethodDescriptor "([BIBIIII)Z" = some ⟨[(.array .byte), .int, .byte, .int, .int, .int, .int], some .boolean⟩ := by decide +kernel
theorem pd6 : parseMethodDescriptor "(IIIIJ)Z" = some ⟨[.int, .int, .int, .int, .long], some .boolean⟩ := by decide +kernel
theorem d1_0 : decode prog_50_method_1_code 0 = .ok (.aload_n 0, 1) := by decide +kernel
theorem d1_1 : decode prog_50_method_1_code 1 = .ok (.invokespecial 1, 3) := by decide +kernel
theorem d1_4 : decode prog_50_method_1_code 4 = .ok (.aload_n 0, 1) := by decide +kernel
theorem d1_5 : decode prog_50_method_1_code 5 = .ok (.aload_n 1, 1) := by decide +kernel
theorem d1_6 : decode prog_50_method_1_code 6 = .ok (.putfield 7, 3) := by decide +kernel
theorem d1_9 : decode prog_50_method_1_code 9 = .ok (.aload_n 0, 1) := by decide +kernel
theorem d1_10 : decode prog_50_method_1_code 10 = .ok (.iload_n 2, 1) := by decide +kernel
theorem d1_11 : decode prog_50_method_1_code 11 = .ok (.putfield 13, 3) := by decide +kernel
theorem d1_14 : decode prog_50_method_1_code 14 = .ok (.aload_n 0, 1) := by decide +kernel
theorem d1_15 : decode prog_50_method_1_code 15 = .ok (.iload_n 3, 1) := by decide +kernel
theorem d1_16 : decode prog_50_method_1_code 16 = .ok (.putfield 17, 3) := by decide +kernel
theorem d1_19 : decode prog_50_method_1_code 19 = .ok (.return_, 1) := by decide +kernel
theorem d2_0 : decode object_method_1_code 0 = .ok (.return_, 1) := by decide +kernel
theorem d3_0 : decode prog_50_method_5_code 0 = .ok (.aload_n 0, 1) := by decide +kernel
theorem d3_1 : decode prog_50_method_5_code 1 = .ok (.getfield 13, 3) := by decide +kernel
theorem d3_4 : decode prog_50_method_5_code 4 = .ok (.aload_n 0, 1) := by decide +kernel
theorem d3_5 : decode prog_50_method_5_code 5 = .ok (.getfield 17, 3) := by decide +kernel
theorem d3_8 : decode prog_50_method_5_code 8 = .ok (.if_icmp .ge 14, 3) := by decide +kernel
theorem d3_11 : decode prog_50_method_5_code 11 = .ok (.aload_n 0, 1) := by decide +kernel
theorem d3_12 : decode prog_50_method_5_code 12 = .ok (.getfield 7, 3) := by decide +kernel
theorem d3_15 : decode prog_50_method_5_code 15 = .ok (.aload_n 0, 1) := by decide +kernel
theorem d3_16 : decode prog_50_method_5_code 16 = .ok (.getfield 13, 3) := by decide +kernel
theorem d3_19 : decode prog_50_method_5_code 19 = .ok (.iload_n 1, 1) := by decide +kernel
theorem d3_20 : decode prog_50_method_5_code 20 = .ok (.i2b, 1) := by decide +kernel
theorem d3_21 : decode prog_50_method_5_code 21 = .ok (.bastore, 1) := by decide +kernel
theorem d3_22 : decode prog_50_method_5_code 22 = .ok (.aload_n 0, 1) := by decide +kernel
theorem d3_23 : decode prog_50_method_5_code 23 = .ok (.dup, 1) := by decide +kernel
theorem d3_24 : decode prog_50_method_5_code 24 = .ok (.getfield 13, 3) := by decide +kernel
theorem d3_27 : decode prog_50_method_5_code 27 = .ok (.iconst 1, 1) := by decide +kernel
theorem d3_28 : decode prog_50_method_5_code 28 = .ok (.iadd, 1) := by decide +kernel
theorem d3_29 : decode prog_50_method_5_code 29 = .ok (.putfield 13, 3) := by decide +kernel
theorem d3_32 : decode prog_50_method_5_code 32 = .ok (.return_, 1) := by decide +kernel
theorem d4_0 : decode prog_50_method_2_code 0 = .ok (.aload_n 0, 1) := by decide +kernel
theorem d4_1 : decode prog_50_method_2_code 1 = .ok (.getfield 13, 3) := by decide +kernel
theorem d4_4 : decode prog_50_method_2_code 4 = .ok (.ireturn, 1) := by decide +kernel
theorem d5_0 : decode prog_50_method_4_code 0 = .ok (.aload_n 0, 1) := by decide +kernel
theorem d5_1 : decode prog_50_method_4_code 1 = .ok (.getfield 13, 3) := by decide +kernel
theorem d5_4 : decode prog_50_method_4_code 4 = .ok (.aload_n 0, 1) := by decide +kernel
theorem d5_5 : decode prog_50_method_4_code 5 = .ok (.getfield 17, 3) := by decide +kernel
theorem d5_8 : decode prog_50_method_4_code 8 = .ok (.if_icmp .le 7, 3) := by decide +kernel
theorem d5_11 : decode prog_50_method_4_code 11 = .ok (.iconst 1, 1) := by decide +kernel
theorem d5_12 : decode prog_50_method_4_code 12 = .ok (.goto 4, 3) := by decide +kernel
theorem d5_15 : decode prog_50_method_4_code 15 = .ok (.iconst 0, 1) := by decide +kernel
theorem d5_16 : decode prog_50_method_4_code 16 = .ok (.ireturn, 1) := by decide +kernel
theorem d6_0 : decode method_2_code 0 = .ok (.iload_n 2, 1) := by decide +kernel
theorem d6_1 : decode method_2_code 1 = .ok (.istore 7, 2) := by decide +kernel
theorem d6_3 : decode method_2_code 3 = .ok (.iload_n 1, 1) := by decide +kernel
theorem d6_4 : decode method_2_code 4 = .ok (.iload_n 3, 1) := by decide +kernel
theorem d6_5 : decode method_2_code 5 = .ok (.if_icmp .ne 14, 3) := by decide +kernel
theorem d6_8 : decode method_2_code 8 = .ok (.iload_n 3, 1) := by decide +kernel
theorem d6_9 : decode method_2_code 9 = .ok (.iload 4, 2) := by decide +kernel
theorem d6_11 : decode method_2_code 11 = .ok (.if_icmp .ge 8, 3) := by decide +kernel
theorem d6_14 : decode method_2_code 14 = .ok (.iload 5, 2) := by decide +kernel
theorem d6_16 : decode method_2_code 16 = .ok (.i2b, 1) := by decide +kernel
theorem d6_17 : decode method_2_code 17 = .ok (.istore 7, 2) := by decide +kernel
theorem d6_19 : decode method_2_code 19 = .ok (.iload_n 1, 1) := by decide +kernel
theorem d6_20 : decode method_2_code 20 = .ok (.iload_n 3, 1) := by decide +kernel
theorem d6_21 : decode method_2_code 21 = .ok (.iconst 1, 1) := by decide +kernel
theorem d6_22 : decode method_2_code 22 = .ok (.iadd, 1) := by decide +kernel
theorem d6_23 : decode method_2_code 23 = .ok (.if_icmp .ne 16, 3) := by decide +kernel
theorem d6_26 : decode method_2_code 26 = .ok (.iload_n 3, 1) := by decide +kernel
theorem d6_27 : decode method_2_code 27 = .ok (.iconst 1, 1) := by decide +kernel
theorem d6_28 : decode method_2_code 28 = .ok (.iadd, 1) := by decide +kernel
theorem d6_29 : decode method_2_code 29 = .ok (.iload 4, 2) := by decide +kernel
theorem d6_31 : decode method_2_code 31 = .ok (.if_icmp .ge 8, 3) := by decide +kernel
theorem d6_34 : decode method_2_code 34 = .ok (.iload 6, 2) := by decide +kernel
theorem d6_36 : decode method_2_code 36 = .ok (.i2b, 1) := by decide +kernel
theorem d6_37 : decode method_2_code 37 = .ok (.istore 7, 2) := by decide +kernel
theorem d6_39 : decode method_2_code 39 = .ok (.aload_n 0, 1) := by decide +kernel
theorem d6_40 : decode method_2_code 40 = .ok (.iload_n 1, 1) := by decide +kernel
theorem d6_41 : decode method_2_code 41 = .ok (.baload, 1) := by decide +kernel
theorem d6_42 : decode method_2_code 42 = .ok (.iload 7, 2) := by decide +kernel
theorem d6_44 : decode method_2_code 44 = .ok (.if_icmp .ne 7, 3) := by decide +kernel
theorem d6_47 : decode method_2_code 47 = .ok (.iconst 1, 1) := by decide +kernel
theorem d6_48 : decode method_2_code 48 = .ok (.goto 4, 3) := by decide +kernel
theorem d6_51 : decode method_2_code 51 = .ok (.iconst 0, 1) := by decide +kernel
theorem d6_52 : decode method_2_code 52 = .ok (.ireturn, 1) := by decide +kernel
theorem own_and63 (y : Int32) : (y.toInt64 &&& 63).toBitVec = BitVec.ofNat 64 (y.toBitVec.toNat % 64) := by
  apply BitVec.eq_of_getLsbD_eq
  intro i hi
  have h63 : (63 : Int64).toBitVec = BitVec.ofNat 64 (2 ^ 6 - 1) := by decide
  have hm : (y.toBitVec.toNat % 64) = y.toBitVec.toNat % 2 ^ 6 := rfl
  rw [Int64.toBitVec_and, Int32.toBitVec_toInt64, BitVec.getLsbD_and, BitVec.getLsbD_signExtend, h63, BitVec.getLsbD_ofNat, Nat.testBit_two_pow_sub_one, BitVec.getLsbD_ofNat, hm, Nat.testBit_mod_two_pow]
  by_cases h6 : i < 6
  · have h32 : i < 32 := by omega
    simp [hi, h6, h32, BitVec.getLsbD]
  · simp [h6]
theorem bv_lshl (x : Int64) (y : Int32) : (x <<< (y.toInt64 &&& 63)).toBitVec = x.toBitVec <<< (y.toBitVec.toNat % 64) := by
  show x.toBitVec <<< ((y.toInt64 &&& 63).toBitVec.smod 64) = _
  rw [BitVec.shiftLeft_eq', own_and63, smod64 _ (Nat.mod_lt _ (by decide))]
theorem bv_lshr (x : Int64) (y : Int32) : (x >>> (y.toInt64 &&& 63)).toBitVec = x.toBitVec.sshiftRight (y.toBitVec.toNat % 64) := by
  show x.toBitVec.sshiftRight' ((y.toInt64 &&& 63).toBitVec.smod 64) = _
  rw [BitVec.sshiftRight_eq', own_and63, smod64 _ (Nat.mod_lt _ (by decide))]
theorem bv_lushr (x : Int64) (y : Int32) : (XT.ushrL x y).toBitVec = x.toBitVec >>> (y.toBitVec.toNat % 64) := by
  show x.toBitVec >>> ((y.toInt64 &&& 63).toBitVec % 64) = _
  rw [BitVec.ushiftRight_eq', own_and63, BitVec.toNat_umod, BitVec.toNat_ofNat]
  congr 1
  show y.toBitVec.toNat % 64 % 2 ^ 64 % 64 = _
  omega
theorem bv_ishl (x y : Int32) : (x <<< (y &&& 31)).toBitVec = x.toBitVec <<< (y.toBitVec.toNat % 32) := by
  show x.toBitVec <<< ((y &&& 31).toBitVec.smod 32) = _
  rw [BitVec.shiftLeft_eq', sm32 y _ rfl]
theorem bv_ishr (x y : Int32) : (x >>> (y &&& 31)).toBitVec = x.toBitVec.sshiftRight (y.toBitVec.toNat % 32) := by
  show x.toBitVec.sshiftRight' ((y &&& 31).toBitVec.smod 32) = _
  rw [BitVec.sshiftRight_eq', sm32 y _ rfl]
theorem bv_iushr (x y : Int32) : (XT.ushr x y).toBitVec = x.toBitVec >>> (y.toBitVec.toNat % 32) := by
  show x.toBitVec >>> ((y &&& 31).toBitVec % 32) = _
  have h1 : (y &&& 31).toBitVec.toNat = y.toBitVec.toNat % 32 := by
    show (y.toBitVec &&& (31 : Int32).toBitVec).toNat = _
    rw [BitVec.toNat_and, show (31 : Int32).toBitVec.toNat = 2 ^ 5 - 1 from by decide, Nat.and_two_pow_sub_one_eq_mod]
  rw [BitVec.ushiftRight_eq', BitVec.toNat_umod, h1]
  congr 1
  show y.toBitVec.toNat % 32 % 32 = _
  omega
theorem u64 (x : Int64) : (x.toBitVec.toNat : Int) = x.toInt % 18446744073709551616 := by
  have h := x.toBitVec.isLt
  show _ = x.toBitVec.toInt % _
  rw [BitVec.toInt_eq_toNat_cond]; split <;> omega
theorem u32 (x : Int32) : (x.toBitVec.toNat : Int) = x.toInt % 4294967296 := by
  have h := x.toBitVec.isLt
  show _ = x.toBitVec.toInt % _
  rw [BitVec.toInt_eq_toNat_cond]; split <;> omega
theorem i64 (x : Int64) : x.toInt = if x.toBitVec.toNat < 9223372036854775808 then (x.toBitVec.toNat : Int) else (x.toBitVec.toNat : Int) - 18446744073709551616 := by
  have h := x.toBitVec.isLt
  show x.toBitVec.toInt = _
  rw [BitVec.toInt_eq_toNat_cond]; split <;> split <;> omega
/-- a logical shift by a known count, as a number -/
theorem n_lushr (x : Int64) (y : Int32) (k : Nat) (hk : y.toBitVec.toNat % 64 = k) : (XT.ushrL x y).toBitVec.toNat = x.toBitVec.toNat / 2 ^ k := by
  rw [bv_lushr, hk, BitVec.toNat_ushiftRight, Nat.shiftRight_eq_div_pow]
theorem n_iushr (x y : Int32) (k : Nat) (hk : y.toBitVec.toNat % 32 = k) : (XT.ushr x y).toBitVec.toNat = x.toBitVec.toNat / 2 ^ k := by
  rw [bv_iushr, hk, BitVec.toNat_ushiftRight, Nat.shiftRight_eq_div_pow]
theorem nn32 (y : Int32) (h : 0 ≤ y.toInt) : y.toBitVec.toNat = y.toInt.toNat := by
  have h1 := u32 y
  have := y.toInt_lt
  omega
theorem nn64 (y : Int64) (h : 0 ≤ y.toInt) : y.toBitVec.toNat = y.toInt.toNat := by
  have h1 := u64 y
  have := y.toInt_lt
  omega
theorem own_mask (y : Int32) (hy : 0 ≤ y.toInt ∧ y.toInt < 64) (K : Nat) (hK : K < 64) : (((1 : Int64) <<< (y.toInt64 &&& 63)) - 1).toBitVec.getLsbD K = decide (K < y.toInt.toNat) := by
  have hW : y.toBitVec.toNat % 64 = y.toInt.toNat := by rw [nn32 y hy.1]; omega
  rw [Int64.toBitVec_sub, bv_lshl, hW]
  have h2 : y.toInt.toNat < 64 := by omega
  generalize y.toInt.toNat = W at *
  have e : (1 : Int64).toBitVec <<< W - (1 : Int64).toBitVec = BitVec.ofNat 64 (2 ^ W - 1) := by
    apply BitVec.eq_of_toNat_eq
    have p1 : 2 ^ W < 2 ^ 64 := Nat.pow_lt_pow_right (by decide) h2
    have p2 : 0 < 2 ^ W := Nat.two_pow_pos W
    rw [BitVec.toNat_sub, BitVec.toNat_shiftLeft, Nat.shiftLeft_eq, BitVec.toNat_ofNat, show (1 : Int64).toBitVec.toNat = 1 from by decide, Nat.one_mul]
    generalize 2 ^ W = P at *
    omega
  rw [e, BitVec.getLsbD_ofNat, Nat.testBit_two_pow_sub_one]
  simp [hK]
theorem own_bit (x : Int64) (y : Int32) : (XT.ushrL x y &&& (1 : Int64)) = if x.toBitVec.getLsbD (y.toBitVec.toNat % 64) then 1 else 0 := by
  apply Int64.toBitVec_inj.mp
  apply BitVec.eq_of_getLsbD_eq
  intro i hi
  rw [Int64.toBitVec_and, bv_lushr, BitVec.getLsbD_and, BitVec.getLsbD_ushiftRight]
  generalize y.toBitVec.toNat % 64 = k
  have h1 : (1 : Int64).toBitVec.getLsbD i = decide (i = 0) := by
    show (1#64).getLsbD i = _
    rw [BitVec.getLsbD_one]; simp
  rw [h1]
  by_cases q : i = 0
  · subst q
    cases h : x.toBitVec.getLsbD k <;> simp [h]
  · cases h : x.toBitVec.getLsbD k
    · simp [q]
    · simp [q, h1]

def rdI (xs : List Int32) (j : Int32) : Int32 := xs.getD j.toNatClampNeg 0
theorem rdI_some {xs : List Int32} {j : Int32} (h : j.toNatClampNeg < xs.length) : xs[j.toNatClampNeg]? = some (rdI xs j) := by
  simp [rdI, List.getD, h]
set_option maxRecDepth 65536 in
set_option maxHeartbeats 40000000 in
theorem rm_init (l : Launch) (Z : State) (a0 : Array Value) (hw : ∀ d ∈ tables_1, d.before a0 Z = true) (o : Addr) (ar : Addr) (ps : Int32) (lm : Int32) (h0 : Heap) (n0 : Nat) (Z0 : n0 ≤ h0.size)  (E_o : Exa Z h0 o "com/example/batchwright/batchwright/wire/BoundedOutput") (g_o : n0 ≤ o) (F_o_array : Fld Z h0 o "com/example/batchwright/batchwright/wire/BoundedOutput" "array" "[B" .null) (F_o_position : Fld Z h0 o "com/example/batchwright/batchwright/wire/BoundedOutput" "position" "I" (.int (0 : Int32))) (F_o_limit : Fld Z h0 o "com/example/batchwright/batchwright/wire/BoundedOutput" "limit" "I" (.int (0 : Int32)))  :
    Meets l (⟨"com/example/batchwright/batchwright/wire/BoundedOutput", "<init>", "([BII)V"⟩ : MethodName) prog_50_method_1_code 4 none ({ frames := 1, cells := 0, slots := 0, locals := 12 } : Room) Z #[(.ref o), (.ref ar), (.int ps), (.int lm)] h0 n0 (fun v h => v = none ∧ Keep h0 h [o] ∧ Exa Z h o "com/example/batchwright/batchwright/wire/BoundedOutput" ∧ Fld Z h o "com/example/batchwright/batchwright/wire/BoundedOutput" "array" "[B" (.ref ar) ∧ Fld Z h o "com/example/batchwright/batchwright/wire/BoundedOutput" "position" "I" (.int ps) ∧ Fld Z h o "com/example/batchwright/batchwright/wire/BoundedOutput" "limit" "I" (.int lm)) := by
  refine meets_of (plainFor_of_name pn0) (Ls := #[.val (.ref o), .val (.ref ar), .val (.int ps), .val (.int lm)]) (fun m => by first | (simp [entryFrame, mkF, argsToLocals, Value.category]; done) | rfl) ?_
  intro p e s m below meth c K
  replace K : Kx Z "com/example/batchwright/batchwright/wire/BoundedOutput" "<init>" prog_50_method_1_code 4 none p s m meth c := K
  obtain ⟨Q, hQ⟩ : ∃ Q : Option Value → Heap → Prop, Q = (fun v h => v = none ∧ Keep h0 h [o] ∧ Exa Z h o "com/example/batchwright/batchwright/wire/BoundedOutput" ∧ Fld Z h o "com/example/batchwright/batchwright/wire/BoundedOutput" "array" "[B" (.ref ar) ∧ Fld Z h o "com/example/batchwright/batchwright/wire/BoundedOutput" "position" "I" (.int ps) ∧ Fld Z h o "com/example/batchwright/batchwright/wire/BoundedOutput" "limit" "I" (.int lm)) := ⟨_, rfl⟩
  rw [← hQ]
  have KC0 := Keep.refl h0 [o]
  refine g_aloadN K 0 d1_0 rfl rfl ?_
  refine g_initO K 1 d1_1 (tw hw 8 rfl) (tw hw 9 rfl) (tw hw 10 rfl) rfl (by decide) 0 (Nat.le_of_eq rfl) (by decide) ?_
  refine g_aloadN K 4 d1_4 rfl rfl ?_
  refine g_aloadN K 5 d1_5 rfl rfl ?_
  refine g_putfield K 6 (.array .byte) d1_6 (tw hw 11 rfl) F_o_array E_o (Or.inr ⟨(tw hw 12 rfl), rfl, rfl⟩) (tw hw 3 rfl) (by decide) (rfl) (rfl) g_o ?_
  intro h1 W2 Kp3
  have F4 := F_o_array.same W2
  have F5 := F_o_position.other W2 (Or.inr (slot_ne (C := "com/example/batchwright/batchwright/wire/BoundedOutput") (Or.inl (tw hw 14 rfl)) (Or.inr (tw hw 12 rfl)) (by decide) (t := .int) (t' := (.array .byte)) (by decide) (by decide)))
  have F6 := F_o_limit.other W2 (Or.inr (slot_ne (C := "com/example/batchwright/batchwright/wire/BoundedOutput") (Or.inr (tw hw 16 rfl)) (Or.inr (tw hw 12 rfl)) (by decide) (t := .int) (t' := (.array .byte)) (by decide) (by decide)))
  have E7 := E_o.keep Kp3
  have KC8 := KC0.trans Kp3 (allS (Or.inl (by simp)) all0)
  have Z9 := Nat.le_trans Z0 Kp3.1
  refine g_aloadN K 9 d1_9 rfl rfl ?_
  refine g_iloadN K 10 d1_10 rfl ?_
  refine g_putfield K 11 .int d1_11 (tw hw 13 rfl) F5 E7 (Or.inl (tw hw 14 rfl)) (tw hw 3 rfl) (by decide) (rfl) (rfl) g_o ?_
  intro h10 W11 Kp12
  have F13 := F5.same W11
  have F14 := F6.other W11 (Or.inr (slot_ne (C := "com/example/batchwright/batchwright/wire/BoundedOutput") (Or.inr (tw hw 16 rfl)) (Or.inl (tw hw 14 rfl)) (by decide) (t := .int) (t' := .int) (by decide) (by decide)))
  have F15 := F4.other W11 (Or.inr (slot_ne (C := "com/example/batchwright/batchwright/wire/BoundedOutput") (Or.inr (tw hw 12 rfl)) (Or.inl (tw hw 14 rfl)) (by decide) (t := (.array .byte)) (t' := .int) (by decide) (by decide)))
  have E16 := E7.keep Kp12
  have KC17 := KC8.trans Kp12 (allS (Or.inl (by simp)) all0)
  have Z18 := Nat.le_trans Z9 Kp12.1
  refine g_aloadN K 14 d1_14 rfl rfl ?_
  refine g_iloadN K 15 d1_15 rfl ?_
  refine g_putfield K 16 .int d1_16 (tw hw 15 rfl) F14 E16 (Or.inr ⟨(tw hw 16 rfl), rfl, rfl⟩) (tw hw 3 rfl) (by decide) (rfl) (rfl) g_o ?_
  intro h19 W20 Kp21
  have F22 := F14.same W20
  have F23 := F15.other W20 (Or.inr (slot_ne (C := "com/example/batchwright/batchwright/wire/BoundedOutput") (Or.inr (tw hw 12 rfl)) (Or.inr (tw hw 16 rfl)) (by decide) (t := (.array .byte)) (t' := .int) (by decide) (by decide)))
  have F24 := F13.other W20 (Or.inr (slot_ne (C := "com/example/batchwright/batchwright/wire/BoundedOutput") (Or.inl (tw hw 14 rfl)) (Or.inr (tw hw 16 rfl)) (by decide) (t := .int) (t' := .int) (by decide) (by decide)))
  have E25 := E16.keep Kp21
  have KC26 := KC17.trans Kp21 (allS (Or.inl (by simp)) all0)
  have Z27 := Nat.le_trans Z18 Kp21.1
  refine g_return K 19 d1_19 rfl (by decide) (by decide) ?_
  rw [hQ]
  exact ⟨rfl, KC26, E25, F23, F24, F22⟩
def f_put_position (ps : Int32) (lm : Int32) (xs : List Int32) (w : Int32) : Int32 := if ps < lm then (ps + (1 : Int32)) else (ps + (1 : Int32))
def f_put_ar (ps : Int32) (lm : Int32) (xs : List Int32) (w : Int32) : List Int32 := if ps < lm then (xs.set ps.toNatClampNeg (nar .byte w.toInt8.toInt32)) else xs
set_option maxRecDepth 65536 in
set_option maxHeartbeats 40000000 in
theorem rm_put (l : Launch) (Z : State) (a0 : Array Value) (hw : ∀ d ∈ tables_1, d.before a0 Z = true) (o : Addr) (w : Int32) (h0 : Heap) (n0 : Nat) (Z0 : n0 ≤ h0.size) (ar : Addr) (ps : Int32) (lm : Int32) (xs : List Int32) (E_o : Exa Z h0 o "com/example/batchwright/batchwright/wire/BoundedOutput") (g_o : n0 ≤ o) (F_o_array : Fld Z h0 o "com/example/batchwright/batchwright/wire/BoundedOutput" "array" "[B" (.ref ar)) (F_o_position : Fld Z h0 o "com/example/batchwright/batchwright/wire/BoundedOutput" "position" "I" (.int ps)) (F_o_limit : Fld Z h0 o "com/example/batchwright/batchwright/wire/BoundedOutput" "limit" "I" (.int lm)) (A_ar : IA Z h0 ar .byte xs) (g_ar : n0 ≤ ar) (ne_o_ar : o ≠ ar) (hin : ps < lm → ¬ ps < 0 ∧ ps.toNatClampNeg < xs.length) :
    Meets l (⟨"com/example/batchwright/batchwright/wire/BoundedOutput", "put", "(I)V"⟩ : MethodName) prog_50_method_5_code 2 none ({ frames := 0, cells := 0, slots := 0, locals := 0 } : Room) Z #[(.ref o), (.int w)] h0 n0 (fun v h => v = none ∧ Keep h0 h [o, ar] ∧ Exa Z h o "com/example/batchwright/batchwright/wire/BoundedOutput" ∧ Fld Z h o "com/example/batchwright/batchwright/wire/BoundedOutput" "array" "[B" (.ref ar) ∧ Fld Z h o "com/example/batchwright/batchwright/wire/BoundedOutput" "position" "I" (Value.int (f_put_position ps lm xs w)) ∧ Fld Z h o "com/example/batchwright/batchwright/wire/BoundedOutput" "limit" "I" (.int lm) ∧ IA Z h ar .byte (f_put_ar ps lm xs w)) := by
  refine meets_of (plainFor_of_name pn0) (Ls := #[.val (.ref o), .val (.int w)]) (fun m => by first | (simp [entryFrame, mkF, argsToLocals, Value.category]; done) | rfl) ?_
  intro p e s m below meth c K
  replace K : Kx Z "com/example/batchwright/batchwright/wire/BoundedOutput" "put" prog_50_method_5_code 2 none p s m meth c := K
  obtain ⟨Q, hQ⟩ : ∃ Q : Option Value → Heap → Prop, Q = (fun v h => v = none ∧ Keep h0 h [o, ar] ∧ Exa Z h o "com/example/batchwright/batchwright/wire/BoundedOutput" ∧ Fld Z h o "com/example/batchwright/batchwright/wire/BoundedOutput" "array" "[B" (.ref ar) ∧ Fld Z h o "com/example/batchwright/batchwright/wire/BoundedOutput" "position" "I" (Value.int (f_put_position ps lm xs w)) ∧ Fld Z h o "com/example/batchwright/batchwright/wire/BoundedOutput" "limit" "I" (.int lm) ∧ IA Z h ar .byte (f_put_ar ps lm xs w)) := ⟨_, rfl⟩
  rw [← hQ]
  have KC0 := Keep.refl h0 [o, ar]
  refine g_aloadN K 0 d3_0 rfl rfl ?_
  refine g_getfield K 1 d3_1 (tw hw 13 rfl) F_o_position ?_
  refine g_aloadN K 4 d3_4 rfl rfl ?_
  refine g_getfield K 5 d3_5 (tw hw 15 rfl) F_o_limit ?_
  refine g_ii_ge K 8 22 d3_8 (by decide) (by decide) ?_ ?_
  · intro c1
    refine g_aloadN K 22 d3_22 rfl rfl ?_
    refine g_dup K 23 d3_23 rfl ?_
    refine g_getfield K 24 d3_24 (tw hw 13 rfl) F_o_position ?_
    refine g_iconst K 27 (1 : Int32) d3_27 (by decide) ?_
    refine g_iadd K 28 d3_28 ?_
    refine g_putfield K 29 .int d3_29 (tw hw 13 rfl) F_o_position E_o (Or.inl (tw hw 14 rfl)) (tw hw 3 rfl) (by decide) (rfl) (rfl) g_o ?_
    intro h2 W3 Kp4
    have F5 := F_o_position.same W3
    have F6 := F_o_array.other W3 (Or.inr (slot_ne (C := "com/example/batchwright/batchwright/wire/BoundedOutput") (Or.inr (tw hw 12 rfl)) (Or.inl (tw hw 14 rfl)) (by decide) (t := (.array .byte)) (t' := .int) (by decide) (by decide)))
    have F7 := F_o_limit.other W3 (Or.inr (slot_ne (C := "com/example/batchwright/batchwright/wire/BoundedOutput") (Or.inr (tw hw 16 rfl)) (Or.inl (tw hw 14 rfl)) (by decide) (t := .int) (t' := .int) (by decide) (by decide)))
    have E8 := E_o.keep Kp4
    have F9 := A_ar.keep Kp4 (ninS ne_o_ar.symm nin0)
    have KC10 := KC0.trans Kp4 (allS (Or.inl (by simp)) all0)
    have Z11 := Nat.le_trans Z0 Kp4.1
    refine g_return K 32 d3_32 rfl (by decide) (by decide) ?_
    rw [hQ]
    exact ⟨rfl, KC10, E8, F6, (show Fld Z h2 o "com/example/batchwright/batchwright/wire/BoundedOutput" "position" "I" (Value.int (f_put_position ps lm xs w)) from by unfold f_put_position; rw [if_neg c1]; exact F5), F7, (show IA Z h2 ar .byte (f_put_ar ps lm xs w) from by unfold f_put_ar; rw [if_neg c1]; exact F9)⟩
  · intro c1
    refine g_aloadN K 11 d3_11 rfl rfl ?_
    refine g_getfield K 12 d3_12 (tw hw 11 rfl) F_o_array ?_
    refine g_aloadN K 15 d3_15 rfl rfl ?_
    refine g_getfield K 16 d3_16 (tw hw 13 rfl) F_o_position ?_
    refine g_iloadN K 19 d3_19 rfl ?_
    refine g_i2b K 20 d3_20 ?_
    refine g_bastore K 21 d3_21 A_ar ((hin c1).1) ((hin c1).2) g_ar ?_
    intro h12 Kp13 A14
    have E15 := E_o.keep Kp13
    have F16 := F_o_array.keep Kp13 (ninS ne_o_ar nin0)
    have F17 := F_o_position.keep Kp13 (ninS ne_o_ar nin0)
    have F18 := F_o_limit.keep Kp13 (ninS ne_o_ar nin0)
    have KC19 := KC0.trans Kp13 (allS (Or.inl (by simp)) all0)
    have Z20 := Nat.le_trans Z0 Kp13.1
    refine g_aloadN K 22 d3_22 rfl rfl ?_
    refine g_dup K 23 d3_23 rfl ?_
    refine g_getfield K 24 d3_24 (tw hw 13 rfl) F17 ?_
    refine g_iconst K 27 (1 : Int32) d3_27 (by decide) ?_
    refine g_iadd K 28 d3_28 ?_
    refine g_putfield K 29 .int d3_29 (tw hw 13 rfl) F17 E15 (Or.inl (tw hw 14 rfl)) (tw hw 3 rfl) (by decide) (rfl) (rfl) g_o ?_
    intro h21 W22 Kp23
    have F24 := F17.same W22
    have F25 := F16.other W22 (Or.inr (slot_ne (C := "com/example/batchwright/batchwright/wire/BoundedOutput") (Or.inr (tw hw 12 rfl)) (Or.inl (tw hw 14 rfl)) (by decide) (t := (.array .byte)) (t' := .int) (by decide) (by decide)))
    have F26 := F18.other W22 (Or.inr (slot_ne (C := "com/example/batchwright/batchwright/wire/BoundedOutput") (Or.inr (tw hw 16 rfl)) (Or.inl (tw hw 14 rfl)) (by decide) (t := .int) (t' := .int) (by decide) (by decide)))
    have E27 := E15.keep Kp23
    have KC28 := KC19.trans Kp23 (allS (Or.inl (by simp)) all0)
    have Z29 := Nat.le_trans Z20 Kp23.1
    have F30 := A14.keep Kp23 (ninS ne_o_ar.symm nin0)
    refine g_return K 32 d3_32 rfl (by decide) (by decide) ?_
    rw [hQ]
    exact ⟨rfl, KC28, E27, F25, (show Fld Z h21 o "com/example/batchwright/batchwright/wire/BoundedOutput" "position" "I" (Value.int (f_put_position ps lm xs w)) from by unfold f_put_position; rw [if_pos c1]; exact F24), F26, (show IA Z h21 ar .byte (f_put_ar ps lm xs w) from by unfold f_put_ar; rw [if_pos c1]; exact F30)⟩
def f_pos (ps : Int32) : Int32 := ps
set_option maxRecDepth 65536 in
set_option maxHeartbeats 40000000 in
theorem rm_pos (l : Launch) (Z : State) (a0 : Array Value) (hw : ∀ d ∈ tables_1, d.before a0 Z = true) (o : Addr) (h0 : Heap) (n0 : Nat) (Z0 : n0 ≤ h0.size) (ps : Int32) (F0 : Fld Z h0 o "com/example/batchwright/batchwright/wire/BoundedOutput" "position" "I" (.int ps)) :
    Meets l (⟨"com/example/batchwright/batchwright/wire/BoundedOutput", "position", "()I"⟩ : MethodName) prog_50_method_2_code 1 (some .int) ({ frames := 0, cells := 0, slots := 0, locals := 0 } : Room) Z #[(.ref o)] h0 n0 (fun v h => v = some (Value.int (f_pos ps)) ∧ h = h0) := by
  refine meets_of (plainFor_of_name pn0) (Ls := #[.val (.ref o)]) (fun m => by first | (simp [entryFrame, mkF, argsToLocals, Value.category]; done) | rfl) ?_
  intro p e s m below meth c K
  replace K : Kx Z "com/example/batchwright/batchwright/wire/BoundedOutput" "position" prog_50_method_2_code 1 (some .int) p s m meth c := K
  obtain ⟨Q, hQ⟩ : ∃ Q : Option Value → Heap → Prop, Q = (fun v h => v = some (Value.int (f_pos ps)) ∧ h = h0) := ⟨_, rfl⟩
  rw [← hQ]
  refine g_aloadN K 0 d4_0 rfl rfl ?_
  refine g_getfield K 1 d4_1 (tw hw 13 rfl) F0 ?_
  refine g_ireturn K 4 d4_4 rfl (by decide) (by decide) ?_
  rw [hQ]
  refine ⟨?_, rfl⟩
  show some (Value.int _) = some (Value.int (f_pos ps))
  unfold f_pos
  rfl
def f_ovf (ps : Int32) (lm : Int32) : Int32 := nar .boolean (if lm < ps then (1 : Int32) else (0 : Int32))
set_option maxRecDepth 65536 in
set_option maxHeartbeats 40000000 in
theorem rm_ovf (l : Launch) (Z : State) (a0 : Array Value) (hw : ∀ d ∈ tables_1, d.before a0 Z = true) (o : Addr) (h0 : Heap) (n0 : Nat) (Z0 : n0 ≤ h0.size) (ps : Int32) (lm : Int32) (F0 : Fld Z h0 o "com/example/batchwright/batchwright/wire/BoundedOutput" "position" "I" (.int ps)) (F1 : Fld Z h0 o "com/example/batchwright/batchwright/wire/BoundedOutput" "limit" "I" (.int lm)) :
    Meets l (⟨"com/example/batchwright/batchwright/wire/BoundedOutput", "overflowed", "()Z"⟩ : MethodName) prog_50_method_4_code 1 (some .boolean) ({ frames := 0, cells := 0, slots := 0, locals := 0 } : Room) Z #[(.ref o)] h0 n0 (fun v h => v = some (Value.int (f_ovf ps lm)) ∧ h = h0) := by
  refine meets_of (plainFor_of_name pn0) (Ls := #[.val (.ref o)]) (fun m => by first | (simp [entryFrame, mkF, argsToLocals, Value.category]; done) | rfl) ?_
  intro p e s m below meth c K
  replace K : Kx Z "com/example/batchwright/batchwright/wire/BoundedOutput" "overflowed" prog_50_method_4_code 1 (some .boolean) p s m meth c := K
  obtain ⟨Q, hQ⟩ : ∃ Q : Option Value → Heap → Prop, Q = (fun v h => v = some (Value.int (f_ovf ps lm)) ∧ h = h0) := ⟨_, rfl⟩
  rw [← hQ]
  refine g_aloadN K 0 d5_0 rfl rfl ?_
  refine g_getfield K 1 d5_1 (tw hw 13 rfl) F0 ?_
  refine g_aloadN K 4 d5_4 rfl rfl ?_
  refine g_getfield K 5 d5_5 (tw hw 15 rfl) F1 ?_
  have J2 : ∀ (z1 : Int32), z1 = (if lm < ps then (1 : Int32) else (0 : Int32)) → Go p l e ({ frames := 0, cells := 0, slots := 0, locals := 0 } : Room) s m #[(.ref o)] below meth c n0 Q h0 0 0 (mkF m 16 #[.val (.ref o)] [(.int z1)]) := by
    intro z1 hz1
    subst hz1
    refine g_retN K 16 .boolean d5_16 rfl (by simp) (by decide) (by decide) ?_
    rw [hQ]
    refine ⟨?_, rfl⟩
    show some (Value.int _) = some (Value.int (f_ovf ps lm))
    unfold f_ovf
    rfl
  refine g_ii_le K 8 15 d5_8 (by decide) (by decide) ?_ ?_
  · intro c3
    refine g_iconst K 15 (0 : Int32) d5_15 (by decide) ?_
    exact J2 _ (by rw [if_neg c3])
  · intro c3
    refine g_iconst K 11 (1 : Int32) d5_11 (by decide) ?_
    refine g_goto K 12 16 d5_12 (by decide) (by decide) ?_
    exact J2 _ (by rw [if_pos c3])
def f_cell (xs : List Int32) (ix : Int32) (ini : Int32) (start : Int32) (limit : Int32) (v1 : Int32) (v2 : Int32) : Int32 := nar .boolean (if (rdI xs ix) = (if ix = (start + (1 : Int32)) then (if (start + (1 : Int32)) < limit then v2.toInt8.toInt32 else (if ix = start then (if start < limit then v1.toInt8.toInt32 else ini) else ini)) else (if ix = start then (if start < limit then v1.toInt8.toInt32 else ini) else ini)) then (1 : Int32) else (0 : Int32))
set_option maxRecDepth 65536 in
set_option maxHeartbeats 40000000 in
theorem rm_cell (l : Launch) (Z : State) (a0 : Array Value) (hw : ∀ d ∈ tables_1, d.before a0 Z = true) (ar : Addr) (ix : Int32) (ini : Int32) (start : Int32) (limit : Int32) (v1 : Int32) (v2 : Int32) (h0 : Heap) (n0 : Nat) (Z0 : n0 ≤ h0.size) (xs : List Int32) (A0 : IA Z h0 ar .byte xs) (hj : ¬ ix < 0 ∧ ix.toNatClampNeg < xs.length) :
    Meets l (⟨"com/example/batchwright/batchwright/wire/BoundedOutputPutPinLaw", "cell", "([BIBIIII)Z"⟩ : MethodName) method_2_code 8 (some .boolean) ({ frames := 0, cells := 0, slots := 0, locals := 0 } : Room) Z #[(.ref ar), (.int ix), (.int ini), (.int start), (.int limit), (.int v1), (.int v2)] h0 n0 (fun v h => v = some (Value.int (f_cell xs ix ini start limit v1 v2)) ∧ h = h0) := by
  refine meets_of (plainFor_of_name pn1) (Ls := #[.val (.ref ar), .val (.int ix), .val (.int ini), .val (.int start), .val (.int limit), .val (.int v1), .val (.int v2), .unset]) (fun m => by first | (simp [entryFrame, mkF, argsToLocals, Value.category]; done) | rfl) ?_
  intro p e s m below meth c K
  replace K : Kx Z "com/example/batchwright/batchwright/wire/BoundedOutputPutPinLaw" "cell" method_2_code 8 (some .boolean) p s m meth c := K
  obtain ⟨Q, hQ⟩ : ∃ Q : Option Value → Heap → Prop, Q = (fun v h => v = some (Value.int (f_cell xs ix ini start limit v1 v2)) ∧ h = h0) := ⟨_, rfl⟩
  rw [← hQ]
  refine g_iloadN K 0 d6_0 rfl ?_
  refine g_istore K 1 #[.val (.ref ar), .val (.int ix), .val (.int ini), .val (.int start), .val (.int limit), .val (.int v1), .val (.int v2), .val (.int ini)] d6_1 rfl ?_
  refine g_iloadN K 3 d6_3 rfl ?_
  refine g_iloadN K 4 d6_4 rfl ?_
  have J2 : ∀ (z1 : Int32), z1 = (if ix = start then (if start < limit then v1.toInt8.toInt32 else ini) else ini) → Go p l e ({ frames := 0, cells := 0, slots := 0, locals := 0 } : Room) s m #[(.ref ar), (.int ix), (.int ini), (.int start), (.int limit), (.int v1), (.int v2)] below meth c n0 Q h0 0 0 (mkF m 19 #[.val (.ref ar), .val (.int ix), .val (.int ini), .val (.int start), .val (.int limit), .val (.int v1), .val (.int v2), .val (.int z1)] []) := by
    intro z1 hz1
    subst hz1
    refine g_iloadN K 19 d6_19 rfl ?_
    refine g_iloadN K 20 d6_20 rfl ?_
    refine g_iconst K 21 (1 : Int32) d6_21 (by decide) ?_
    refine g_iadd K 22 d6_22 ?_
    have J4 : ∀ (z3 : Int32), z3 = (if ix = (start + (1 : Int32)) then (if (start + (1 : Int32)) < limit then v2.toInt8.toInt32 else (if ix = start then (if start < limit then v1.toInt8.toInt32 else ini) else ini)) else (if ix = start then (if start < limit then v1.toInt8.toInt32 else ini) else ini)) → Go p l e ({ frames := 0, cells := 0, slots := 0, locals := 0 } : Room) s m #[(.ref ar), (.int ix), (.int ini), (.int start), (.int limit), (.int v1), (.int v2)] below meth c n0 Q h0 0 0 (mkF m 39 #[.val (.ref ar), .val (.int ix), .val (.int ini), .val (.int start), .val (.int limit), .val (.int v1), .val (.int v2), .val (.int z3)] []) := by
      intro z3 hz3
      subst hz3
      refine g_aloadN K 39 d6_39 rfl rfl ?_
      refine g_iloadN K 40 d6_40 rfl ?_
      refine g_baload K 41 (rdI xs ix) d6_41 A0 (hj.1) (rdI_some hj.2) ?_
      refine g_iload K 42 d6_42 rfl ?_
      have J6 : ∀ (z5 : Int32), z5 = (if (rdI xs ix) = (if ix = (start + (1 : Int32)) then (if (start + (1 : Int32)) < limit then v2.toInt8.toInt32 else (if ix = start then (if start < limit then v1.toInt8.toInt32 else ini) else ini)) else (if ix = start then (if start < limit then v1.toInt8.toInt32 else ini) else ini)) then (1 : Int32) else (0 : Int32)) → Go p l e ({ frames := 0, cells := 0, slots := 0, locals := 0 } : Room) s m #[(.ref ar), (.int ix), (.int ini), (.int start), (.int limit), (.int v1), (.int v2)] below meth c n0 Q h0 0 0 (mkF m 52 #[.val (.ref ar), .val (.int ix), .val (.int ini), .val (.int start), .val (.int limit), .val (.int v1), .val (.int v2), .val (.int (if ix = (start + (1 : Int32)) then (if (start + (1 : Int32)) < limit then v2.toInt8.toInt32 else (if ix = start then (if start < limit then v1.toInt8.toInt32 else ini) else ini)) else (if ix = start then (if start < limit then v1.toInt8.toInt32 else ini) else ini)))] [(.int z5)]) := by
        intro z5 hz5
        subst hz5
        refine g_retN K 52 .boolean d6_52 rfl (by simp) (by decide) (by decide) ?_
        rw [hQ]
        refine ⟨?_, rfl⟩
        show some (Value.int _) = some (Value.int (f_cell xs ix ini start limit v1 v2))
        unfold f_cell
        rfl
      refine g_ii_ne K 44 51 d6_44 (by decide) (by decide) ?_ ?_
      · intro c7
        refine g_iconst K 51 (0 : Int32) d6_51 (by decide) ?_
        exact J6 _ (by rw [if_neg c7])
      · intro c7
        refine g_iconst K 47 (1 : Int32) d6_47 (by decide) ?_
        refine g_goto K 48 52 d6_48 (by decide) (by decide) ?_
        exact J6 _ (by rw [if_pos c7])
    refine g_ii_ne K 23 39 d6_23 (by decide) (by decide) ?_ ?_
    · intro c8
      exact J4 _ (by rw [if_neg c8])
    · intro c8
      refine g_iloadN K 26 d6_26 rfl ?_
      refine g_iconst K 27 (1 : Int32) d6_27 (by decide) ?_
      refine g_iadd K 28 d6_28 ?_
      refine g_iload K 29 d6_29 rfl ?_
      refine g_ii_ge K 31 39 d6_31 (by decide) (by decide) ?_ ?_
      · intro c9
        exact J4 _ (by rw [if_pos c8, if_neg c9])
      · intro c9
        refine g_iload K 34 d6_34 rfl ?_
        refine g_i2b K 36 d6_36 ?_
        refine g_istore K 37 #[.val (.ref ar), .val (.int ix), .val (.int ini), .val (.int start), .val (.int limit), .val (.int v1), .val (.int v2), .val (.int v2.toInt8.toInt32)] d6_37 rfl ?_
        exact J4 _ (by rw [if_pos c8, if_pos c9])
  refine g_ii_ne K 5 19 d6_5 (by decide) (by decide) ?_ ?_
  · intro c10
    exact J2 _ (by rw [if_neg c10])
  · intro c10
    refine g_iloadN K 8 d6_8 rfl ?_
    refine g_iload K 9 d6_9 rfl ?_
    refine g_ii_ge K 11 19 d6_11 (by decide) (by decide) ?_ ?_
    · intro c11
      exact J2 _ (by rw [if_pos c10, if_neg c11])
    · intro c11
      refine g_iload K 14 d6_14 rfl ?_
      refine g_i2b K 16 d6_16 ?_
      refine g_istore K 17 #[.val (.ref ar), .val (.int ix), .val (.int ini), .val (.int start), .val (.int limit), .val (.int v1), .val (.int v2), .val (.int v1.toInt8.toInt32)] d6_17 rfl ?_
      exact J2 _ (by rw [if_pos c10, if_pos c11])
theorem own_pp (ps lm : Int32) (xs : List Int32) (w : Int32) : f_put_position ps lm xs w = ps + 1 := by
  unfold f_put_position; split <;> rfl
theorem own_plen (ps lm : Int32) (xs : List Int32) (w : Int32) : (f_put_ar ps lm xs w).length = xs.length := by
  unfold f_put_ar; split <;> simp
theorem own_rem {p d v : Int32} (n : Int) (hd : d.toInt = n) (hn : 0 < n) (h : (p &&& (2147483647 : Int32)) % d = v) : 0 ≤ v.toInt ∧ v.toInt < n := by
  have hm := c_mask p 2147483647 31 (by decide) (by decide)
  have hw := (c_irem (p &&& 2147483647) d n hd).1 (by omega)
  rw [h] at hw
  rw [hw]
  exact ⟨Int.emod_nonneg _ (by omega), Int.emod_lt_of_pos _ hn⟩
theorem own_in {ps lm : Int32} {xs : List Int32} (h1 : 0 ≤ ps.toInt) (h2 : lm.toInt < 5) (hx : xs.length = 4) : ps < lm → ¬ ps < 0 ∧ ps.toNatClampNeg < xs.length := by
  intro h
  rw [Int32.lt_iff_toInt_lt] at h
  refine ⟨by rw [Int32.lt_iff_toInt_lt, show (0 : Int32).toInt = 0 from by decide]; omega, ?_⟩
  rw [hx]; show ps.toInt.toNat < 4; omega
theorem own_add1 {i : Int32} (h0 : 0 ≤ i.toInt) (h1 : i.toInt < 100) : (i + (1 : Int32)).toInt = i.toInt + 1 := by
  have h := c_iadd i 1
  have r := rng32 (i + 1)
  rw [show (1 : Int32).toInt = 1 from by decide] at h
  omega
theorem own_rdset (xs : List Int32) (i j v : Int32) (hi : 0 ≤ i.toInt ∧ i.toInt.toNat < xs.length) (hj : 0 ≤ j.toInt) : rdI (xs.set j.toNatClampNeg v) i = if i = j then v else rdI xs i := by
  unfold rdI
  have e1 : ∀ q : Int32, q.toNatClampNeg = q.toInt.toNat := fun _ => rfl
  by_cases h : i = j
  · subst h
    rw [if_pos rfl]
    simp only [e1, List.getD_eq_getElem?_getD, List.getElem?_set, hi.2, if_true]
    rfl
  · rw [if_neg h]
    have : ¬ j.toNatClampNeg = i.toNatClampNeg := fun q => h (Int32.toInt_inj.mp (by rw [e1, e1] at q; omega))
    simp only [List.getD_eq_getElem?_getD, List.getElem?_set, this, if_false]
theorem own_rdput (ps lm : Int32) (xs : List Int32) (w i : Int32) (hi : 0 ≤ i.toInt ∧ i.toInt.toNat < xs.length) (hj : 0 ≤ ps.toInt) : rdI (f_put_ar ps lm xs w) i = if i = ps then (if ps < lm then w.toInt8.toInt32 else rdI xs i) else rdI xs i := by
  unfold f_put_ar
  by_cases h : ps < lm
  · rw [if_pos h, if_pos h, own_rdset _ _ _ _ hi hj]
    have : nar .byte w.toInt8.toInt32 = w.toInt8.toInt32 := by simp [nar]
    rw [this]
  · rw [if_neg h, if_neg h]; split <;> rfl
theorem own_cell (start lm : Int32) (L : List Int32) (w1 w2 ix ini : Int32) (hL : L.length = 4) (hi : 0 ≤ ix.toInt ∧ ix.toInt < 4) (hs : 0 ≤ start.toInt ∧ start.toInt < 6) (hini : rdI L ix = ini) :
    f_cell (f_put_ar (f_put_position start lm L w1) lm (f_put_ar start lm L w1) w2) ix ini start lm w1 w2 = 1 := by
  unfold f_cell
  rw [own_pp]
  have hi' : 0 ≤ ix.toInt ∧ ix.toInt.toNat < (f_put_ar start lm L w1).length := by rw [own_plen, hL]; omega
  rw [own_rdput _ _ _ _ _ hi' (by rw [own_add1 hs.1 (by omega)]; omega), own_rdput _ _ _ _ _ (by rw [hL]; omega) hs.1, hini]
  rw [if_pos rfl]; rfl
theorem own_b (x v : Int32) (h : x.toInt8.toInt32 = v) : nar .byte v = v := by subst h; simp [nar]
theorem own_b4 {x0 x1 x2 x3 a b c d : Int32} (h0 : x0.toInt8.toInt32 = a) (h1 : x1.toInt8.toInt32 = b) (h2 : x2.toInt8.toInt32 = c) (h3 : x3.toInt8.toInt32 = d) : [nar .byte a, nar .byte b, nar .byte c, nar .byte d] = [a, b, c, d] := by
  rw [own_b _ _ h0, own_b _ _ h1, own_b _ _ h2, own_b _ _ h3]
set_option maxRecDepth 65536 in
set_option maxHeartbeats 40000000 in
theorem rm_law (l : Launch) (Z : State) (a0 : Array Value) (hw : ∀ d ∈ tables_1, d.before a0 Z = true) (p0 : Int32) (p1 : Int32) (p2 : Int32) (p3 : Int32) (q4 : Int64) (h0 : Heap) (n0 : Nat) (Z0 : n0 ≤ h0.size)  :
    Meets l x code maxLocals ret room_1 Z #[(.int p0), (.int p1), (.int p2), (.int p3), (.long q4)] h0 n0 (fun v h => v = some (Value.int 1)) := by
  refine meets_of (plainFor_of_name pn1) (Ls := #[.val (.int p0), .val (.int p1), .val (.int p2), .val (.int p3), .val (.long q4), .second, .unset, .unset, .unset, .unset, .unset, .unset, .unset, .unset, .unset]) (fun m => by first | (simp [entryFrame, mkF, argsToLocals, Value.category, maxLocals]; done) | rfl) ?_
  intro p e s m below meth c K
  replace K : Kx Z "com/example/batchwright/batchwright/wire/BoundedOutputPutPinLaw" "law" code maxLocals ret p s m meth c := K
  obtain ⟨Q, hQ⟩ : ∃ Q : Option Value → Heap → Prop, Q = (fun v h => v = some (Value.int 1)) := ⟨_, rfl⟩
  rw [← hQ]
  refine g_iloadN K 0 at_0 rfl ?_
  refine g_ldc K 1 (v := (2147483647 : Int32)) at_1 (tw hw 0 rfl) ?_
  refine g_iand K 3 at_3 ?_
  refine g_bipush K 4 (6 : Int32) at_4 (by decide) ?_
  refine g_irem K 6 at_6 (by decide) ?_
  generalize hv1 : ((p2 &&& (2147483647 : Int32)) % (6 : Int32)) = v1
  refine g_istore K 7 #[.val (.int p0), .val (.int p1), .val (.int p2), .val (.int p3), .val (.long q4), .second, .val (.int v1), .unset, .unset, .unset, .unset, .unset, .unset, .unset, .unset] at_7 rfl ?_
  refine g_iloadN K 9 at_9 rfl ?_
  refine g_ldc K 10 (v := (2147483647 : Int32)) at_10 (tw hw 0 rfl) ?_
  refine g_iand K 12 at_12 ?_
  refine g_iconst K 13 (5 : Int32) at_13 (by decide) ?_
  refine g_irem K 14 at_14 (by decide) ?_
  generalize hv2 : ((p3 &&& (2147483647 : Int32)) % (5 : Int32)) = v2
  refine g_istore K 15 #[.val (.int p0), .val (.int p1), .val (.int p2), .val (.int p3), .val (.long q4), .second, .val (.int v1), .val (.int v2), .unset, .unset, .unset, .unset, .unset, .unset, .unset] at_15 rfl ?_
  refine g_lload K 17 at_17 rfl ?_
  refine g_l2i K 19 at_19 ?_
  refine g_i2b K 20 at_20 ?_
  generalize hv3 : q4.toInt32.toInt8.toInt32 = v3
  refine g_istore K 21 #[.val (.int p0), .val (.int p1), .val (.int p2), .val (.int p3), .val (.long q4), .second, .val (.int v1), .val (.int v2), .val (.int v3), .unset, .unset, .unset, .unset, .unset, .unset] at_21 rfl ?_
  refine g_lload K 23 at_23 rfl ?_
  refine g_bipush K 25 (8 : Int32) at_25 (by decide) ?_
  refine g_lushr K 27 at_27 ?_
  refine g_l2i K 28 at_28 ?_
  refine g_i2b K 29 at_29 ?_
  generalize hv4 : ((XT.ushrL q4 (8 : Int32)).toInt32).toInt8.toInt32 = v4
  refine g_istore K 30 #[.val (.int p0), .val (.int p1), .val (.int p2), .val (.int p3), .val (.long q4), .second, .val (.int v1), .val (.int v2), .val (.int v3), .val (.int v4), .unset, .unset, .unset, .unset, .unset] at_30 rfl ?_
  refine g_lload K 32 at_32 rfl ?_
  refine g_bipush K 34 (16 : Int32) at_34 (by decide) ?_
  refine g_lushr K 36 at_36 ?_
  refine g_l2i K 37 at_37 ?_
  refine g_i2b K 38 at_38 ?_
  generalize hv5 : ((XT.ushrL q4 (16 : Int32)).toInt32).toInt8.toInt32 = v5
  refine g_istore K 39 #[.val (.int p0), .val (.int p1), .val (.int p2), .val (.int p3), .val (.long q4), .second, .val (.int v1), .val (.int v2), .val (.int v3), .val (.int v4), .val (.int v5), .unset, .unset, .unset, .unset] at_39 rfl ?_
  refine g_lload K 41 at_41 rfl ?_
  refine g_bipush K 43 (24 : Int32) at_43 (by decide) ?_
  refine g_lushr K 45 at_45 ?_
  refine g_l2i K 46 at_46 ?_
  refine g_i2b K 47 at_47 ?_
  generalize hv6 : ((XT.ushrL q4 (24 : Int32)).toInt32).toInt8.toInt32 = v6
  refine g_istore K 48 #[.val (.int p0), .val (.int p1), .val (.int p2), .val (.int p3), .val (.long q4), .second, .val (.int v1), .val (.int v2), .val (.int v3), .val (.int v4), .val (.int v5), .val (.int v6), .unset, .unset, .unset] at_48 rfl ?_
  refine g_iconst K 50 (4 : Int32) at_50 (by decide) ?_
  refine g_newI K 51 .byte at_51 rfl rfl (tw hw 1 rfl) (by decide) 4 (by decide) (by decide) (by decide) (by decide) ?_
  intro h8 a7 eq11 Kp9 A10
  have g12 : n0 ≤ a7 := eq11 ▸ Z0
  have Z13 := Nat.le_trans Z0 Kp9.1
  have A14 : IA Z h8 a7 .byte [0, 0, 0, 0] := (by have q := A10; rw [show (4 : Int32).toNatClampNeg = 4 from by decide] at q; exact q)
  refine g_astore K 53 #[.val (.int p0), .val (.int p1), .val (.int p2), .val (.int p3), .val (.long q4), .second, .val (.int v1), .val (.int v2), .val (.int v3), .val (.int v4), .val (.int v5), .val (.int v6), .val (.ref a7), .unset, .unset] at_53 rfl rfl ?_
  refine g_aload K 55 at_55 rfl rfl ?_
  refine g_iconst K 57 (0 : Int32) at_57 (by decide) ?_
  refine g_iload K 58 at_58 rfl ?_
  refine g_bastore K 60 at_60 A14 (by decide) (show (0 : Int32).toNatClampNeg < 4 from by decide) g12 ?_
  intro h15 Kp16 A17
  have Z18 := Nat.le_trans Z13 Kp16.1
  have A19 : IA Z h15 a7 .byte [nar .byte v3, 0, 0, 0] := (by have q := A17; rw [show (0 : Int32).toNatClampNeg = 0 from by decide] at q; exact q)
  refine g_aload K 61 at_61 rfl rfl ?_
  refine g_iconst K 63 (1 : Int32) at_63 (by decide) ?_
  refine g_iload K 64 at_64 rfl ?_
  refine g_bastore K 66 at_66 A19 (by decide) (show (1 : Int32).toNatClampNeg < 4 from by decide) g12 ?_
  intro h20 Kp21 A22
  have Z23 := Nat.le_trans Z18 Kp21.1
  have A24 : IA Z h20 a7 .byte [nar .byte v3, nar .byte v4, 0, 0] := (by have q := A22; rw [show (1 : Int32).toNatClampNeg = 1 from by decide] at q; exact q)
  refine g_aload K 67 at_67 rfl rfl ?_
  refine g_iconst K 69 (2 : Int32) at_69 (by decide) ?_
  refine g_iload K 70 at_70 rfl ?_
  refine g_bastore K 72 at_72 A24 (by decide) (show (2 : Int32).toNatClampNeg < 4 from by decide) g12 ?_
  intro h25 Kp26 A27
  have Z28 := Nat.le_trans Z23 Kp26.1
  have A29 : IA Z h25 a7 .byte [nar .byte v3, nar .byte v4, nar .byte v5, 0] := (by have q := A27; rw [show (2 : Int32).toNatClampNeg = 2 from by decide] at q; exact q)
  refine g_aload K 73 at_73 rfl rfl ?_
  refine g_iconst K 75 (3 : Int32) at_75 (by decide) ?_
  refine g_iload K 76 at_76 rfl ?_
  refine g_bastore K 78 at_78 A29 (by decide) (show (3 : Int32).toNatClampNeg < 4 from by decide) g12 ?_
  intro h30 Kp31 A32
  have Z33 := Nat.le_trans Z28 Kp31.1
  have A34 : IA Z h30 a7 .byte [nar .byte v3, nar .byte v4, nar .byte v5, nar .byte v6] := (by have q := A32; rw [show (3 : Int32).toNatClampNeg = 3 from by decide] at q; exact q)
  refine g_new K 79 at_79 (tw hw 2 rfl) (tw hw 3 rfl) (tw hw 4 rfl) (by decide) (by decide) ?_
  intro h36 a35 eq40 Kp37 E38 D39
  have g41 : n0 ≤ a35 := eq40 ▸ Z33
  have ne42 : a7 ≠ a35 := own_ne_of_lt A34.lt eq40
  have Z43 := Nat.le_trans Z33 Kp37.1
  have F44 := A34.keep Kp37 nin0
  have F45 : Fld Z h36 a35 "com/example/batchwright/batchwright/wire/BoundedOutput" "array" "[B" .null := D39 (Or.inr (tw hw 12 rfl)) (ty := (.array .byte)) (by decide)
  have F46 : Fld Z h36 a35 "com/example/batchwright/batchwright/wire/BoundedOutput" "position" "I" (.int (0 : Int32)) := D39 (Or.inl (tw hw 14 rfl)) (ty := .int) (by decide)
  have F47 : Fld Z h36 a35 "com/example/batchwright/batchwright/wire/BoundedOutput" "limit" "I" (.int (0 : Int32)) := D39 (Or.inr (tw hw 16 rfl)) (ty := .int) (by decide)
  refine g_dup K 82 at_82 rfl ?_
  refine g_aload K 83 at_83 rfl rfl ?_
  refine g_iload K 85 at_85 rfl ?_
  refine g_iload K 87 at_87 rfl ?_
  refine g_callN K 89 [(.ref a7), (.int v1), (.int v2)] 1 at_89 (rm_init l Z a0 hw a35 a7 v1 v2 h36 n0 Z43  E38 g41 F45 F46 F47 ) rfl (tw hw 5 rfl) (tw hw 6 rfl) (tw hw 4 rfl) (tw hw 7 rfl) (by decide) pd0 rfl (st := [(.ref a35)]) rfl (Nat.le_of_eq rfl) rfl (by decide) (by decide) (by decide) (by decide) ?_
  rintro _ h48 ⟨hv, Kp49, E50, F51, F52, F53⟩
  rw [hv]
  clear hv
  have Z54 := Nat.le_trans Z43 Kp49.1
  have F55 := F44.keep Kp49 (ninS ne42 nin0)
  refine go_cast (k' := ((0 + 1) + 1)) (n' := ((0 + 4) + 3)) (st' := [(.ref a35)]) rfl rfl rfl ?_
  refine g_astore K 92 #[.val (.int p0), .val (.int p1), .val (.int p2), .val (.int p3), .val (.long q4), .second, .val (.int v1), .val (.int v2), .val (.int v3), .val (.int v4), .val (.int v5), .val (.int v6), .val (.ref a7), .val (.ref a35), .unset] at_92 rfl rfl ?_
  refine g_aload K 94 at_94 rfl rfl ?_
  refine g_iloadN K 96 at_96 rfl ?_
  refine g_callV K 97 [(.int p0)] 0 at_97 (rm_put l Z a0 hw a35 p0 h48 n0 Z54 a7 v1 v2 ([nar .byte v3, nar .byte v4, nar .byte v5, nar .byte v6]) E50 g41 F51 F52 F53 F55 g12 ne42.symm (own_in (own_rem 6 (by decide) (by decide) hv1).1 (own_rem 5 (by decide) (by decide) hv2).2 rfl)) E50 (tw hw 17 rfl) (tw hw 18 rfl) (tw hw 20 rfl) (tw hw 20 rfl) (tw hw 19 rfl) (tw hw 4 rfl) (tw hw 21 rfl) (by decide) pd2 rfl (st := []) rfl (Nat.le_of_eq rfl) rfl (by decide) (by decide) (by decide) (by decide) ?_
  rintro _ h56 ⟨hv, Kp57, E58, F59, F60, F61, A62⟩
  rw [hv]
  clear hv
  have Z63 := Nat.le_trans Z54 Kp57.1
  refine go_cast (k' := ((0 + 1) + 1)) (n' := ((0 + 4) + 3)) (st' := []) rfl rfl rfl ?_
  refine g_aload K 100 at_100 rfl rfl ?_
  refine g_iloadN K 102 at_102 rfl ?_
  refine g_callV K 103 [(.int p1)] 0 at_103 (rm_put l Z a0 hw a35 p1 h56 n0 Z63 a7 (f_put_position v1 v2 ([nar .byte v3, nar .byte v4, nar .byte v5, nar .byte v6]) p0) v2 (f_put_ar v1 v2 ([nar .byte v3, nar .byte v4, nar .byte v5, nar .byte v6]) p0) E58 g41 F59 F60 F61 A62 g12 ne42.symm (own_in (by rw [own_pp, own_add1 (own_rem 6 (by decide) (by decide) hv1).1 (by have := (own_rem 6 (by decide) (by decide) hv1).2; omega)]; have := (own_rem 6 (by decide) (by decide) hv1).1; omega) (own_rem 5 (by decide) (by decide) hv2).2 (by rw [own_plen]; rfl))) E58 (tw hw 17 rfl) (tw hw 18 rfl) (tw hw 20 rfl) (tw hw 20 rfl) (tw hw 19 rfl) (tw hw 4 rfl) (tw hw 21 rfl) (by decide) pd2 rfl (st := []) rfl (Nat.le_of_eq rfl) rfl (by decide) (by decide) (by decide) (by decide) ?_
  rintro _ h64 ⟨hv, Kp65, E66, F67, F68, F69, A70⟩
  rw [hv]
  clear hv
  have Z71 := Nat.le_trans Z63 Kp65.1
  refine go_cast (k' := ((0 + 1) + 1)) (n' := ((0 + 4) + 3)) (st' := []) rfl rfl rfl ?_
  refine g_aload K 106 at_106 rfl rfl ?_
  refine g_callV K 108 [] 0 at_108 (rm_pos l Z a0 hw a35 h64 n0 Z71 (f_put_position (f_put_position v1 v2 ([nar .byte v3, nar .byte v4, nar .byte v5, nar .byte v6]) p0) v2 (f_put_ar v1 v2 ([nar .byte v3, nar .byte v4, nar .byte v5, nar .byte v6]) p0) p1) F68) E66 (tw hw 22 rfl) (tw hw 23 rfl) (tw hw 25 rfl) (tw hw 25 rfl) (tw hw 24 rfl) (tw hw 4 rfl) (tw hw 26 rfl) (by decide) pd3 rfl (st := []) rfl (Nat.le_of_eq rfl) rfl (by decide) (by decide) (by decide) (by decide) ?_
  rintro _ _ ⟨hv, hh⟩
  rw [hv, hh]
  clear hv hh
  refine go_cast (k' := ((0 + 1) + 1)) (n' := ((0 + 4) + 3)) (st' := [(.int (f_pos (f_put_position (f_put_position v1 v2 ([nar .byte v3, nar .byte v4, nar .byte v5, nar .byte v6]) p0) v2 (f_put_ar v1 v2 ([nar .byte v3, nar .byte v4, nar .byte v5, nar .byte v6]) p0) p1)))]) rfl rfl rfl ?_
  refine g_iload K 111 at_111 rfl ?_
  refine g_iconst K 113 (2 : Int32) at_113 (by decide) ?_
  refine g_iadd K 114 at_114 ?_
  refine g_ii_ne K 115 122 at_115 (by decide) (by decide) ?_ ?_
  · intro c72
    exfalso
    exact c72 (by unfold f_pos; rw [own_pp, own_pp, Int32.add_assoc]; rfl)
  · intro c72
    refine g_iconst K 118 (1 : Int32) at_118 (by decide) ?_
    refine g_goto K 119 123 at_119 (by decide) (by decide) ?_
    refine g_istore K 123 #[.val (.int p0), .val (.int p1), .val (.int p2), .val (.int p3), .val (.long q4), .second, .val (.int v1), .val (.int v2), .val (.int v3), .val (.int v4), .val (.int v5), .val (.int v6), .val (.ref a7), .val (.ref a35), .val (.int (1 : Int32))] at_123 rfl ?_
    refine g_iload K 125 at_125 rfl ?_
    refine g_if_eq K 127 156 at_127 (by decide) (by decide) ?_ ?_
    · intro c73
      exact absurd c73 (by decide)
    · intro c73
      refine g_aload K 130 at_130 rfl rfl ?_
      refine g_callV K 132 [] 0 at_132 (rm_ovf l Z a0 hw a35 h64 n0 Z71 (f_put_position (f_put_position v1 v2 ([nar .byte v3, nar .byte v4, nar .byte v5, nar .byte v6]) p0) v2 (f_put_ar v1 v2 ([nar .byte v3, nar .byte v4, nar .byte v5, nar .byte v6]) p0) p1) v2 F68 F69) E66 (tw hw 27 rfl) (tw hw 28 rfl) (tw hw 30 rfl) (tw hw 30 rfl) (tw hw 29 rfl) (tw hw 4 rfl) (tw hw 31 rfl) (by decide) pd4 rfl (st := []) rfl (Nat.le_of_eq rfl) rfl (by decide) (by decide) (by decide) (by decide) ?_
      rintro _ _ ⟨hv, hh⟩
      rw [hv, hh]
      clear hv hh
      refine go_cast (k' := ((0 + 1) + 1)) (n' := ((0 + 4) + 3)) (st' := [(.int (f_ovf (f_put_position (f_put_position v1 v2 ([nar .byte v3, nar .byte v4, nar .byte v5, nar .byte v6]) p0) v2 (f_put_ar v1 v2 ([nar .byte v3, nar .byte v4, nar .byte v5, nar .byte v6]) p0) p1) v2))]) rfl rfl rfl ?_
      refine g_iload K 135 at_135 rfl ?_
      refine g_iconst K 137 (2 : Int32) at_137 (by decide) ?_
      refine g_iadd K 138 at_138 ?_
      refine g_iload K 139 at_139 rfl ?_
      have J75 : ∀ (z74 : Int32), z74 = (if v2 < (v1 + (2 : Int32)) then (1 : Int32) else (0 : Int32)) → Go p l e room_1 s m #[(.int p0), (.int p1), (.int p2), (.int p3), (.long q4)] below meth c n0 Q h64 ((0 + 1) + 1) ((0 + 4) + 3) (mkF m 149 #[.val (.int p0), .val (.int p1), .val (.int p2), .val (.int p3), .val (.long q4), .second, .val (.int v1), .val (.int v2), .val (.int v3), .val (.int v4), .val (.int v5), .val (.int v6), .val (.ref a7), .val (.ref a35), .val (.int (1 : Int32))] [(.int z74), (.int (f_ovf (f_put_position (f_put_position v1 v2 ([nar .byte v3, nar .byte v4, nar .byte v5, nar .byte v6]) p0) v2 (f_put_ar v1 v2 ([nar .byte v3, nar .byte v4, nar .byte v5, nar .byte v6]) p0) p1) v2))]) := by
        intro z74 hz74
        refine g_ii_ne K 149 156 at_149 (by decide) (by decide) ?_ ?_
        · intro c76
          exfalso
          exact c76 (by unfold f_ovf; rw [own_pp, own_pp, Int32.add_assoc, hz74, show (1 : Int32) + 1 = 2 from by decide]; split <;> rfl)
        · intro c76
          refine g_iconst K 152 (1 : Int32) at_152 (by decide) ?_
          refine g_goto K 153 157 at_153 (by decide) (by decide) ?_
          refine g_istore K 157 #[.val (.int p0), .val (.int p1), .val (.int p2), .val (.int p3), .val (.long q4), .second, .val (.int v1), .val (.int v2), .val (.int v3), .val (.int v4), .val (.int v5), .val (.int v6), .val (.ref a7), .val (.ref a35), .val (.int (1 : Int32))] at_157 rfl ?_
          refine g_iload K 159 at_159 rfl ?_
          refine g_if_eq K 161 185 at_161 (by decide) (by decide) ?_ ?_
          · intro c77
            exact absurd c77 (by decide)
          · intro c77
            refine g_aload K 164 at_164 rfl rfl ?_
            refine g_iconst K 166 (0 : Int32) at_166 (by decide) ?_
            refine g_iload K 167 at_167 rfl ?_
            refine g_iload K 169 at_169 rfl ?_
            refine g_iload K 171 at_171 rfl ?_
            refine g_iloadN K 173 at_173 rfl ?_
            refine g_iloadN K 174 at_174 rfl ?_
            refine g_callS K 175 [(.ref a7), (.int (0 : Int32)), (.int v3), (.int v1), (.int v2), (.int p0), (.int p1)] 0 at_175 (rm_cell l Z a0 hw a7 (0 : Int32) v3 v1 v2 p0 p1 h64 n0 Z71 (f_put_ar (f_put_position v1 v2 ([nar .byte v3, nar .byte v4, nar .byte v5, nar .byte v6]) p0) v2 (f_put_ar v1 v2 ([nar .byte v3, nar .byte v4, nar .byte v5, nar .byte v6]) p0) p1) A70 ⟨by decide, by rw [own_plen, own_plen]; exact (show (0 : Int32).toNatClampNeg < 4 from by decide)⟩) (tw hw 32 rfl) (tw hw 33 rfl) (tw hw 34 rfl) (tw hw 35 rfl) (by decide) pd5 rfl (st := []) rfl (Nat.le_of_eq rfl) rfl (by decide) (by decide) (by decide) (by decide) ?_
            rintro _ _ ⟨hv, hh⟩
            rw [hv, hh]
            clear hv hh
            refine go_cast (k' := ((0 + 1) + 1)) (n' := ((0 + 4) + 3)) (st' := [(.int (f_cell (f_put_ar (f_put_position v1 v2 ([nar .byte v3, nar .byte v4, nar .byte v5, nar .byte v6]) p0) v2 (f_put_ar v1 v2 ([nar .byte v3, nar .byte v4, nar .byte v5, nar .byte v6]) p0) p1) (0 : Int32) v3 v1 v2 p0 p1))]) rfl rfl rfl ?_
            refine g_if_eq K 178 185 at_178 (by decide) (by decide) ?_ ?_
            · intro c78
              exfalso
              exact absurd ((own_cell _ _ _ _ _ (0 : Int32) v3 rfl (by decide) (own_rem 6 (by decide) (by decide) hv1) (by rw [own_b4 hv3 hv4 hv5 hv6]; rfl)).symm.trans c78) (by decide)
            · intro c78
              refine g_iconst K 181 (1 : Int32) at_181 (by decide) ?_
              refine g_goto K 182 186 at_182 (by decide) (by decide) ?_
              refine g_istore K 186 #[.val (.int p0), .val (.int p1), .val (.int p2), .val (.int p3), .val (.long q4), .second, .val (.int v1), .val (.int v2), .val (.int v3), .val (.int v4), .val (.int v5), .val (.int v6), .val (.ref a7), .val (.ref a35), .val (.int (1 : Int32))] at_186 rfl ?_
              refine g_iload K 188 at_188 rfl ?_
              refine g_if_eq K 190 214 at_190 (by decide) (by decide) ?_ ?_
              · intro c79
                exact absurd c79 (by decide)
              · intro c79
                refine g_aload K 193 at_193 rfl rfl ?_
                refine g_iconst K 195 (1 : Int32) at_195 (by decide) ?_
                refine g_iload K 196 at_196 rfl ?_
                refine g_iload K 198 at_198 rfl ?_
                refine g_iload K 200 at_200 rfl ?_
                refine g_iloadN K 202 at_202 rfl ?_
                refine g_iloadN K 203 at_203 rfl ?_
                refine g_callS K 204 [(.ref a7), (.int (1 : Int32)), (.int v4), (.int v1), (.int v2), (.int p0), (.int p1)] 0 at_204 (rm_cell l Z a0 hw a7 (1 : Int32) v4 v1 v2 p0 p1 h64 n0 Z71 (f_put_ar (f_put_position v1 v2 ([nar .byte v3, nar .byte v4, nar .byte v5, nar .byte v6]) p0) v2 (f_put_ar v1 v2 ([nar .byte v3, nar .byte v4, nar .byte v5, nar .byte v6]) p0) p1) A70 ⟨by decide, by rw [own_plen, own_plen]; exact (show (1 : Int32).toNatClampNeg < 4 from by decide)⟩) (tw hw 32 rfl) (tw hw 33 rfl) (tw hw 34 rfl) (tw hw 35 rfl) (by decide) pd5 rfl (st := []) rfl (Nat.le_of_eq rfl) rfl (by decide) (by decide) (by decide) (by decide) ?_
                rintro _ _ ⟨hv, hh⟩
                rw [hv, hh]
                clear hv hh
                refine go_cast (k' := ((0 + 1) + 1)) (n' := ((0 + 4) + 3)) (st' := [(.int (f_cell (f_put_ar (f_put_position v1 v2 ([nar .byte v3, nar .byte v4, nar .byte v5, nar .byte v6]) p0) v2 (f_put_ar v1 v2 ([nar .byte v3, nar .byte v4, nar .byte v5, nar .byte v6]) p0) p1) (1 : Int32) v4 v1 v2 p0 p1))]) rfl rfl rfl ?_
                refine g_if_eq K 207 214 at_207 (by decide) (by decide) ?_ ?_
                · intro c80
                  exfalso
                  exact absurd ((own_cell _ _ _ _ _ (1 : Int32) v4 rfl (by decide) (own_rem 6 (by decide) (by decide) hv1) (by rw [own_b4 hv3 hv4 hv5 hv6]; rfl)).symm.trans c80) (by decide)
                · intro c80
                  refine g_iconst K 210 (1 : Int32) at_210 (by decide) ?_
                  refine g_goto K 211 215 at_211 (by decide) (by decide) ?_
                  refine g_istore K 215 #[.val (.int p0), .val (.int p1), .val (.int p2), .val (.int p3), .val (.long q4), .second, .val (.int v1), .val (.int v2), .val (.int v3), .val (.int v4), .val (.int v5), .val (.int v6), .val (.ref a7), .val (.ref a35), .val (.int (1 : Int32))] at_215 rfl ?_
                  refine g_iload K 217 at_217 rfl ?_
                  refine g_if_eq K 219 243 at_219 (by decide) (by decide) ?_ ?_
                  · intro c81
                    exact absurd c81 (by decide)
                  · intro c81
                    refine g_aload K 222 at_222 rfl rfl ?_
                    refine g_iconst K 224 (2 : Int32) at_224 (by decide) ?_
                    refine g_iload K 225 at_225 rfl ?_
                    refine g_iload K 227 at_227 rfl ?_
                    refine g_iload K 229 at_229 rfl ?_
                    refine g_iloadN K 231 at_231 rfl ?_
                    refine g_iloadN K 232 at_232 rfl ?_
                    refine g_callS K 233 [(.ref a7), (.int (2 : Int32)), (.int v5), (.int v1), (.int v2), (.int p0), (.int p1)] 0 at_233 (rm_cell l Z a0 hw a7 (2 : Int32) v5 v1 v2 p0 p1 h64 n0 Z71 (f_put_ar (f_put_position v1 v2 ([nar .byte v3, nar .byte v4, nar .byte v5, nar .byte v6]) p0) v2 (f_put_ar v1 v2 ([nar .byte v3, nar .byte v4, nar .byte v5, nar .byte v6]) p0) p1) A70 ⟨by decide, by rw [own_plen, own_plen]; exact (show (2 : Int32).toNatClampNeg < 4 from by decide)⟩) (tw hw 32 rfl) (tw hw 33 rfl) (tw hw 34 rfl) (tw hw 35 rfl) (by decide) pd5 rfl (st := []) rfl (Nat.le_of_eq rfl) rfl (by decide) (by decide) (by decide) (by decide) ?_
                    rintro _ _ ⟨hv, hh⟩
                    rw [hv, hh]
                    clear hv hh
                    refine go_cast (k' := ((0 + 1) + 1)) (n' := ((0 + 4) + 3)) (st' := [(.int (f_cell (f_put_ar (f_put_position v1 v2 ([nar .byte v3, nar .byte v4, nar .byte v5, nar .byte v6]) p0) v2 (f_put_ar v1 v2 ([nar .byte v3, nar .byte v4, nar .byte v5, nar .byte v6]) p0) p1) (2 : Int32) v5 v1 v2 p0 p1))]) rfl rfl rfl ?_
                    refine g_if_eq K 236 243 at_236 (by decide) (by decide) ?_ ?_
                    · intro c82
                      exfalso
                      exact absurd ((own_cell _ _ _ _ _ (2 : Int32) v5 rfl (by decide) (own_rem 6 (by decide) (by decide) hv1) (by rw [own_b4 hv3 hv4 hv5 hv6]; rfl)).symm.trans c82) (by decide)
                    · intro c82
                      refine g_iconst K 239 (1 : Int32) at_239 (by decide) ?_
                      refine g_goto K 240 244 at_240 (by decide) (by decide) ?_
                      refine g_istore K 244 #[.val (.int p0), .val (.int p1), .val (.int p2), .val (.int p3), .val (.long q4), .second, .val (.int v1), .val (.int v2), .val (.int v3), .val (.int v4), .val (.int v5), .val (.int v6), .val (.ref a7), .val (.ref a35), .val (.int (1 : Int32))] at_244 rfl ?_
                      refine g_iload K 246 at_246 rfl ?_
                      refine g_if_eq K 248 272 at_248 (by decide) (by decide) ?_ ?_
                      · intro c83
                        exact absurd c83 (by decide)
                      · intro c83
                        refine g_aload K 251 at_251 rfl rfl ?_
                        refine g_iconst K 253 (3 : Int32) at_253 (by decide) ?_
                        refine g_iload K 254 at_254 rfl ?_
                        refine g_iload K 256 at_256 rfl ?_
                        refine g_iload K 258 at_258 rfl ?_
                        refine g_iloadN K 260 at_260 rfl ?_
                        refine g_iloadN K 261 at_261 rfl ?_
                        refine g_callS K 262 [(.ref a7), (.int (3 : Int32)), (.int v6), (.int v1), (.int v2), (.int p0), (.int p1)] 0 at_262 (rm_cell l Z a0 hw a7 (3 : Int32) v6 v1 v2 p0 p1 h64 n0 Z71 (f_put_ar (f_put_position v1 v2 ([nar .byte v3, nar .byte v4, nar .byte v5, nar .byte v6]) p0) v2 (f_put_ar v1 v2 ([nar .byte v3, nar .byte v4, nar .byte v5, nar .byte v6]) p0) p1) A70 ⟨by decide, by rw [own_plen, own_plen]; exact (show (3 : Int32).toNatClampNeg < 4 from by decide)⟩) (tw hw 32 rfl) (tw hw 33 rfl) (tw hw 34 rfl) (tw hw 35 rfl) (by decide) pd5 rfl (st := []) rfl (Nat.le_of_eq rfl) rfl (by decide) (by decide) (by decide) (by decide) ?_
                        rintro _ _ ⟨hv, hh⟩
                        rw [hv, hh]
                        clear hv hh
                        refine go_cast (k' := ((0 + 1) + 1)) (n' := ((0 + 4) + 3)) (st' := [(.int (f_cell (f_put_ar (f_put_position v1 v2 ([nar .byte v3, nar .byte v4, nar .byte v5, nar .byte v6]) p0) v2 (f_put_ar v1 v2 ([nar .byte v3, nar .byte v4, nar .byte v5, nar .byte v6]) p0) p1) (3 : Int32) v6 v1 v2 p0 p1))]) rfl rfl rfl ?_
                        refine g_if_eq K 265 272 at_265 (by decide) (by decide) ?_ ?_
                        · intro c84
                          exfalso
                          exact absurd ((own_cell _ _ _ _ _ (3 : Int32) v6 rfl (by decide) (own_rem 6 (by decide) (by decide) hv1) (by rw [own_b4 hv3 hv4 hv5 hv6]; rfl)).symm.trans c84) (by decide)
                        · intro c84
                          refine g_iconst K 268 (1 : Int32) at_268 (by decide) ?_
                          refine g_goto K 269 273 at_269 (by decide) (by decide) ?_
                          refine g_istore K 273 #[.val (.int p0), .val (.int p1), .val (.int p2), .val (.int p3), .val (.long q4), .second, .val (.int v1), .val (.int v2), .val (.int v3), .val (.int v4), .val (.int v5), .val (.int v6), .val (.ref a7), .val (.ref a35), .val (.int (1 : Int32))] at_273 rfl ?_
                          refine g_iload K 275 at_275 rfl ?_
                          refine g_retN K 277 .boolean at_277 rfl (by simp) (by decide) (by decide) ?_
                          rw [hQ]
                          rfl
      refine g_ii_le K 141 148 at_141 (by decide) (by decide) ?_ ?_
      · intro c85
        refine g_iconst K 148 (0 : Int32) at_148 (by decide) ?_
        exact J75 _ (by rw [if_neg c85])
      · intro c85
        refine g_iconst K 144 (1 : Int32) at_144 (by decide) ?_
        refine g_goto K 145 149 at_145 (by decide) (by decide) ?_
        exact J75 _ (by rw [if_pos c85])
set_option maxRecDepth 65536 in
theorem comes_1 {Post : Tables → Env → Array Value → State → Outcome → State → Prop} (hpost : ∀ tb e args s v u, (limb_1_1.after args s (.returned v) u = true ∧ limb_1_2.after args s (.returned v) u = true ∧ True) → FrameEnd s (.returned v) u (Jvm.fieldLocs frame_1_writes args s ++ Jvm.arrayLocs frame_1_arrays args s ++ Jvm.staticLocs frame_1_statics s) 16 128 → Post tb e args s (.returned v) u) :
    ArmFor flags0 classFile x code maxLocals ret World_1 tables_1 room_1 Calls_1 rest_1 Pre_1 Post := by
  intro l hfl _ _ p e ha hc hk s m args below hf hA hF happ hP
  obtain ⟨hcalls, hrest, hpre⟩ := hP
  obtain ⟨-, -, -, hnamed, -, -, -, hat⟩ := (Spec.applies_iff hf).mp happ
  obtain ⟨hg, hn⟩ := and_e (Cond.before_iff.mp (show (Jvm.Cond.and given_1 narrow_1).before args s = true from hpre))
  obtain ⟨hcnt, hg0⟩ := and_e hg
  obtain ⟨w0, w1, w2, w3, w4, rfl⟩ : ∃ w0 w1 w2 w3 w4 : Value, args = #[w0, w1, w2, w3, w4] := by
    have hs : args.size = 5 := by simpa [Cond.value, given_1] using hcnt
    obtain ⟨L⟩ := args
    match L, hs with
    | [w0, w1, w2, w3, w4], _ => exact ⟨w0, w1, w2, w3, w4, rfl⟩
  have hw := fun d (hd : d ∈ tables_1) => atoms_spec (ws := Jvm.Cond.code x code maxLocals ret :: tables_1) hat d (List.mem_cons_of_mem _ hd)
  obtain ⟨hq0, hg1⟩ := and_e hg0
  obtain ⟨i0, e0⟩ := is_v hq0
  obtain rfl : w0 = (.int i0) := Option.some.inj e0
  obtain ⟨hq1, hg2⟩ := and_e hg1
  obtain ⟨i1, e1⟩ := is_v hq1
  obtain rfl : w1 = (.int i1) := Option.some.inj e1
  obtain ⟨hq2, hg3⟩ := and_e hg2
  obtain ⟨i2, e2⟩ := is_v hq2
  obtain rfl : w2 = (.int i2) := Option.some.inj e2
  obtain ⟨hq3, hg4⟩ := and_e hg3
  obtain ⟨i3, e3⟩ := is_v hq3
  obtain rfl : w3 = (.int i3) := Option.some.inj e3
  obtain ⟨i4, e4⟩ := isL_v hg4
  obtain rfl : w4 = (.long i4) := Option.some.inj e4
  obtain ⟨n, o, h1, h2, h3, _, L, rfl, ⟨rfl, N⟩, hq⟩ := rm_law l s _ hw i0 i1 i2 i3 i4 s.heap s.heap.size (Nat.le_refl _) tables_1 p e ha hc hk s m _ below hf ((Spec.applies_iff_loose hf).mp happ).1 ⟨rfl, State.Warmed39.refl s, rfl⟩ trivial
  refine ⟨n, _, h1, h2, h3, hpost _ _ _ _ _ _ ⟨Cond.after_iff.mpr rfl, Cond.after_iff.mpr (eq_i res_at (Term.int_eval (1)) rfl), trivial⟩ ⟨hq.1, hq.2.1, (hq.2.2.sift fun y hy => Or.inr (N y hy)).mono (by decide) (by decide)⟩⟩
theorem main_1_1 : Claimed_1_1 := comes_1 fun _ _ _ _ _ _ h hF => ⟨h.1, hF⟩
theorem main_1_2 : Claimed_1_2 := comes_1 fun _ _ _ _ _ _ h hF => ⟨h.2.1, hF⟩
end Jvm.Pilot.@@N@@
namespace Jvm.Pilot.@@N@@
open Jvm Jvm.ClassFile Sem Op Lib Jvm.Free Jvm.Stand Jvm.Pilot.@@N@@.Jvm.D
/-! MADE BY PROGRAM (witnessworld.py) out of the Statement's table words and the real class files: 9 classes; the members and pool entries that the words name. The judged class is class 1, her method 2. -/
namespace start1
open Jvm.ClassFile
def u (s : String) : CpInfo := .utf8 (stringToUtf16 s)
/-- a pool by its gaps: so many unusable entries, then the entry; so many at the end -/
def gap : Nat → List CpInfo → List CpInfo
  | 0, r => r
  | n + 1, r => .unusable :: gap n r
def poolList (es : List (Nat × CpInfo)) (last : Nat) : List CpInfo := es.foldr (fun e r => gap e.1 (e.2 :: r)) (gap last [])
def pool (es : List (Nat × CpInfo)) (last : Nat) : Array CpInfo := ⟨poolList es last⟩
def fileOf (pool : Array CpInfo) (this : Nat) (attrs : Array Attribute := #[]) (ms : Array MethodInfo := #[]) (fl : Nat := 33) (sup : Nat := 0) (ifs : Array Nat := #[]) (fds : Array FieldInfo := #[]) : ClassFile where
  minorVersion := 0
  majorVersion := 65
  constantPool := pool
  accessFlags := fl
  thisClass := this
  superClass := sup
  interfaces := ifs
  fields := fds
  methods := ms
  attributes := attrs
def plain (name : String) (sup : Option ClassId) : Class where
  name := name
  kind := .ordinary
  loader := none
  accessFlags := 33
  super := sup
  interfaces := #[]
  cf := none
  fields := #[]
  methods := #[]
  instanceTypes := #[]
  staticTypes := #[]
  resolved := #[]
  callSites := []
  init := .initialized
  statics := none
  mirror := none

def pool0 : Array CpInfo := pool [(5, u "<init>"), (0, u "()V"), (1, .class_ 10), (1, u "java/lang/Object")] 113

def k0c0 : Code := { maxStack := 0, maxLocals := 1, code := object_method_1_code, exceptionTable := #[], attributes := #[] }
def k0m0 : Method := { name := "<init>", desc := "()V", sig := { parameters := [], returnType := none }, accessFlags := 1, code := some k0c0 }
/-- java/lang/Object -/
def k0 : Class := { plain "java/lang/Object" none with
  accessFlags := 33
  interfaces := #[]
  cf := some (fileOf pool0 8 #[] #[{ accessFlags := 1, nameIndex := 5, descriptorIndex := 6, attributes := #[] }] 33 0 #[] #[])
  fields := #[]
  methods := #[k0m0]
  instanceTypes := #[]
  staticTypes := #[]
  resolved := Array.replicate 124 none
  statics := none }

def pool1 : Array CpInfo := pool [(2, .class_ 4), (1, u "java/lang/Object"), (0, u "<init>"), (0, u "()V"), (0, .integer 2147483647), (0, .class_ 9), (0, u "com/example/batchwright/batchwright/wire/BoundedOutput"), (0, .methodref 8 11), (0, .nameAndType 5 12), (0, u "([BII)V"), (0, .methodref 8 14), (0, .nameAndType 15 16), (0, u "put"), (0, u "(I)V"), (0, .methodref 8 18), (0, .nameAndType 19 20), (0, u "position"), (0, u "()I"), (0, .methodref 8 22), (0, .nameAndType 23 24), (0, u "overflowed"), (0, u "()Z"), (0, .methodref 26 27), (0, .class_ 28), (0, .nameAndType 29 30), (0, u "com/example/batchwright/batchwright/wire/BoundedOutputPutPinLaw"), (0, u "cell"), (0, u "([BIBIIII)Z"), (3, u "law"), (0, u "(IIIIJ)Z")] 4

def k1m0 : Method := { name := "<init>", desc := "()V", sig := { parameters := [], returnType := none }, accessFlags := 1, code := none }
def k1c1 : Code := { maxStack := 3, maxLocals := 8, code := method_2_code, exceptionTable := #[], attributes := #[] }
def k1m1 : Method := { name := "cell", desc := "([BIBIIII)Z", sig := { parameters := [(.array .byte), .int, .byte, .int, .int, .int, .int], returnType := some .boolean }, accessFlags := 10, code := some k1c1 }
def k1c2 : Code := { maxStack := 7, maxLocals := 15, code := code, exceptionTable := #[], attributes := #[] }
def k1m2 : Method := { name := "law", desc := "(IIIIJ)Z", sig := { parameters := [.int, .int, .int, .int, .long], returnType := some .boolean }, accessFlags := 9, code := some k1c2 }
/-- com/example/batchwright/batchwright/wire/BoundedOutputPutPinLaw -/
def k1 : Class := { plain "com/example/batchwright/batchwright/wire/BoundedOutputPutPinLaw" (some 0) with
  accessFlags := 49
  interfaces := #[]
  cf := some (fileOf pool1 26 #[] #[{ accessFlags := 1, nameIndex := 5, descriptorIndex := 6, attributes := #[] }, { accessFlags := 10, nameIndex := 29, descriptorIndex := 30, attributes := #[] }, { accessFlags := 9, nameIndex := 34, descriptorIndex := 35, attributes := #[] }] 49 2 #[] #[])
  fields := #[]
  methods := #[k1m0, k1m1, k1m2]
  instanceTypes := #[]
  staticTypes := #[]
  resolved := Array.replicate 40 none
  statics := none }

def pool2 : Array CpInfo := pool [(1, .methodref 2 3), (0, .class_ 4), (0, .nameAndType 5 6), (0, u "java/lang/Object"), (0, u "<init>"), (0, u "()V"), (0, .fieldref 8 9), (0, .class_ 10), (0, .nameAndType 11 12), (0, u "com/example/batchwright/batchwright/wire/BoundedOutput"), (0, u "array"), (0, u "[B"), (0, .fieldref 8 14), (0, .nameAndType 15 16), (0, u "position"), (0, u "I"), (0, .fieldref 8 18), (0, .nameAndType 19 16), (0, u "limit"), (6, u "put"), (0, u "(I)V"), (6, u "([BII)V"), (2, u "()I"), (1, u "overflowed"), (0, u "()Z")] 8

def k2c0 : Code := { maxStack := 2, maxLocals := 4, code := prog_50_method_1_code, exceptionTable := #[], attributes := #[] }
def k2m0 : Method := { name := "<init>", desc := "([BII)V", sig := { parameters := [(.array .byte), .int, .int], returnType := none }, accessFlags := 0, code := some k2c0 }
def k2c1 : Code := { maxStack := 1, maxLocals := 1, code := prog_50_method_2_code, exceptionTable := #[], attributes := #[] }
def k2m1 : Method := { name := "position", desc := "()I", sig := { parameters := [], returnType := some .int }, accessFlags := 0, code := some k2c1 }
def k2c2 : Code := { maxStack := 2, maxLocals := 1, code := prog_50_method_4_code, exceptionTable := #[], attributes := #[] }
def k2m2 : Method := { name := "overflowed", desc := "()Z", sig := { parameters := [], returnType := some .boolean }, accessFlags := 0, code := some k2c2 }
def k2c3 : Code := { maxStack := 3, maxLocals := 2, code := prog_50_method_5_code, exceptionTable := #[], attributes := #[] }
def k2m3 : Method := { name := "put", desc := "(I)V", sig := { parameters := [.int], returnType := none }, accessFlags := 0, code := some k2c3 }
/-- com/example/batchwright/batchwright/wire/BoundedOutput -/
def k2 : Class := { plain "com/example/batchwright/batchwright/wire/BoundedOutput" (some 0) with
  accessFlags := 48
  interfaces := #[]
  cf := some (fileOf pool2 8 #[] #[{ accessFlags := 0, nameIndex := 5, descriptorIndex := 34, attributes := #[] }, { accessFlags := 0, nameIndex := 15, descriptorIndex := 37, attributes := #[] }, { accessFlags := 0, nameIndex := 39, descriptorIndex := 40, attributes := #[] }, { accessFlags := 0, nameIndex := 26, descriptorIndex := 27, attributes := #[] }] 48 2 #[] #[{ accessFlags := 18, nameIndex := 11, descriptorIndex := 12, attributes := #[] }, { accessFlags := 18, nameIndex := 19, descriptorIndex := 16, attributes := #[] }, { accessFlags := 2, nameIndex := 15, descriptorIndex := 16, attributes := #[] }])
  fields := #[{ name := "array", type := (.array .byte), accessFlags := 18, slot := 0, constantValue := 0 }, { name := "limit", type := .int, accessFlags := 18, slot := 1, constantValue := 0 }, { name := "position", type := .int, accessFlags := 2, slot := 2, constantValue := 0 }]
  methods := #[k2m0, k2m1, k2m2, k2m3]
  instanceTypes := #[(.array .byte), .int, .int]
  staticTypes := #[]
  resolved := Array.replicate 49 none
  statics := none }

def pool3 : Array CpInfo := pool [(1, u "java/lang/Cloneable"), (0, .class_ 1), (0, u "java/lang/Object"), (0, .class_ 3)] 3

/-- java/lang/Cloneable -/
def k3 : Class := { plain "java/lang/Cloneable" (some 0) with
  accessFlags := 1537
  interfaces := #[]
  cf := some (fileOf pool3 2 #[] #[] 1537 4 #[] #[])
  fields := #[]
  methods := #[]
  instanceTypes := #[]
  staticTypes := #[]
  resolved := Array.replicate 8 none
  statics := none }

def pool4 : Array CpInfo := pool [(1, u "java/io/Serializable"), (0, .class_ 1), (0, u "java/lang/Object"), (0, .class_ 3)] 3

/-- java/io/Serializable -/
def k4 : Class := { plain "java/io/Serializable" (some 0) with
  accessFlags := 1537
  interfaces := #[]
  cf := some (fileOf pool4 2 #[] #[] 1537 4 #[] #[])
  fields := #[]
  methods := #[]
  instanceTypes := #[]
  staticTypes := #[]
  resolved := Array.replicate 8 none
  statics := none }

/-- the primitive byte -/
def k5 : Class := { plain "byte" none with kind := .primitive 'B', accessFlags := 0x411 }
/-- [B -/
def k6 : Class := { plain "[B" (some 0) with kind := .array 5 .byte, interfaces := #[3, 4], accessFlags := 1041 }

/-- the primitive int -/
def k7 : Class := { plain "int" none with kind := .primitive 'I', accessFlags := 0x411 }
/-- [I -/
def k8 : Class := { plain "[I" (some 0) with kind := .array 7 .int, interfaces := #[3, 4], accessFlags := 1041 }

def heap : Heap := #[]
def classes : Array Class := #[k0, k1, k2, k3, k4, k5, k6, k7, k8]
def interned : List (Array UInt16 × Addr) := []
def slotsUsed : Nat := 0
def theMethod : MethodId := ⟨1, 2⟩
def args0 : Array Value := #[.int 300, .int 7, .int 9, .int 3, .long 5]
def aboutOver (below : List Frame) : State where
  vm := { classes := classes, interned := interned.toArray }
  heap := heap
  slotsUsed := slotsUsed
  threads := #[{ frames := .invoking theMethod args0 :: below }]
def below0 : List Frame := [.native { method := ⟨0, 0⟩, args := #[] }]
def about1 : State := aboutOver below0
def p0 : Program := .bare "" "" ""
def e0 : Env := launch0.env 0 0 0
theorem w_frames : about1.frames = Frame.invoking theMethod args0 :: below0 := rfl
set_option maxRecDepth 65536 in
theorem w_args : argsFit about1.vm theMethod args0 = true := by decide +kernel
set_option maxRecDepth 65536 in
theorem w_heap : heapFits about1 = true := by decide +kernel
set_option maxRecDepth 65536 in
theorem w_runnable : about1.curStatus? = some .runnable := by decide +kernel
set_option maxRecDepth 65536 in
theorem w_alone : about1.alone = true := by decide +kernel
set_option maxRecDepth 65536 in
theorem w_named : about1.methodNamed? x = some theMethod := by decide +kernel
set_option maxRecDepth 65536 in
theorem w_hears : about1.hears theMethod below0 = true := by decide +kernel
set_option maxRecDepth 65536 in
theorem w_ripe : about1.ripe theMethod args0 below0 = true := by decide +kernel
theorem w_running : about1.status = .running := rfl
set_option maxRecDepth 65536 in
theorem w_room : about1.hasRoom e0.platform room_1 = true :=
  launch0.hasRoom_least _ room_1 (by decide +kernel) (by decide +kernel) (by decide +kernel) (by decide +kernel) (by decide +kernel) (by decide +kernel)
theorem allAtoms_all (ts : List Jvm.Cond) (a : Array Jvm.Value) (st : Jvm.State) : (allAtoms ts).before a st = ts.all (fun c => c.before a st) := by
  induction ts with
  | nil => rfl
  | cons c t ih =>
    show (Jvm.Cond.and c (allAtoms t)).before a st = _
    rw [Jvm.Cond.before_and, ih, List.all_cons]
def words1 : List Jvm.Cond := Jvm.Cond.code x code maxLocals ret :: tables_1
/-- a 'code' word, met by the world's own term for the bytes: nothing is compared byte by byte -/
theorem code_word {y : MethodName} {bytes : ByteArray} {mx : Nat} {rt : Option FieldType} {a : Array Value} {s : State} {m : MethodId} {meth : Method} {c : Code} (h1 : s.methodNamed? y = some m) (h2 : s.vm.method? m = some meth) (h3 : meth.code = some c) (h4 : c.code = bytes)
    (h5 : (c.maxLocals == mx && c.exceptionTable.isEmpty && decide (c.maxStack ≤ mostOperands) && decide (meth.sig.returnType = rt) && !meth.locks && decide (parseMethodDescriptor y.desc = some meth.sig)) = true) : (Jvm.Cond.code y bytes mx rt).before a s = true := by
  simp only [Bool.and_eq_true, beq_iff_eq, Bool.not_eq_true', decide_eq_true_eq] at h5
  obtain ⟨⟨⟨⟨⟨g1, g2⟩, g3⟩, g4⟩, g5⟩, g6⟩ := h5
  simp [Cond.before, Cond.holds, Cond.value, h1, h2, h3, h4, g1, g2, g3, g4, g5, g6]
def isCode : Jvm.Cond → Bool
  | .code _ _ _ _ => true
  | _ => false
theorem all_split {L : List Jvm.Cond} {P : Jvm.Cond → Bool} (h1 : L.all (fun c => isCode c || P c) = true) (h2 : ∀ c ∈ L.filter isCode, P c = true) : L.all P = true := by
  refine List.all_eq_true.mpr fun c hc => ?_
  have h := List.all_eq_true.mp h1 c hc
  rcases Bool.eq_false_or_eq_true (isCode c) with hi | hi
  · exact h2 c (List.mem_filter.mpr ⟨hc, hi⟩)
  · simpa [hi] using h
set_option maxRecDepth 65536 in
theorem w_c0 : (Jvm.Cond.code x code maxLocals ret).before args0 about1 = true := code_word (m := ⟨1, 2⟩) (meth := k1m2) (c := k1c2) (by decide +kernel) rfl rfl rfl (by decide +kernel)
set_option maxRecDepth 65536 in
theorem w_c1 : (Jvm.Cond.code ({ cls := "com/example/batchwright/batchwright/wire/BoundedOutput", name := "<init>", desc := "([BII)V" } : Jvm.MethodName) prog_50_method_1_code (4 : Nat) (Option.none : Option Jvm.ClassFile.FieldType)).before args0 about1 = true := code_word (m := ⟨2, 0⟩) (meth := k2m0) (c := k2c0) (by decide +kernel) rfl rfl rfl (by decide +kernel)
set_option maxRecDepth 65536 in
theorem w_c2 : (Jvm.Cond.code ({ cls := "java/lang/Object", name := "<init>", desc := "()V" } : Jvm.MethodName) object_method_1_code (1 : Nat) (Option.none : Option Jvm.ClassFile.FieldType)).before args0 about1 = true := code_word (m := ⟨0, 0⟩) (meth := k0m0) (c := k0c0) (by decide +kernel) rfl rfl rfl (by decide +kernel)
set_option maxRecDepth 65536 in
theorem w_c3 : (Jvm.Cond.code ({ cls := "com/example/batchwright/batchwright/wire/BoundedOutput", name := "put", desc := "(I)V" } : Jvm.MethodName) prog_50_method_5_code (2 : Nat) (Option.none : Option Jvm.ClassFile.FieldType)).before args0 about1 = true := code_word (m := ⟨2, 3⟩) (meth := k2m3) (c := k2c3) (by decide +kernel) rfl rfl rfl (by decide +kernel)
set_option maxRecDepth 65536 in
theorem w_c4 : (Jvm.Cond.code ({ cls := "com/example/batchwright/batchwright/wire/BoundedOutput", name := "position", desc := "()I" } : Jvm.MethodName) prog_50_method_2_code (1 : Nat) (Option.some Jvm.ClassFile.FieldType.int)).before args0 about1 = true := code_word (m := ⟨2, 1⟩) (meth := k2m1) (c := k2c1) (by decide +kernel) rfl rfl rfl (by decide +kernel)
set_option maxRecDepth 65536 in
theorem w_c5 : (Jvm.Cond.code ({ cls := "com/example/batchwright/batchwright/wire/BoundedOutput", name := "overflowed", desc := "()Z" } : Jvm.MethodName) prog_50_method_4_code (1 : Nat) (Option.some Jvm.ClassFile.FieldType.boolean)).before args0 about1 = true := code_word (m := ⟨2, 2⟩) (meth := k2m2) (c := k2c2) (by decide +kernel) rfl rfl rfl (by decide +kernel)
set_option maxRecDepth 65536 in
theorem w_c6 : (Jvm.Cond.code ({ cls := "com/example/batchwright/batchwright/wire/BoundedOutputPutPinLaw", name := "cell", desc := "([BIBIIII)Z" } : Jvm.MethodName) method_2_code (8 : Nat) (Option.some Jvm.ClassFile.FieldType.boolean)).before args0 about1 = true := code_word (m := ⟨1, 1⟩) (meth := k1m1) (c := k1c1) (by decide +kernel) rfl rfl rfl (by decide +kernel)
def codes1 : List Jvm.Cond := [Jvm.Cond.code x code maxLocals ret, Jvm.Cond.code ({ cls := "com/example/batchwright/batchwright/wire/BoundedOutput", name := "<init>", desc := "([BII)V" } : Jvm.MethodName) prog_50_method_1_code (4 : Nat) (Option.none : Option Jvm.ClassFile.FieldType), Jvm.Cond.code ({ cls := "java/lang/Object", name := "<init>", desc := "()V" } : Jvm.MethodName) object_method_1_code (1 : Nat) (Option.none : Option Jvm.ClassFile.FieldType), Jvm.Cond.code ({ cls := "com/example/batchwright/batchwright/wire/BoundedOutput", name := "put", desc := "(I)V" } : Jvm.MethodName) prog_50_method_5_code (2 : Nat) (Option.none : Option Jvm.ClassFile.FieldType), Jvm.Cond.code ({ cls := "com/example/batchwright/batchwright/wire/BoundedOutput", name := "position", desc := "()I" } : Jvm.MethodName) prog_50_method_2_code (1 : Nat) (Option.some Jvm.ClassFile.FieldType.int), Jvm.Cond.code ({ cls := "com/example/batchwright/batchwright/wire/BoundedOutput", name := "overflowed", desc := "()Z" } : Jvm.MethodName) prog_50_method_4_code (1 : Nat) (Option.some Jvm.ClassFile.FieldType.boolean), Jvm.Cond.code ({ cls := "com/example/batchwright/batchwright/wire/BoundedOutputPutPinLaw", name := "cell", desc := "([BIBIIII)Z" } : Jvm.MethodName) method_2_code (8 : Nat) (Option.some Jvm.ClassFile.FieldType.boolean)]
set_option maxRecDepth 65536 in
theorem codes_eq : words1.filter isCode = codes1 := rfl
theorem w_codes : ∀ c ∈ words1.filter isCode, c.before args0 about1 = true := by
  rw [codes_eq]
  intro c hc
  simp only [codes1, List.mem_cons, List.not_mem_nil, or_false] at hc
  rcases hc with rfl | rfl | rfl | rfl | rfl | rfl | rfl
  · exact w_c0
  · exact w_c1
  · exact w_c2
  · exact w_c3
  · exact w_c4
  · exact w_c5
  · exact w_c6
set_option maxRecDepth 65536 in
theorem w_t1 : (words1.take 24).all (fun c => isCode c || c.before args0 about1) = true := by decide +kernel
set_option maxRecDepth 65536 in
theorem w_t2 : (words1.drop 24).all (fun c => isCode c || c.before args0 about1) = true := by decide +kernel
theorem w_tables : (allAtoms (Jvm.Cond.code x code maxLocals ret :: tables_1)).before args0 about1 = true := by
  rw [allAtoms_all]
  show words1.all (fun c => c.before args0 about1) = true
  refine all_split ?_ w_codes
  rw [← List.take_append_drop 24 words1, List.all_append, w_t1, w_t2]
  rfl
set_option maxRecDepth 65536 in
theorem w_case : (Jvm.Cond.and given_1 narrow_1).before args0 about1 = true := by decide +kernel
theorem w_applies : (headSpec (Jvm.Cond.code x code maxLocals ret :: tables_1) room_1).applies x e0.platform about1 = true :=
  (Spec.applies_iff w_frames).mpr ⟨w_running, w_runnable, w_alone, w_named, w_hears, w_ripe, w_room, w_tables⟩
theorem atStart : AtStart classFile x code maxLocals ret World_1 tables_1 room_1 Calls_1 rest_1 Pre_1 launch0 p0 e0 about1 theMethod args0 below0 :=
  ⟨lists_1, trivial, launch0.admits_env _ _ _, launch0.least_env, fairChoices_fair.cas, fairChoices_fair.clock, w_frames, w_args, w_heap, w_applies, trivial, trivial, w_case⟩
end start1
theorem witness_1 : WitnessClaimed_1 := ⟨start1.p0, start1.e0, start1.about1, start1.theMethod, start1.args0, start1.below0, start1.atStart⟩
end Jvm.Pilot.@@N@@
