import JvmDerived
import JvmDerived.Pilot.@@N@@Statement
import JvmDerived.Pilot.@@N@@Code
set_option linter.unusedVariables false
set_option linter.unusedSimpArgs false
namespace Jvm.Pilot.@@N@@
open Jvm Jvm.ClassFile Sem Op Lib Jvm.Free Jvm.Stand Jvm.LawKit Jvm.RoadKit Bundle Jvm.Pilot.@@N@@.Jvm.D
/-- from any state that stands here with this heap the walk comes to a return with Q -/
def Go (p : Program) (l : Launch) (e : Env) (R : Room) (s : State) (m : MethodId) (args : Array Value) (below : List Frame) (meth : Method) (c : Code) (n0 : Nat) (Q : Option Value → Heap → Prop) (h : Heap) (k n : Nat) (f : JFrame) : Prop :=
  ∀ T L, Stand p l e R s m args below meth c T L k n → T.heap = h → Fr n0 L →
    ∃ s₂ o, Steps p.tables e below (T.setTop f) s₂ ∧ s₂.status = .running ∧ Ended s₂ below o ∧
      ∃ v L', o = .returned v ∧ (Q v s₂.heap ∧ Fr n0 L') ∧ FrameEnd s o s₂ L' R.cells R.slots
/-- what is known of the body that is walked -/
def Kx (Z : State) (own nm : String) (bytes : ByteArray) (ml : Nat) (rt : Option FieldType) (p : Program) (s : State) (m : MethodId) (meth : Method) (c : Code) : Prop :=
  p.tables.exec = Jvm.exec ∧ Z.Warmed39 s.vm ∧ s.vm.findClass own = some m.cls ∧ c.code = bytes ∧ c.maxLocals = ml ∧ meth.sig.returnType = rt ∧ meth.locks = false ∧ meth.name = nm
/-- a method's contract, at given arguments and heap -/
def Meets (l : Launch) (y : MethodName) (bytes : ByteArray) (ml : Nat) (rt : Option FieldType) (rm : Room) (Z : State) (as : Array Value) (h0 : Heap) (n0 : Nat) (Q : Option Value → Heap → Prop) : Prop :=
  ∀ ws : List Jvm.Cond, MetFree l y (head1 (Jvm.Cond.code y bytes ml rt :: ws) rm) (fun a U => a = as ∧ Z.Warmed39 U.vm ∧ U.heap = h0) (fun _ _ _ _ _ => True)
    (fun _ U o U' => ∃ v L, o = .returned v ∧ (Q v U'.heap ∧ Fr n0 L) ∧ FrameEnd U o U' L rm.cells rm.slots)
/-- an array of ints, bytes, booleans ..: its values as a list -/
def IA (Z : State) (h : Heap) (a : Addr) (ty : FieldType) (xs : List Int32) : Prop := ∃ cl : Cell, Arr Z h a cl ty ∧ cl.slots = (xs.map Value.int).toArray
/-- an array of longs -/
def LA (Z : State) (h : Heap) (a : Addr) (xs : List Int64) : Prop := ∃ cl : Cell, Arr Z h a cl .long ∧ cl.slots = (xs.map Value.long).toArray
section ArrFacts
variable {Z : State} {h h' : Heap} {a : Addr} {ty : FieldType} {xs : List Int32} {ys : List Int64} {ws : List Addr}
theorem IA.keep (F : IA Z h a ty xs) (K : Keep h h' ws) (q : a ∉ ws) : IA Z h' a ty xs := by obtain ⟨c, A, r⟩ := F; exact ⟨c, ⟨K.2.1 a c A.1 q, A.2⟩, r⟩
theorem LA.keep (F : LA Z h a ys) (K : Keep h h' ws) (q : a ∉ ws) : LA Z h' a ys := by obtain ⟨c, A, r⟩ := F; exact ⟨c, ⟨K.2.1 a c A.1 q, A.2⟩, r⟩
theorem IA.lt (F : IA Z h a ty xs) : a < h.size := by obtain ⟨c, A, -⟩ := F; exact A.lt
theorem LA.lt (F : LA Z h a ys) : a < h.size := by obtain ⟨c, A, -⟩ := F; exact A.lt
theorem IA.set {j : Nat} {x : Int32} (F : IA Z h a ty xs) (W : Wr h h' a j (.int x)) : IA Z h' a ty (xs.set j x) := by
  obtain ⟨c, A, r⟩ := F
  refine ⟨_, A.same W, ?_⟩
  simp [Cell.setSlot, r, List.map_set]
theorem LA.set {j : Nat} {x : Int64} (F : LA Z h a ys) (W : Wr h h' a j (.long x)) : LA Z h' a (ys.set j x) := by
  obtain ⟨c, A, r⟩ := F
  refine ⟨_, A.same W, ?_⟩
  simp [Cell.setSlot, r, List.map_set]
theorem keep_ext (E : Ext h h') : Keep h h' [] := (Keep.refl h []).ext E
theorem own_clamp {j : Int32} {n : Nat} (h0 : ¬ j < 0) (hn : j.toNatClampNeg < n) {cl : Cell} (hs : cl.slots.size = n) : ¬ (j < 0 ∨ cl.slots.size ≤ j.toNatClampNeg) := by
  rw [hs]; rintro (q | q)
  · exact h0 q
  · omega
theorem own_ne_of_lt {a b : Nat} {h : Heap} (q : a < h.size) (r : b = h.size) : a ≠ b := by omega
end ArrFacts
section GoSteps
variable {p : Program} {l : Launch} {e : Env} {R : Room} {s : State} {m : MethodId} {args : Array Value} {below : List Frame} {meth : Method} {c : Code} {n0 : Nat} {Q : Option Value → Heap → Prop} {h : Heap} {k n : Nat} {Z : State} {own nm : String} {bytes : ByteArray} {ml : Nat} {rt : Option FieldType} {Ls : Array Slot} {st : List Value} {a0 : Array Value}
theorem go_step {f f' : JFrame} (st : ∀ T L, Stand p l e R s m args below meth c T L k n → ∀ t, Steps p.tables e below (T.setTop f') t → Steps p.tables e below (T.setTop f) t) (hr : Go p l e R s m args below meth c n0 Q h k n f') : Go p l e R s m args below meth c n0 Q h k n f := by
  intro T L X eT N
  obtain ⟨s₂, o, S, r⟩ := hr T L X eT N
  exact ⟨s₂, o, st T L X _ S, r⟩
theorem go_mono {f : JFrame} {k' n' : Nat} (hk : k ≤ k') (hn : n ≤ n') (hr : Go p l e R s m args below meth c n0 Q h k' n' f) : Go p l e R s m args below meth c n0 Q h k n f := by
  intro T L X eT N
  exact hr T L (X.more hk hn) eT N
theorem go_post {f : JFrame} {Q' : Option Value → Heap → Prop} (hq : ∀ v h, Q' v h → Q v h) (hr : Go p l e R s m args below meth c n0 Q' h k n f) : Go p l e R s m args below meth c n0 Q h k n f := by
  intro T L X eT N
  obtain ⟨s₂, o, S, r1, r2, v, L', q1, q2, q3⟩ := hr T L X eT N
  exact ⟨s₂, o, S, r1, r2, v, L', q1, ⟨hq _ _ q2.1, q2.2⟩, q3⟩
theorem go_cast {pc : Nat} {k' n' : Nat} {st' : List Value} (q1 : k = k') (q2 : n = n') (q3 : st = st') (hr : Go p l e R s m args below meth c n0 Q h k' n' (mkF m pc Ls st')) : Go p l e R s m args below meth c n0 Q h k n (mkF m pc Ls st) := by subst q1 q2 q3; exact hr
theorem g_iload (K : Kx Z own nm bytes ml rt p s m meth c) (pc : Nat) {i : Nat} {v : Int32} (hd : decode bytes pc = .ok (.iload i, 2)) (hl : Ls[i]? = some (.val (.int v))) (hr : Go p l e R s m args below meth c n0 Q h k n (mkF m (pc + 2) Ls (.int v :: st))) : Go p l e R s m args below meth c n0 Q h k n (mkF m pc Ls st) :=
  go_step (fun T L X t S => XS.iload X.here K.1 rfl (hb K.2.2.2.1 hd) hl S) hr
theorem g_iloadN (K : Kx Z own nm bytes ml rt p s m meth c) (pc : Nat) {i : Fin 4} {v : Int32} (hd : decode bytes pc = .ok (.iload_n i, 1)) (hl : Ls[i.val]? = some (.val (.int v))) (hr : Go p l e R s m args below meth c n0 Q h k n (mkF m (pc + 1) Ls (.int v :: st))) : Go p l e R s m args below meth c n0 Q h k n (mkF m pc Ls st) :=
  go_step (fun T L X t S => XS.iloadN X.here K.1 rfl (hb K.2.2.2.1 hd) hl S) hr
theorem g_lload (K : Kx Z own nm bytes ml rt p s m meth c) (pc : Nat) {i : Nat} {v : Int64} (hd : decode bytes pc = .ok (.lload i, 2)) (hl : Ls[i]? = some (.val (.long v))) (hr : Go p l e R s m args below meth c n0 Q h k n (mkF m (pc + 2) Ls (.long v :: st))) : Go p l e R s m args below meth c n0 Q h k n (mkF m pc Ls st) :=
  go_step (fun T L X t S => XT.lload X.here K.1 rfl (hb K.2.2.2.1 hd) hl S) hr
theorem g_lloadN (K : Kx Z own nm bytes ml rt p s m meth c) (pc : Nat) {i : Fin 4} {v : Int64} (hd : decode bytes pc = .ok (.lload_n i, 1)) (hl : Ls[i.val]? = some (.val (.long v))) (hr : Go p l e R s m args below meth c n0 Q h k n (mkF m (pc + 1) Ls (.long v :: st))) : Go p l e R s m args below meth c n0 Q h k n (mkF m pc Ls st) :=
  go_step (fun T L X t S => XT.lloadN X.here K.1 rfl (hb K.2.2.2.1 hd) hl S) hr
theorem g_aload (K : Kx Z own nm bytes ml rt p s m meth c) (pc : Nat) {i : Nat} {v : Value} (hd : decode bytes pc = .ok (.aload i, 2)) (hl : Ls[i]? = some (.val v)) (hv : v.isRef = true) (hr : Go p l e R s m args below meth c n0 Q h k n (mkF m (pc + 2) Ls (v :: st))) : Go p l e R s m args below meth c n0 Q h k n (mkF m pc Ls st) :=
  go_step (fun T L X t S => XS.aload X.here K.1 rfl (hb K.2.2.2.1 hd) hl hv S) hr
theorem g_aloadN (K : Kx Z own nm bytes ml rt p s m meth c) (pc : Nat) {i : Fin 4} {v : Value} (hd : decode bytes pc = .ok (.aload_n i, 1)) (hl : Ls[i.val]? = some (.val v)) (hv : v.isRef = true) (hr : Go p l e R s m args below meth c n0 Q h k n (mkF m (pc + 1) Ls (v :: st))) : Go p l e R s m args below meth c n0 Q h k n (mkF m pc Ls st) :=
  go_step (fun T L X t S => XS.aloadN X.here K.1 rfl (hb K.2.2.2.1 hd) hl hv S) hr
theorem g_istore (K : Kx Z own nm bytes ml rt p s m meth c) (pc : Nat) {i : Nat} {v : Int32} (l' : Array Slot) (hd : decode bytes pc = .ok (.istore i, 2)) (hl : storeLocals Ls i (.int v) = some l') (hr : Go p l e R s m args below meth c n0 Q h k n (mkF m (pc + 2) l' st)) : Go p l e R s m args below meth c n0 Q h k n (mkF m pc Ls (.int v :: st)) :=
  go_step (fun T L X t S => XS.istore X.here K.1 rfl (hb K.2.2.2.1 hd) rfl hl S) hr
theorem g_istoreN (K : Kx Z own nm bytes ml rt p s m meth c) (pc : Nat) {i : Fin 4} {v : Int32} (l' : Array Slot) (hd : decode bytes pc = .ok (.istore_n i, 1)) (hl : storeLocals Ls i.val (.int v) = some l') (hr : Go p l e R s m args below meth c n0 Q h k n (mkF m (pc + 1) l' st)) : Go p l e R s m args below meth c n0 Q h k n (mkF m pc Ls (.int v :: st)) :=
  go_step (fun T L X t S => XS.istoreN X.here K.1 rfl (hb K.2.2.2.1 hd) rfl hl S) hr
theorem g_lstore (K : Kx Z own nm bytes ml rt p s m meth c) (pc : Nat) {i : Nat} {v : Int64} (l' : Array Slot) (hd : decode bytes pc = .ok (.lstore i, 2)) (hl : storeLocals Ls i (.long v) = some l') (hr : Go p l e R s m args below meth c n0 Q h k n (mkF m (pc + 2) l' st)) : Go p l e R s m args below meth c n0 Q h k n (mkF m pc Ls (.long v :: st)) :=
  go_step (fun T L X t S => XT.lstore X.here K.1 rfl (hb K.2.2.2.1 hd) rfl hl S) hr
theorem g_lstoreN (K : Kx Z own nm bytes ml rt p s m meth c) (pc : Nat) {i : Fin 4} {v : Int64} (l' : Array Slot) (hd : decode bytes pc = .ok (.lstore_n i, 1)) (hl : storeLocals Ls i.val (.long v) = some l') (hr : Go p l e R s m args below meth c n0 Q h k n (mkF m (pc + 1) l' st)) : Go p l e R s m args below meth c n0 Q h k n (mkF m pc Ls (.long v :: st)) :=
  go_step (fun T L X t S => XT.lstoreN X.here K.1 rfl (hb K.2.2.2.1 hd) rfl hl S) hr
theorem g_astore (K : Kx Z own nm bytes ml rt p s m meth c) (pc : Nat) {i : Nat} {v : Value} (l' : Array Slot) (hd : decode bytes pc = .ok (.astore i, 2)) (hv : v.isRef = true) (hl : storeLocals Ls i v = some l') (hr : Go p l e R s m args below meth c n0 Q h k n (mkF m (pc + 2) l' st)) : Go p l e R s m args below meth c n0 Q h k n (mkF m pc Ls (v :: st)) :=
  go_step (fun T L X t S => XS.astore X.here K.1 rfl (hb K.2.2.2.1 hd) rfl hv hl S) hr
theorem g_astoreN (K : Kx Z own nm bytes ml rt p s m meth c) (pc : Nat) {i : Fin 4} {v : Value} (l' : Array Slot) (hd : decode bytes pc = .ok (.astore_n i, 1)) (hv : v.isRef = true) (hl : storeLocals Ls i.val v = some l') (hr : Go p l e R s m args below meth c n0 Q h k n (mkF m (pc + 1) l' st)) : Go p l e R s m args below meth c n0 Q h k n (mkF m pc Ls (v :: st)) :=
  go_step (fun T L X t S => XS.astoreN X.here K.1 rfl (hb K.2.2.2.1 hd) rfl hv hl S) hr
theorem g_iconst (K : Kx Z own nm bytes ml rt p s m meth c) (pc : Nat) {i : Int} (v : Int32) (hd : decode bytes pc = .ok (.iconst i, 1)) (hv : Int32.ofInt i = v) (hr : Go p l e R s m args below meth c n0 Q h k n (mkF m (pc + 1) Ls (.int v :: st))) : Go p l e R s m args below meth c n0 Q h k n (mkF m pc Ls st) :=
  go_step (fun T L X t S => XT.iconstV X.here K.1 rfl v (hb K.2.2.2.1 hd) hv S) hr
theorem g_bipush (K : Kx Z own nm bytes ml rt p s m meth c) (pc : Nat) {i : Int} (v : Int32) (hd : decode bytes pc = .ok (.bipush i, 2)) (hv : (Int8.ofInt i).toInt32 = v) (hr : Go p l e R s m args below meth c n0 Q h k n (mkF m (pc + 2) Ls (.int v :: st))) : Go p l e R s m args below meth c n0 Q h k n (mkF m pc Ls st) :=
  go_step (fun T L X t S => XT.bipushV X.here K.1 rfl v (hb K.2.2.2.1 hd) hv S) hr
theorem g_sipush (K : Kx Z own nm bytes ml rt p s m meth c) (pc : Nat) {i : Int} (v : Int32) (hd : decode bytes pc = .ok (.sipush i, 3)) (hv : (Int16.ofInt i).toInt32 = v) (hr : Go p l e R s m args below meth c n0 Q h k n (mkF m (pc + 3) Ls (.int v :: st))) : Go p l e R s m args below meth c n0 Q h k n (mkF m pc Ls st) :=
  go_step (fun T L X t S => XT.sipushV X.here K.1 rfl v (hb K.2.2.2.1 hd) hv S) hr
theorem g_lconst (K : Kx Z own nm bytes ml rt p s m meth c) (pc : Nat) {i : Fin 2} (v : Int64) (hd : decode bytes pc = .ok (.lconst i, 1)) (hv : Int64.ofNat i = v) (hr : Go p l e R s m args below meth c n0 Q h k n (mkF m (pc + 1) Ls (.long v :: st))) : Go p l e R s m args below meth c n0 Q h k n (mkF m pc Ls st) :=
  go_step (fun T L X t S => XT.lconstV X.here K.1 rfl v (hb K.2.2.2.1 hd) hv S) hr
theorem g_aconst_null (K : Kx Z own nm bytes ml rt p s m meth c) (pc : Nat)  (hd : decode bytes pc = .ok (.aconst_null, 1))  (hr : Go p l e R s m args below meth c n0 Q h k n (mkF m (pc + 1) Ls (.null :: st))) : Go p l e R s m args below meth c n0 Q h k n (mkF m pc Ls st) :=
  go_step (fun T L X t S => XS.aconstNull X.here K.1 rfl (hb K.2.2.2.1 hd)  S) hr
theorem g_iinc (K : Kx Z own nm bytes ml rt p s m meth c) (pc : Nat) {i : Nat} {cst : Int} {x : Int32} (v : Int32) (l' : Array Slot) (hd : decode bytes pc = .ok (.iinc i cst, 3)) (hv : Int32.ofInt cst = v) (hl : Ls[i]? = some (.val (.int x))) (hl' : storeLocals Ls i (.int (x + v)) = some l') (hr : Go p l e R s m args below meth c n0 Q h k n (mkF m (pc + 3) l' st)) : Go p l e R s m args below meth c n0 Q h k n (mkF m pc Ls st) :=
  go_step (fun T L X t S => XT.iincV X.here K.1 rfl v (hb K.2.2.2.1 hd) hv hl hl' S) hr
theorem g_iadd (K : Kx Z own nm bytes ml rt p s m meth c) (pc : Nat) {x y : Int32} (hd : decode bytes pc = .ok (.iadd, 1))  (hr : Go p l e R s m args below meth c n0 Q h k n (mkF m (pc + 1) Ls (.int (x + y) :: st))) : Go p l e R s m args below meth c n0 Q h k n (mkF m pc Ls (.int y :: .int x :: st)) :=
  go_step (fun T L X t S => XS.iadd X.here K.1 rfl (hb K.2.2.2.1 hd) rfl S) hr
theorem g_isub (K : Kx Z own nm bytes ml rt p s m meth c) (pc : Nat) {x y : Int32} (hd : decode bytes pc = .ok (.isub, 1))  (hr : Go p l e R s m args below meth c n0 Q h k n (mkF m (pc + 1) Ls (.int (x - y) :: st))) : Go p l e R s m args below meth c n0 Q h k n (mkF m pc Ls (.int y :: .int x :: st)) :=
  go_step (fun T L X t S => XS.isub X.here K.1 rfl (hb K.2.2.2.1 hd) rfl S) hr
theorem g_imul (K : Kx Z own nm bytes ml rt p s m meth c) (pc : Nat) {x y : Int32} (hd : decode bytes pc = .ok (.imul, 1))  (hr : Go p l e R s m args below meth c n0 Q h k n (mkF m (pc + 1) Ls (.int (x * y) :: st))) : Go p l e R s m args below meth c n0 Q h k n (mkF m pc Ls (.int y :: .int x :: st)) :=
  go_step (fun T L X t S => XS.imul X.here K.1 rfl (hb K.2.2.2.1 hd) rfl S) hr
theorem g_iand (K : Kx Z own nm bytes ml rt p s m meth c) (pc : Nat) {x y : Int32} (hd : decode bytes pc = .ok (.iand, 1))  (hr : Go p l e R s m args below meth c n0 Q h k n (mkF m (pc + 1) Ls (.int (x &&& y) :: st))) : Go p l e R s m args below meth c n0 Q h k n (mkF m pc Ls (.int y :: .int x :: st)) :=
  go_step (fun T L X t S => XS.iand X.here K.1 rfl (hb K.2.2.2.1 hd) rfl S) hr
theorem g_ior (K : Kx Z own nm bytes ml rt p s m meth c) (pc : Nat) {x y : Int32} (hd : decode bytes pc = .ok (.ior, 1))  (hr : Go p l e R s m args below meth c n0 Q h k n (mkF m (pc + 1) Ls (.int (x ||| y) :: st))) : Go p l e R s m args below meth c n0 Q h k n (mkF m pc Ls (.int y :: .int x :: st)) :=
  go_step (fun T L X t S => XT.ior X.here K.1 rfl (hb K.2.2.2.1 hd) rfl S) hr
theorem g_ixor (K : Kx Z own nm bytes ml rt p s m meth c) (pc : Nat) {x y : Int32} (hd : decode bytes pc = .ok (.ixor, 1))  (hr : Go p l e R s m args below meth c n0 Q h k n (mkF m (pc + 1) Ls (.int (x ^^^ y) :: st))) : Go p l e R s m args below meth c n0 Q h k n (mkF m pc Ls (.int y :: .int x :: st)) :=
  go_step (fun T L X t S => XT.ixor X.here K.1 rfl (hb K.2.2.2.1 hd) rfl S) hr
theorem g_ishl (K : Kx Z own nm bytes ml rt p s m meth c) (pc : Nat) {x y : Int32} (hd : decode bytes pc = .ok (.ishl, 1))  (hr : Go p l e R s m args below meth c n0 Q h k n (mkF m (pc + 1) Ls (.int (x <<< (y &&& 31)) :: st))) : Go p l e R s m args below meth c n0 Q h k n (mkF m pc Ls (.int y :: .int x :: st)) :=
  go_step (fun T L X t S => XT.ishl X.here K.1 rfl (hb K.2.2.2.1 hd) rfl S) hr
theorem g_ishr (K : Kx Z own nm bytes ml rt p s m meth c) (pc : Nat) {x y : Int32} (hd : decode bytes pc = .ok (.ishr, 1))  (hr : Go p l e R s m args below meth c n0 Q h k n (mkF m (pc + 1) Ls (.int (x >>> (y &&& 31)) :: st))) : Go p l e R s m args below meth c n0 Q h k n (mkF m pc Ls (.int y :: .int x :: st)) :=
  go_step (fun T L X t S => XT.ishr X.here K.1 rfl (hb K.2.2.2.1 hd) rfl S) hr
theorem g_iushr (K : Kx Z own nm bytes ml rt p s m meth c) (pc : Nat) {x y : Int32} (hd : decode bytes pc = .ok (.iushr, 1))  (hr : Go p l e R s m args below meth c n0 Q h k n (mkF m (pc + 1) Ls (.int (XT.ushr x y) :: st))) : Go p l e R s m args below meth c n0 Q h k n (mkF m pc Ls (.int y :: .int x :: st)) :=
  go_step (fun T L X t S => XT.iushr X.here K.1 rfl (hb K.2.2.2.1 hd) rfl S) hr
theorem g_idiv (K : Kx Z own nm bytes ml rt p s m meth c) (pc : Nat) {x y : Int32} (hd : decode bytes pc = .ok (.idiv, 1)) (hy : y ≠ 0) (hr : Go p l e R s m args below meth c n0 Q h k n (mkF m (pc + 1) Ls (.int (x / y) :: st))) : Go p l e R s m args below meth c n0 Q h k n (mkF m pc Ls (.int y :: .int x :: st)) :=
  go_step (fun T L X t S => XS.idiv X.here K.1 rfl (hb K.2.2.2.1 hd) rfl hy S) hr
theorem g_irem (K : Kx Z own nm bytes ml rt p s m meth c) (pc : Nat) {x y : Int32} (hd : decode bytes pc = .ok (.irem, 1)) (hy : y ≠ 0) (hr : Go p l e R s m args below meth c n0 Q h k n (mkF m (pc + 1) Ls (.int (x % y) :: st))) : Go p l e R s m args below meth c n0 Q h k n (mkF m pc Ls (.int y :: .int x :: st)) :=
  go_step (fun T L X t S => iremM X K.1 rfl (hb K.2.2.2.1 hd) rfl hy S) hr
theorem g_ineg (K : Kx Z own nm bytes ml rt p s m meth c) (pc : Nat) {x : Int32} (hd : decode bytes pc = .ok (.ineg, 1))  (hr : Go p l e R s m args below meth c n0 Q h k n (mkF m (pc + 1) Ls (.int (-x) :: st))) : Go p l e R s m args below meth c n0 Q h k n (mkF m pc Ls (.int x :: st)) :=
  go_step (fun T L X t S => XS.ineg X.here K.1 rfl (hb K.2.2.2.1 hd) rfl S) hr
theorem g_ladd (K : Kx Z own nm bytes ml rt p s m meth c) (pc : Nat) {x y : Int64} (hd : decode bytes pc = .ok (.ladd, 1))  (hr : Go p l e R s m args below meth c n0 Q h k n (mkF m (pc + 1) Ls (.long (x + y) :: st))) : Go p l e R s m args below meth c n0 Q h k n (mkF m pc Ls (.long y :: .long x :: st)) :=
  go_step (fun T L X t S => XT.ladd X.here K.1 rfl (hb K.2.2.2.1 hd) rfl S) hr
theorem g_lsub (K : Kx Z own nm bytes ml rt p s m meth c) (pc : Nat) {x y : Int64} (hd : decode bytes pc = .ok (.lsub, 1))  (hr : Go p l e R s m args below meth c n0 Q h k n (mkF m (pc + 1) Ls (.long (x - y) :: st))) : Go p l e R s m args below meth c n0 Q h k n (mkF m pc Ls (.long y :: .long x :: st)) :=
  go_step (fun T L X t S => XT.lsub X.here K.1 rfl (hb K.2.2.2.1 hd) rfl S) hr
theorem g_lmul (K : Kx Z own nm bytes ml rt p s m meth c) (pc : Nat) {x y : Int64} (hd : decode bytes pc = .ok (.lmul, 1))  (hr : Go p l e R s m args below meth c n0 Q h k n (mkF m (pc + 1) Ls (.long (x * y) :: st))) : Go p l e R s m args below meth c n0 Q h k n (mkF m pc Ls (.long y :: .long x :: st)) :=
  go_step (fun T L X t S => XT.lmul X.here K.1 rfl (hb K.2.2.2.1 hd) rfl S) hr
theorem g_land (K : Kx Z own nm bytes ml rt p s m meth c) (pc : Nat) {x y : Int64} (hd : decode bytes pc = .ok (.land, 1))  (hr : Go p l e R s m args below meth c n0 Q h k n (mkF m (pc + 1) Ls (.long (x &&& y) :: st))) : Go p l e R s m args below meth c n0 Q h k n (mkF m pc Ls (.long y :: .long x :: st)) :=
  go_step (fun T L X t S => XT.land X.here K.1 rfl (hb K.2.2.2.1 hd) rfl S) hr
theorem g_lor (K : Kx Z own nm bytes ml rt p s m meth c) (pc : Nat) {x y : Int64} (hd : decode bytes pc = .ok (.lor, 1))  (hr : Go p l e R s m args below meth c n0 Q h k n (mkF m (pc + 1) Ls (.long (x ||| y) :: st))) : Go p l e R s m args below meth c n0 Q h k n (mkF m pc Ls (.long y :: .long x :: st)) :=
  go_step (fun T L X t S => XT.lor X.here K.1 rfl (hb K.2.2.2.1 hd) rfl S) hr
theorem g_lxor (K : Kx Z own nm bytes ml rt p s m meth c) (pc : Nat) {x y : Int64} (hd : decode bytes pc = .ok (.lxor, 1))  (hr : Go p l e R s m args below meth c n0 Q h k n (mkF m (pc + 1) Ls (.long (x ^^^ y) :: st))) : Go p l e R s m args below meth c n0 Q h k n (mkF m pc Ls (.long y :: .long x :: st)) :=
  go_step (fun T L X t S => XT.lxor X.here K.1 rfl (hb K.2.2.2.1 hd) rfl S) hr
theorem g_ldiv (K : Kx Z own nm bytes ml rt p s m meth c) (pc : Nat) {x y : Int64} (hd : decode bytes pc = .ok (.ldiv, 1)) (hy : y ≠ 0) (hr : Go p l e R s m args below meth c n0 Q h k n (mkF m (pc + 1) Ls (.long (x / y) :: st))) : Go p l e R s m args below meth c n0 Q h k n (mkF m pc Ls (.long y :: .long x :: st)) :=
  go_step (fun T L X t S => XT.ldiv X.here K.1 rfl (hb K.2.2.2.1 hd) rfl hy S) hr
theorem g_lshl (K : Kx Z own nm bytes ml rt p s m meth c) (pc : Nat) {x : Int64} {y : Int32} (hd : decode bytes pc = .ok (.lshl, 1))  (hr : Go p l e R s m args below meth c n0 Q h k n (mkF m (pc + 1) Ls (.long (x <<< (y.toInt64 &&& 63)) :: st))) : Go p l e R s m args below meth c n0 Q h k n (mkF m pc Ls (.int y :: .long x :: st)) :=
  go_step (fun T L X t S => XT.lshl X.here K.1 rfl (hb K.2.2.2.1 hd) rfl S) hr
theorem g_lshr (K : Kx Z own nm bytes ml rt p s m meth c) (pc : Nat) {x : Int64} {y : Int32} (hd : decode bytes pc = .ok (.lshr, 1))  (hr : Go p l e R s m args below meth c n0 Q h k n (mkF m (pc + 1) Ls (.long (x >>> (y.toInt64 &&& 63)) :: st))) : Go p l e R s m args below meth c n0 Q h k n (mkF m pc Ls (.int y :: .long x :: st)) :=
  go_step (fun T L X t S => XT.lshr X.here K.1 rfl (hb K.2.2.2.1 hd) rfl S) hr
theorem g_lushr (K : Kx Z own nm bytes ml rt p s m meth c) (pc : Nat) {x : Int64} {y : Int32} (hd : decode bytes pc = .ok (.lushr, 1))  (hr : Go p l e R s m args below meth c n0 Q h k n (mkF m (pc + 1) Ls (.long (XT.ushrL x y) :: st))) : Go p l e R s m args below meth c n0 Q h k n (mkF m pc Ls (.int y :: .long x :: st)) :=
  go_step (fun T L X t S => XT.lushr X.here K.1 rfl (hb K.2.2.2.1 hd) rfl S) hr
theorem g_lneg (K : Kx Z own nm bytes ml rt p s m meth c) (pc : Nat) {x : Int64} (hd : decode bytes pc = .ok (.lneg, 1))  (hr : Go p l e R s m args below meth c n0 Q h k n (mkF m (pc + 1) Ls (.long (-x) :: st))) : Go p l e R s m args below meth c n0 Q h k n (mkF m pc Ls (.long x :: st)) :=
  go_step (fun T L X t S => XT.lneg X.here K.1 rfl (hb K.2.2.2.1 hd) rfl S) hr
theorem g_i2l (K : Kx Z own nm bytes ml rt p s m meth c) (pc : Nat) {x : Int32} (hd : decode bytes pc = .ok (.i2l, 1))  (hr : Go p l e R s m args below meth c n0 Q h k n (mkF m (pc + 1) Ls (.long x.toInt64 :: st))) : Go p l e R s m args below meth c n0 Q h k n (mkF m pc Ls (.int x :: st)) :=
  go_step (fun T L X t S => XT.i2l X.here K.1 rfl (hb K.2.2.2.1 hd) rfl S) hr
theorem g_l2i (K : Kx Z own nm bytes ml rt p s m meth c) (pc : Nat) {x : Int64} (hd : decode bytes pc = .ok (.l2i, 1))  (hr : Go p l e R s m args below meth c n0 Q h k n (mkF m (pc + 1) Ls (.int x.toInt32 :: st))) : Go p l e R s m args below meth c n0 Q h k n (mkF m pc Ls (.long x :: st)) :=
  go_step (fun T L X t S => XT.l2i X.here K.1 rfl (hb K.2.2.2.1 hd) rfl S) hr
theorem g_i2b (K : Kx Z own nm bytes ml rt p s m meth c) (pc : Nat) {x : Int32} (hd : decode bytes pc = .ok (.i2b, 1))  (hr : Go p l e R s m args below meth c n0 Q h k n (mkF m (pc + 1) Ls (.int x.toInt8.toInt32 :: st))) : Go p l e R s m args below meth c n0 Q h k n (mkF m pc Ls (.int x :: st)) :=
  go_step (fun T L X t S => XT.i2b X.here K.1 rfl (hb K.2.2.2.1 hd) rfl S) hr
theorem g_i2s (K : Kx Z own nm bytes ml rt p s m meth c) (pc : Nat) {x : Int32} (hd : decode bytes pc = .ok (.i2s, 1))  (hr : Go p l e R s m args below meth c n0 Q h k n (mkF m (pc + 1) Ls (.int x.toInt16.toInt32 :: st))) : Go p l e R s m args below meth c n0 Q h k n (mkF m pc Ls (.int x :: st)) :=
  go_step (fun T L X t S => XT.i2s X.here K.1 rfl (hb K.2.2.2.1 hd) rfl S) hr
theorem g_lcmp (K : Kx Z own nm bytes ml rt p s m meth c) (pc : Nat) {x y : Int64} (hd : decode bytes pc = .ok (.lcmp, 1))  (hr : Go p l e R s m args below meth c n0 Q h k n (mkF m (pc + 1) Ls (.int (XT.cmpL x y) :: st))) : Go p l e R s m args below meth c n0 Q h k n (mkF m pc Ls (.long y :: .long x :: st)) :=
  go_step (fun T L X t S => XT.lcmp X.here K.1 rfl (hb K.2.2.2.1 hd) rfl S) hr
theorem g_dup (K : Kx Z own nm bytes ml rt p s m meth c) (pc : Nat) {v : Value} (hd : decode bytes pc = .ok (.dup, 1)) (hc : v.category = 1) (hr : Go p l e R s m args below meth c n0 Q h k n (mkF m (pc + 1) Ls (v :: v :: st))) : Go p l e R s m args below meth c n0 Q h k n (mkF m pc Ls (v :: st)) :=
  go_step (fun T L X t S => XS.dup X.here K.1 rfl (hb K.2.2.2.1 hd) rfl hc S) hr
theorem g_pop (K : Kx Z own nm bytes ml rt p s m meth c) (pc : Nat) {v : Value} (hd : decode bytes pc = .ok (.pop, 1)) (hc : v.category = 1) (hr : Go p l e R s m args below meth c n0 Q h k n (mkF m (pc + 1) Ls st)) : Go p l e R s m args below meth c n0 Q h k n (mkF m pc Ls (v :: st)) :=
  go_step (fun T L X t S => XT.pop X.here K.1 rfl (hb K.2.2.2.1 hd) rfl hc S) hr
theorem g_goto (K : Kx Z own nm bytes ml rt p s m meth c) (pc pc' : Nat) {o : Int} (hd : decode bytes pc = .ok (.goto o, 3)) (ho : 0 ≤ (pc : Int) + o) (hp : ((pc : Int) + o).toNat = pc') (hr : Go p l e R s m args below meth c n0 Q h k n (mkF m pc' Ls st)) : Go p l e R s m args below meth c n0 Q h k n (mkF m pc Ls st) :=
  go_step (fun T L X t S => XS.goto X.here K.1 rfl rfl (hb K.2.2.2.1 hd) ho hp S) hr
theorem g_if_eq (K : Kx Z own nm bytes ml rt p s m meth c) (pc pc' : Nat) {o : Int} {x : Int32} (hd : decode bytes pc = .ok (.ifCond .eq o, 3)) (ho : 0 ≤ (pc : Int) + o) (hp : ((pc : Int) + o).toNat = pc') (hT : x = 0 → Go p l e R s m args below meth c n0 Q h k n (mkF m pc' Ls st)) (hF : ¬ x = 0 → Go p l e R s m args below meth c n0 Q h k n (mkF m (pc + 3) Ls st)) : Go p l e R s m args below meth c n0 Q h k n (mkF m pc Ls (.int x :: st)) := by
  by_cases q : x = 0
  · exact go_step (fun T L X t S => XS.ifYes X.here K.1 rfl rfl (hb K.2.2.2.1 hd) rfl (XT.i0_eq_t q) ho hp S) (hT q)
  · exact go_step (fun T L X t S => XS.ifNo X.here K.1 rfl (hb K.2.2.2.1 hd) rfl (XT.i0_eq_f q) S) (hF q)
theorem g_ii_eq (K : Kx Z own nm bytes ml rt p s m meth c) (pc pc' : Nat) {o : Int} {x y : Int32} (hd : decode bytes pc = .ok (.if_icmp .eq o, 3)) (ho : 0 ≤ (pc : Int) + o) (hp : ((pc : Int) + o).toNat = pc') (hT : x = y → Go p l e R s m args below meth c n0 Q h k n (mkF m pc' Ls st)) (hF : ¬ x = y → Go p l e R s m args below meth c n0 Q h k n (mkF m (pc + 3) Ls st)) : Go p l e R s m args below meth c n0 Q h k n (mkF m pc Ls (.int y :: .int x :: st)) := by
  by_cases q : x = y
  · exact go_step (fun T L X t S => XS.icmpYes X.here K.1 rfl rfl (hb K.2.2.2.1 hd) rfl (XT.ii_eq_t q) ho hp S) (hT q)
  · exact go_step (fun T L X t S => XS.icmpNo X.here K.1 rfl (hb K.2.2.2.1 hd) rfl (XT.ii_eq_f q) S) (hF q)
theorem g_ll_eq (K : Kx Z own nm bytes ml rt p s m meth c) (pc pc' : Nat) {o : Int} {x y : Int64} (hd : decode bytes pc = .ok (.ifCond .eq o, 3)) (ho : 0 ≤ (pc : Int) + o) (hp : ((pc : Int) + o).toNat = pc') (hT : x = y → Go p l e R s m args below meth c n0 Q h k n (mkF m pc' Ls st)) (hF : ¬ x = y → Go p l e R s m args below meth c n0 Q h k n (mkF m (pc + 3) Ls st)) : Go p l e R s m args below meth c n0 Q h k n (mkF m pc Ls (.int (XT.cmpL x y) :: st)) := by
  by_cases q : x = y
  · exact go_step (fun T L X t S => XS.ifYes X.here K.1 rfl rfl (hb K.2.2.2.1 hd) rfl (XT.ll_eq_t q) ho hp S) (hT q)
  · exact go_step (fun T L X t S => XS.ifNo X.here K.1 rfl (hb K.2.2.2.1 hd) rfl (XT.ll_eq_f q) S) (hF q)
theorem g_if_ne (K : Kx Z own nm bytes ml rt p s m meth c) (pc pc' : Nat) {o : Int} {x : Int32} (hd : decode bytes pc = .ok (.ifCond .ne o, 3)) (ho : 0 ≤ (pc : Int) + o) (hp : ((pc : Int) + o).toNat = pc') (hT : ¬ x = 0 → Go p l e R s m args below meth c n0 Q h k n (mkF m pc' Ls st)) (hF : x = 0 → Go p l e R s m args below meth c n0 Q h k n (mkF m (pc + 3) Ls st)) : Go p l e R s m args below meth c n0 Q h k n (mkF m pc Ls (.int x :: st)) := by
  by_cases q : x = 0
  · exact go_step (fun T L X t S => XS.ifNo X.here K.1 rfl (hb K.2.2.2.1 hd) rfl (XT.i0_ne_f q) S) (hF q)
  · exact go_step (fun T L X t S => XS.ifYes X.here K.1 rfl rfl (hb K.2.2.2.1 hd) rfl (XT.i0_ne_t q) ho hp S) (hT q)
theorem g_ii_ne (K : Kx Z own nm bytes ml rt p s m meth c) (pc pc' : Nat) {o : Int} {x y : Int32} (hd : decode bytes pc = .ok (.if_icmp .ne o, 3)) (ho : 0 ≤ (pc : Int) + o) (hp : ((pc : Int) + o).toNat = pc') (hT : ¬ x = y → Go p l e R s m args below meth c n0 Q h k n (mkF m pc' Ls st)) (hF : x = y → Go p l e R s m args below meth c n0 Q h k n (mkF m (pc + 3) Ls st)) : Go p l e R s m args below meth c n0 Q h k n (mkF m pc Ls (.int y :: .int x :: st)) := by
  by_cases q : x = y
  · exact go_step (fun T L X t S => XS.icmpNo X.here K.1 rfl (hb K.2.2.2.1 hd) rfl (XT.ii_ne_f q) S) (hF q)
  · exact go_step (fun T L X t S => XS.icmpYes X.here K.1 rfl rfl (hb K.2.2.2.1 hd) rfl (XT.ii_ne_t q) ho hp S) (hT q)
theorem g_ll_ne (K : Kx Z own nm bytes ml rt p s m meth c) (pc pc' : Nat) {o : Int} {x y : Int64} (hd : decode bytes pc = .ok (.ifCond .ne o, 3)) (ho : 0 ≤ (pc : Int) + o) (hp : ((pc : Int) + o).toNat = pc') (hT : ¬ x = y → Go p l e R s m args below meth c n0 Q h k n (mkF m pc' Ls st)) (hF : x = y → Go p l e R s m args below meth c n0 Q h k n (mkF m (pc + 3) Ls st)) : Go p l e R s m args below meth c n0 Q h k n (mkF m pc Ls (.int (XT.cmpL x y) :: st)) := by
  by_cases q : x = y
  · exact go_step (fun T L X t S => XS.ifNo X.here K.1 rfl (hb K.2.2.2.1 hd) rfl (XT.ll_ne_f q) S) (hF q)
  · exact go_step (fun T L X t S => XS.ifYes X.here K.1 rfl rfl (hb K.2.2.2.1 hd) rfl (XT.ll_ne_t q) ho hp S) (hT q)
theorem g_if_lt (K : Kx Z own nm bytes ml rt p s m meth c) (pc pc' : Nat) {o : Int} {x : Int32} (hd : decode bytes pc = .ok (.ifCond .lt o, 3)) (ho : 0 ≤ (pc : Int) + o) (hp : ((pc : Int) + o).toNat = pc') (hT : x < 0 → Go p l e R s m args below meth c n0 Q h k n (mkF m pc' Ls st)) (hF : ¬ x < 0 → Go p l e R s m args below meth c n0 Q h k n (mkF m (pc + 3) Ls st)) : Go p l e R s m args below meth c n0 Q h k n (mkF m pc Ls (.int x :: st)) := by
  by_cases q : x < 0
  · exact go_step (fun T L X t S => XS.ifYes X.here K.1 rfl rfl (hb K.2.2.2.1 hd) rfl (XT.i0_lt_t q) ho hp S) (hT q)
  · exact go_step (fun T L X t S => XS.ifNo X.here K.1 rfl (hb K.2.2.2.1 hd) rfl (XT.i0_lt_f q) S) (hF q)
theorem g_ii_lt (K : Kx Z own nm bytes ml rt p s m meth c) (pc pc' : Nat) {o : Int} {x y : Int32} (hd : decode bytes pc = .ok (.if_icmp .lt o, 3)) (ho : 0 ≤ (pc : Int) + o) (hp : ((pc : Int) + o).toNat = pc') (hT : x < y → Go p l e R s m args below meth c n0 Q h k n (mkF m pc' Ls st)) (hF : ¬ x < y → Go p l e R s m args below meth c n0 Q h k n (mkF m (pc + 3) Ls st)) : Go p l e R s m args below meth c n0 Q h k n (mkF m pc Ls (.int y :: .int x :: st)) := by
  by_cases q : x < y
  · exact go_step (fun T L X t S => XS.icmpYes X.here K.1 rfl rfl (hb K.2.2.2.1 hd) rfl (XT.ii_lt_t q) ho hp S) (hT q)
  · exact go_step (fun T L X t S => XS.icmpNo X.here K.1 rfl (hb K.2.2.2.1 hd) rfl (XT.ii_lt_f q) S) (hF q)
theorem g_ll_lt (K : Kx Z own nm bytes ml rt p s m meth c) (pc pc' : Nat) {o : Int} {x y : Int64} (hd : decode bytes pc = .ok (.ifCond .lt o, 3)) (ho : 0 ≤ (pc : Int) + o) (hp : ((pc : Int) + o).toNat = pc') (hT : x < y → Go p l e R s m args below meth c n0 Q h k n (mkF m pc' Ls st)) (hF : ¬ x < y → Go p l e R s m args below meth c n0 Q h k n (mkF m (pc + 3) Ls st)) : Go p l e R s m args below meth c n0 Q h k n (mkF m pc Ls (.int (XT.cmpL x y) :: st)) := by
  by_cases q : x < y
  · exact go_step (fun T L X t S => XS.ifYes X.here K.1 rfl rfl (hb K.2.2.2.1 hd) rfl (XT.ll_lt_t q) ho hp S) (hT q)
  · exact go_step (fun T L X t S => XS.ifNo X.here K.1 rfl (hb K.2.2.2.1 hd) rfl (XT.ll_lt_f q) S) (hF q)
theorem g_if_ge (K : Kx Z own nm bytes ml rt p s m meth c) (pc pc' : Nat) {o : Int} {x : Int32} (hd : decode bytes pc = .ok (.ifCond .ge o, 3)) (ho : 0 ≤ (pc : Int) + o) (hp : ((pc : Int) + o).toNat = pc') (hT : ¬ x < 0 → Go p l e R s m args below meth c n0 Q h k n (mkF m pc' Ls st)) (hF : x < 0 → Go p l e R s m args below meth c n0 Q h k n (mkF m (pc + 3) Ls st)) : Go p l e R s m args below meth c n0 Q h k n (mkF m pc Ls (.int x :: st)) := by
  by_cases q : x < 0
  · exact go_step (fun T L X t S => XS.ifNo X.here K.1 rfl (hb K.2.2.2.1 hd) rfl (XT.i0_ge_f q) S) (hF q)
  · exact go_step (fun T L X t S => XS.ifYes X.here K.1 rfl rfl (hb K.2.2.2.1 hd) rfl (XT.i0_ge_t q) ho hp S) (hT q)
theorem g_ii_ge (K : Kx Z own nm bytes ml rt p s m meth c) (pc pc' : Nat) {o : Int} {x y : Int32} (hd : decode bytes pc = .ok (.if_icmp .ge o, 3)) (ho : 0 ≤ (pc : Int) + o) (hp : ((pc : Int) + o).toNat = pc') (hT : ¬ x < y → Go p l e R s m args below meth c n0 Q h k n (mkF m pc' Ls st)) (hF : x < y → Go p l e R s m args below meth c n0 Q h k n (mkF m (pc + 3) Ls st)) : Go p l e R s m args below meth c n0 Q h k n (mkF m pc Ls (.int y :: .int x :: st)) := by
  by_cases q : x < y
  · exact go_step (fun T L X t S => XS.icmpNo X.here K.1 rfl (hb K.2.2.2.1 hd) rfl (XT.ii_ge_f q) S) (hF q)
  · exact go_step (fun T L X t S => XS.icmpYes X.here K.1 rfl rfl (hb K.2.2.2.1 hd) rfl (XT.ii_ge_t q) ho hp S) (hT q)
theorem g_ll_ge (K : Kx Z own nm bytes ml rt p s m meth c) (pc pc' : Nat) {o : Int} {x y : Int64} (hd : decode bytes pc = .ok (.ifCond .ge o, 3)) (ho : 0 ≤ (pc : Int) + o) (hp : ((pc : Int) + o).toNat = pc') (hT : ¬ x < y → Go p l e R s m args below meth c n0 Q h k n (mkF m pc' Ls st)) (hF : x < y → Go p l e R s m args below meth c n0 Q h k n (mkF m (pc + 3) Ls st)) : Go p l e R s m args below meth c n0 Q h k n (mkF m pc Ls (.int (XT.cmpL x y) :: st)) := by
  by_cases q : x < y
  · exact go_step (fun T L X t S => XS.ifNo X.here K.1 rfl (hb K.2.2.2.1 hd) rfl (XT.ll_ge_f q) S) (hF q)
  · exact go_step (fun T L X t S => XS.ifYes X.here K.1 rfl rfl (hb K.2.2.2.1 hd) rfl (XT.ll_ge_t q) ho hp S) (hT q)
theorem g_if_gt (K : Kx Z own nm bytes ml rt p s m meth c) (pc pc' : Nat) {o : Int} {x : Int32} (hd : decode bytes pc = .ok (.ifCond .gt o, 3)) (ho : 0 ≤ (pc : Int) + o) (hp : ((pc : Int) + o).toNat = pc') (hT : 0 < x → Go p l e R s m args below meth c n0 Q h k n (mkF m pc' Ls st)) (hF : ¬ 0 < x → Go p l e R s m args below meth c n0 Q h k n (mkF m (pc + 3) Ls st)) : Go p l e R s m args below meth c n0 Q h k n (mkF m pc Ls (.int x :: st)) := by
  by_cases q : 0 < x
  · exact go_step (fun T L X t S => XS.ifYes X.here K.1 rfl rfl (hb K.2.2.2.1 hd) rfl (XT.i0_gt_t q) ho hp S) (hT q)
  · exact go_step (fun T L X t S => XS.ifNo X.here K.1 rfl (hb K.2.2.2.1 hd) rfl (XT.i0_gt_f q) S) (hF q)
theorem g_ii_gt (K : Kx Z own nm bytes ml rt p s m meth c) (pc pc' : Nat) {o : Int} {x y : Int32} (hd : decode bytes pc = .ok (.if_icmp .gt o, 3)) (ho : 0 ≤ (pc : Int) + o) (hp : ((pc : Int) + o).toNat = pc') (hT : y < x → Go p l e R s m args below meth c n0 Q h k n (mkF m pc' Ls st)) (hF : ¬ y < x → Go p l e R s m args below meth c n0 Q h k n (mkF m (pc + 3) Ls st)) : Go p l e R s m args below meth c n0 Q h k n (mkF m pc Ls (.int y :: .int x :: st)) := by
  by_cases q : y < x
  · exact go_step (fun T L X t S => XS.icmpYes X.here K.1 rfl rfl (hb K.2.2.2.1 hd) rfl (XT.ii_gt_t q) ho hp S) (hT q)
  · exact go_step (fun T L X t S => XS.icmpNo X.here K.1 rfl (hb K.2.2.2.1 hd) rfl (XT.ii_gt_f q) S) (hF q)
theorem g_ll_gt (K : Kx Z own nm bytes ml rt p s m meth c) (pc pc' : Nat) {o : Int} {x y : Int64} (hd : decode bytes pc = .ok (.ifCond .gt o, 3)) (ho : 0 ≤ (pc : Int) + o) (hp : ((pc : Int) + o).toNat = pc') (hT : y < x → Go p l e R s m args below meth c n0 Q h k n (mkF m pc' Ls st)) (hF : ¬ y < x → Go p l e R s m args below meth c n0 Q h k n (mkF m (pc + 3) Ls st)) : Go p l e R s m args below meth c n0 Q h k n (mkF m pc Ls (.int (XT.cmpL x y) :: st)) := by
  by_cases q : y < x
  · exact go_step (fun T L X t S => XS.ifYes X.here K.1 rfl rfl (hb K.2.2.2.1 hd) rfl (XT.ll_gt_t q) ho hp S) (hT q)
  · exact go_step (fun T L X t S => XS.ifNo X.here K.1 rfl (hb K.2.2.2.1 hd) rfl (XT.ll_gt_f q) S) (hF q)
theorem g_if_le (K : Kx Z own nm bytes ml rt p s m meth c) (pc pc' : Nat) {o : Int} {x : Int32} (hd : decode bytes pc = .ok (.ifCond .le o, 3)) (ho : 0 ≤ (pc : Int) + o) (hp : ((pc : Int) + o).toNat = pc') (hT : ¬ 0 < x → Go p l e R s m args below meth c n0 Q h k n (mkF m pc' Ls st)) (hF : 0 < x → Go p l e R s m args below meth c n0 Q h k n (mkF m (pc + 3) Ls st)) : Go p l e R s m args below meth c n0 Q h k n (mkF m pc Ls (.int x :: st)) := by
  by_cases q : 0 < x
  · exact go_step (fun T L X t S => XS.ifNo X.here K.1 rfl (hb K.2.2.2.1 hd) rfl (XT.i0_le_f q) S) (hF q)
  · exact go_step (fun T L X t S => XS.ifYes X.here K.1 rfl rfl (hb K.2.2.2.1 hd) rfl (XT.i0_le_t q) ho hp S) (hT q)
theorem g_ii_le (K : Kx Z own nm bytes ml rt p s m meth c) (pc pc' : Nat) {o : Int} {x y : Int32} (hd : decode bytes pc = .ok (.if_icmp .le o, 3)) (ho : 0 ≤ (pc : Int) + o) (hp : ((pc : Int) + o).toNat = pc') (hT : ¬ y < x → Go p l e R s m args below meth c n0 Q h k n (mkF m pc' Ls st)) (hF : y < x → Go p l e R s m args below meth c n0 Q h k n (mkF m (pc + 3) Ls st)) : Go p l e R s m args below meth c n0 Q h k n (mkF m pc Ls (.int y :: .int x :: st)) := by
  by_cases q : y < x
  · exact go_step (fun T L X t S => XS.icmpNo X.here K.1 rfl (hb K.2.2.2.1 hd) rfl (XT.ii_le_f q) S) (hF q)
  · exact go_step (fun T L X t S => XS.icmpYes X.here K.1 rfl rfl (hb K.2.2.2.1 hd) rfl (XT.ii_le_t q) ho hp S) (hT q)
theorem g_ll_le (K : Kx Z own nm bytes ml rt p s m meth c) (pc pc' : Nat) {o : Int} {x y : Int64} (hd : decode bytes pc = .ok (.ifCond .le o, 3)) (ho : 0 ≤ (pc : Int) + o) (hp : ((pc : Int) + o).toNat = pc') (hT : ¬ y < x → Go p l e R s m args below meth c n0 Q h k n (mkF m pc' Ls st)) (hF : y < x → Go p l e R s m args below meth c n0 Q h k n (mkF m (pc + 3) Ls st)) : Go p l e R s m args below meth c n0 Q h k n (mkF m pc Ls (.int (XT.cmpL x y) :: st)) := by
  by_cases q : y < x
  · exact go_step (fun T L X t S => XS.ifNo X.here K.1 rfl (hb K.2.2.2.1 hd) rfl (XT.ll_le_f q) S) (hF q)
  · exact go_step (fun T L X t S => XS.ifYes X.here K.1 rfl rfl (hb K.2.2.2.1 hd) rfl (XT.ll_le_t q) ho hp S) (hT q)
theorem g_aa_eq (K : Kx Z own nm bytes ml rt p s m meth c) (pc pc' : Nat) {o : Int} {x y : Value} (hx' : x.isRef = true) (hy' : y.isRef = true) (hd : decode bytes pc = .ok (.if_acmp .eq o, 3)) (ho : 0 ≤ (pc : Int) + o) (hp : ((pc : Int) + o).toNat = pc') (hT : x = y → Go p l e R s m args below meth c n0 Q h k n (mkF m pc' Ls st)) (hF : ¬ x = y → Go p l e R s m args below meth c n0 Q h k n (mkF m (pc + 3) Ls st)) : Go p l e R s m args below meth c n0 Q h k n (mkF m pc Ls (y :: x :: st)) := by
  by_cases q : x = y
  · exact go_step (fun T L X t S => XT.acmpYes X.here K.1 rfl rfl (hb K.2.2.2.1 hd) rfl hx' hy' (XT.aa_eq_t q) ho hp S) (hT q)
  · exact go_step (fun T L X t S => XT.acmpNo X.here K.1 rfl (hb K.2.2.2.1 hd) rfl hx' hy' (XT.aa_eq_f q) S) (hF q)
theorem g_aa_ne (K : Kx Z own nm bytes ml rt p s m meth c) (pc pc' : Nat) {o : Int} {x y : Value} (hx' : x.isRef = true) (hy' : y.isRef = true) (hd : decode bytes pc = .ok (.if_acmp .ne o, 3)) (ho : 0 ≤ (pc : Int) + o) (hp : ((pc : Int) + o).toNat = pc') (hT : ¬ x = y → Go p l e R s m args below meth c n0 Q h k n (mkF m pc' Ls st)) (hF : x = y → Go p l e R s m args below meth c n0 Q h k n (mkF m (pc + 3) Ls st)) : Go p l e R s m args below meth c n0 Q h k n (mkF m pc Ls (y :: x :: st)) := by
  by_cases q : x = y
  · exact go_step (fun T L X t S => XT.acmpNo X.here K.1 rfl (hb K.2.2.2.1 hd) rfl hx' hy' (XT.aa_ne_f q) S) (hF q)
  · exact go_step (fun T L X t S => XT.acmpYes X.here K.1 rfl rfl (hb K.2.2.2.1 hd) rfl hx' hy' (XT.aa_ne_t q) ho hp S) (hT q)
theorem g_ifnull_ref (K : Kx Z own nm bytes ml rt p s m meth c) (pc : Nat) {o : Int} {b : Addr} (hd : decode bytes pc = .ok (.ifnull o, 3)) (hr : Go p l e R s m args below meth c n0 Q h k n (mkF m (pc + 3) Ls st)) : Go p l e R s m args below meth c n0 Q h k n (mkF m pc Ls (.ref b :: st)) :=
  go_step (fun T L X t S => XS.ifnullNo X.here K.1 rfl (hb K.2.2.2.1 hd) rfl S) hr
theorem g_ifnull_null (K : Kx Z own nm bytes ml rt p s m meth c) (pc pc' : Nat) {o : Int} (hd : decode bytes pc = .ok (.ifnull o, 3)) (ho : 0 ≤ (pc : Int) + o) (hp : ((pc : Int) + o).toNat = pc') (hr : Go p l e R s m args below meth c n0 Q h k n (mkF m pc' Ls st)) : Go p l e R s m args below meth c n0 Q h k n (mkF m pc Ls (.null :: st)) :=
  go_step (fun T L X t S => XS.ifnullYes X.here K.1 rfl rfl (hb K.2.2.2.1 hd) rfl ho hp S) hr
theorem g_ldc (K : Kx Z own nm bytes ml rt p s m meth c) (pc : Nat) {i : Nat} {v : Int32} (hd : decode bytes pc = .ok (.ldc i, 2)) (w : (Jvm.Cond.constant own i v).before a0 Z = true) (hr : Go p l e R s m args below meth c n0 Q h k n (mkF m (pc + 2) Ls (.int v :: st))) : Go p l e R s m args below meth c n0 Q h k n (mkF m pc Ls st) :=
  go_step (fun T L X t S => X.ldcI K.1 K.2.2.1 (mvT K.2.1 w) rfl (hb K.2.2.2.1 hd) S) hr
theorem g_ldc_w (K : Kx Z own nm bytes ml rt p s m meth c) (pc : Nat) {i : Nat} {v : Int32} (hd : decode bytes pc = .ok (.ldc_w i, 3)) (w : (Jvm.Cond.constant own i v).before a0 Z = true) (hr : Go p l e R s m args below meth c n0 Q h k n (mkF m (pc + 3) Ls (.int v :: st))) : Go p l e R s m args below meth c n0 Q h k n (mkF m pc Ls st) :=
  go_step (fun T L X t S => X.ldcWI K.1 K.2.2.1 (mvT K.2.1 w) rfl (hb K.2.2.2.1 hd) S) hr
theorem g_ldc2_w (K : Kx Z own nm bytes ml rt p s m meth c) (pc : Nat) {i : Nat} {v : Int64} (hd : decode bytes pc = .ok (.ldc2_w i, 3)) (w : (Jvm.Cond.constantLong own i v).before a0 Z = true) (hr : Go p l e R s m args below meth c n0 Q h k n (mkF m (pc + 3) Ls (.long v :: st))) : Go p l e R s m args below meth c n0 Q h k n (mkF m pc Ls st) :=
  go_step (fun T L X t S => X.ldc2J K.1 K.2.2.1 (mvT K.2.1 w) rfl (hb K.2.2.2.1 hd) S) hr
theorem g_ireturn (K : Kx Z own nm bytes ml rt p s m meth c) (pc : Nat) {z : Int32} (hd : decode bytes pc = .ok (.ireturn, 1)) (hrt : rt = some .int)  (hk : k ≤ R.cells) (hn : n ≤ R.slots) (hq : Q (some (.int z)) h) : Go p l e R s m args below meth c n0 Q h k n (mkF m pc Ls [.int z]) := by
  intro T L X eT N
  obtain ⟨fs, hr, hrun, hended, hW, hsame⟩ := X.leave (v := some (.int z)) (fun hh => by first | rfl | (rw [K.2.2.2.2.2.1, hrt] at hh; cases hh)) K.2.2.2.2.2.2.1
  refine ⟨_, _, X.ireturnOut K.1 (K.2.2.2.2.2.1.trans hrt) rfl (Or.inl rfl) (hb K.2.2.2.1 hd) hr, hrun, hended, _, L, rfl, ⟨?_, N⟩, ⟨_, rfl⟩, hW, hsame.mono hk hn⟩
  show Q _ T.heap
  rw [eT]; exact hq
theorem g_retN (K : Kx Z own nm bytes ml rt p s m meth c) (pc : Nat) {z : Int32} (t : FieldType) (hd : decode bytes pc = .ok (.ireturn, 1)) (hrt : rt = some t) (ht : t = .boolean ∨ t = .byte ∨ t = .char ∨ t = .short) (hk : k ≤ R.cells) (hn : n ≤ R.slots) (hq : Q (some (.int (nar t z))) h) : Go p l e R s m args below meth c n0 Q h k n (mkF m pc Ls (.int z :: st)) := by
  intro T L X eT N
  obtain ⟨fs, hr, hrun, hended, hW, hsame⟩ := X.leave (v := some (.int (nar t z))) (fun hh => by first | rfl | (rw [K.2.2.2.2.2.1, hrt] at hh; cases hh)) K.2.2.2.2.2.2.1
  refine ⟨_, _, retN X K.1 (K.2.2.2.2.2.1.trans hrt) ht (hb K.2.2.2.1 hd) hr, hrun, hended, _, L, rfl, ⟨?_, N⟩, ⟨_, rfl⟩, hW, hsame.mono hk hn⟩
  show Q _ T.heap
  rw [eT]; exact hq
theorem g_lreturn (K : Kx Z own nm bytes ml rt p s m meth c) (pc : Nat) {z : Int64} (hd : decode bytes pc = .ok (.lreturn, 1)) (hrt : rt = some .long)  (hk : k ≤ R.cells) (hn : n ≤ R.slots) (hq : Q (some (.long z)) h) : Go p l e R s m args below meth c n0 Q h k n (mkF m pc Ls [.long z]) := by
  intro T L X eT N
  obtain ⟨fs, hr, hrun, hended, hW, hsame⟩ := X.leave (v := some (.long z)) (fun hh => by first | rfl | (rw [K.2.2.2.2.2.1, hrt] at hh; cases hh)) K.2.2.2.2.2.2.1
  refine ⟨_, _, X.lreturnOut K.1 (K.2.2.2.2.2.1.trans hrt) (hb K.2.2.2.1 hd) hr, hrun, hended, _, L, rfl, ⟨?_, N⟩, ⟨_, rfl⟩, hW, hsame.mono hk hn⟩
  show Q _ T.heap
  rw [eT]; exact hq
theorem g_areturn (K : Kx Z own nm bytes ml rt p s m meth c) (pc : Nat) {w : Value} (t : FieldType) (hd : decode bytes pc = .ok (.areturn, 1)) (hrt : rt = some t) (hw : w.isRef = true) (ht : t.isReference = true) (hk : k ≤ R.cells) (hn : n ≤ R.slots) (hq : Q (some w) h) : Go p l e R s m args below meth c n0 Q h k n (mkF m pc Ls [w]) := by
  intro T L X eT N
  obtain ⟨fs, hr, hrun, hended, hW, hsame⟩ := X.leave (v := some w) (fun hh => by first | rfl | (rw [K.2.2.2.2.2.1, hrt] at hh; cases hh)) K.2.2.2.2.2.2.1
  refine ⟨_, _, X.areturnOut K.1 hw (K.2.2.2.2.2.1.trans hrt) ht (hb K.2.2.2.1 hd) hr, hrun, hended, _, L, rfl, ⟨?_, N⟩, ⟨_, rfl⟩, hW, hsame.mono hk hn⟩
  show Q _ T.heap
  rw [eT]; exact hq
theorem g_return (K : Kx Z own nm bytes ml rt p s m meth c) (pc : Nat)  (hd : decode bytes pc = .ok (.return_, 1)) (hrt : rt = none)  (hk : k ≤ R.cells) (hn : n ≤ R.slots) (hq : Q none h) : Go p l e R s m args below meth c n0 Q h k n (mkF m pc Ls []) := by
  intro T L X eT N
  obtain ⟨fs, hr, hrun, hended, hW, hsame⟩ := X.leave (v := none) (fun hh => by first | rfl | (rw [K.2.2.2.2.2.1, hrt] at hh; cases hh)) K.2.2.2.2.2.2.1
  refine ⟨_, _, X.returnOut K.1 (K.2.2.2.2.2.1.trans hrt) (hb K.2.2.2.1 hd) hr, hrun, hended, _, L, rfl, ⟨?_, N⟩, ⟨_, rfl⟩, hW, hsame.mono hk hn⟩
  show Q _ T.heap
  rw [eT]; exact hq
theorem g_getfield (K : Kx Z own nm bytes ml rt p s m meth c) (pc : Nat) {i : Nat} {C f d : String} {a : Addr} {v : Value} (hd : decode bytes pc = .ok (.getfield i, 3)) (w : (Jvm.Cond.fieldLink own i C f d).before a0 Z = true) (F : Fld Z h a C f d v) (hr : Go p l e R s m args below meth c n0 Q h k n (mkF m (pc + 3) Ls (v :: st))) : Go p l e R s m args below meth c n0 Q h k n (mkF m pc Ls (.ref a :: st)) := by
  intro T L X eT N
  obtain ⟨T', X', e', stp⟩ := getF X K.1 K.2.1 K.2.2.1 (host := "") (Or.inl w) Via.refl eT F (g := mkF m pc Ls (.ref a :: st)) rfl rfl (hb K.2.2.2.1 hd)
  obtain ⟨s₂, o, S, r⟩ := hr T' L X' e' N
  exact ⟨s₂, o, stp _ S, r⟩
theorem g_putfield (K : Kx Z own nm bytes ml rt p s m meth c) (pc : Nat) {i kk : Nat} {C f d : String} {a : Addr} {v old : Value} (ty : FieldType) (hd : decode bytes pc = .ok (.putfield i, 3)) (w : (Jvm.Cond.fieldLink own i C f d).before a0 Z = true) (F : Fld Z h a C f d old) (E : Exa Z h a C) (Lw : (Jvm.Cond.lays C C f d).before a0 Z = true ∨ ((Jvm.Cond.laysFinal C C f d).before a0 Z = true ∧ own = C ∧ nm = "<init>")) (wi : (Jvm.Cond.instantiable C kk).before a0 Z = true) (hty : parseFieldDescriptor d = some ty) (hnv : narrow ty v = v) (hfv : fits ty v = true) (ha : n0 ≤ a) (hr : ∀ h', Wr h h' a (Jvm.RoadKit.slotOf Z C f d) v → Keep h h' [a] → Go p l e R s m args below meth c n0 Q h' k n (mkF m (pc + 3) Ls st)) : Go p l e R s m args below meth c n0 Q h k n (mkF m pc Ls (v :: .ref a :: st)) := by
  intro T L X eT N
  obtain ⟨T', h', X', e', W, stp⟩ := putF X K.1 K.2.1 K.2.2.1 (host := "") (Or.inl w) Via.refl eT F E (Lw.imp id fun q => ⟨q.1, q.2.1, K.2.2.2.2.2.2.2.trans q.2.2⟩) wi hty hnv hfv (g := mkF m pc Ls (v :: .ref a :: st)) rfl rfl (hb K.2.2.2.1 hd)
  obtain ⟨s₂, o, S, r⟩ := hr h' W (Keep.of_wr W) T' _ X' e' (Fr.snoc X' N ha)
  exact ⟨s₂, o, stp _ S, r⟩
theorem g_new (K : Kx Z own nm bytes ml rt p s m meth c) (pc : Nat) {i kk : Nat} {C : String} (hd : decode bytes pc = .ok (.new i, 3)) (w : (Jvm.Cond.classLink own i C).before a0 Z = true) (wi : (Jvm.Cond.instantiable C kk).before a0 Z = true) (wz : (Jvm.Cond.initialized C).before a0 Z = true) (hk : k + 1 ≤ R.cells) (hn : n + kk ≤ R.slots) (hr : ∀ h' a, a = h.size → Keep h h' [] → Exa Z h' a C → (∀ {O f d : String} {ty : FieldType}, Laid Z a0 C O f d → parseFieldDescriptor d = some ty → Fld Z h' a O f d (defaultValue ty)) → Go p l e R s m args below meth c n0 Q h' (k + 1) (n + kk) (mkF m (pc + 3) Ls (.ref a :: st))) : Go p l e R s m args below meth c n0 Q h k n (mkF m pc Ls st) := by
  intro T L X eT N
  obtain ⟨T', h', X', e', E, A, D, -, stp⟩ := newO X K.1 K.2.1 K.2.2.1 w wi wz eT (g := mkF m pc Ls st) rfl (hb K.2.2.2.1 hd) hk hn
  obtain ⟨s₂, o, S, r⟩ := hr h' h.size rfl (keep_ext E) A D T' L X' e' N
  exact ⟨s₂, o, stp _ S, r⟩
theorem g_initO (K : Kx Z own nm bytes ml rt p s m meth c) (pc : Nat) {i : Nat} {a : Addr} (hd : decode bytes pc = .ok (.invokespecial i, 3)) (w1 : (Jvm.Cond.methodLink own i Lib.objectInit).before a0 Z = true) (w2 : (Jvm.Cond.instanceMethod Lib.objectInit).before a0 Z = true) (w3 : (Jvm.Cond.code Lib.objectInit ⟨#[0xb1]⟩ 1 none).before a0 Z = true) (hls : Ls.size = ml) (hf : 1 ≤ R.frames) (W : Nat) (hW : (st.map fun v => v.category).sum ≤ W) (hlo : W + 12 ≤ R.locals) (hr : Go p l e R s m args below meth c n0 Q h k n (mkF m (pc + 3) Ls st)) : Go p l e R s m args below meth c n0 Q h k n (mkF m pc Ls (.ref a :: st)) := by
  intro T L X eT N
  obtain ⟨T', X', e', stp⟩ := initO X K.1 K.2.1 K.2.2.1 w1 w2 w3 eT (g := mkF m pc Ls (.ref a :: st)) rfl (hls.trans K.2.2.2.2.1.symm) rfl (hb K.2.2.2.1 hd) hf (W := W) (by show 2 * 0 + _ ≤ _; omega) hlo
  obtain ⟨s₂, o, S, r⟩ := hr T' L X' e' N
  exact ⟨s₂, o, stp _ S, r⟩
theorem g_newI (K : Kx Z own nm bytes ml rt p s m meth c) (pc : Nat) {aty : ArrayType} {z : Int32} (ty : FieldType) (hd : decode bytes pc = .ok (.newarray aty, 2)) (hty : newarray.typeOf aty = ty) (hdef : defaultValue ty = .int 0) (w : (Jvm.Cond.arrayClass ty).before a0 Z = true) (hz : ¬ z < 0) (cap : Nat) (hcap : z.toNatClampNeg ≤ cap) (hb8 : cap * 8 ≤ 536870912) (hk : k + 1 ≤ R.cells) (hn : n + cap ≤ R.slots) (hr : ∀ h' a, a = h.size → Keep h h' [] → IA Z h' a ty (List.replicate z.toNatClampNeg 0) → Go p l e R s m args below meth c n0 Q h' (k + 1) (n + cap) (mkF m (pc + 2) Ls (.ref a :: st))) : Go p l e R s m args below meth c n0 Q h k n (mkF m pc Ls (.int z :: st)) := by
  subst hty
  intro T L X eT N
  obtain ⟨T', h', cA, X', e', E, A, stp⟩ := newP X K.1 K.2.1 w eT (g := mkF m pc Ls (.int z :: st)) rfl (hb K.2.2.2.1 hd) rfl hz hcap hb8 hk hn
  obtain ⟨s₂, o, S, r⟩ := hr h' h.size rfl (keep_ext E) ⟨_, A, by simp [newA, hdef]⟩ T' L X' e' N
  exact ⟨s₂, o, stp _ S, r⟩
theorem g_newJ (K : Kx Z own nm bytes ml rt p s m meth c) (pc : Nat) {z : Int32} (hd : decode bytes pc = .ok (.newarray .long, 2)) (w : (Jvm.Cond.arrayClass .long).before a0 Z = true) (hz : ¬ z < 0) (cap : Nat) (hcap : z.toNatClampNeg ≤ cap) (hb8 : cap * 8 ≤ 536870912) (hk : k + 1 ≤ R.cells) (hn : n + cap ≤ R.slots) (hr : ∀ h' a, a = h.size → Keep h h' [] → LA Z h' a (List.replicate z.toNatClampNeg 0) → Go p l e R s m args below meth c n0 Q h' (k + 1) (n + cap) (mkF m (pc + 2) Ls (.ref a :: st))) : Go p l e R s m args below meth c n0 Q h k n (mkF m pc Ls (.int z :: st)) := by
  intro T L X eT N
  obtain ⟨T', h', cA, X', e', E, A, stp⟩ := newP X K.1 K.2.1 (aty := .long) w eT (g := mkF m pc Ls (.int z :: st)) rfl (hb K.2.2.2.1 hd) rfl hz hcap hb8 hk hn
  obtain ⟨s₂, o, S, r⟩ := hr h' h.size rfl (keep_ext E) ⟨_, A, by simp [newA, defaultValue, newarray.typeOf]⟩ T' L X' e' N
  exact ⟨s₂, o, stp _ S, r⟩
theorem g_iaload (K : Kx Z own nm bytes ml rt p s m meth c) (pc : Nat) {a : Addr} {xs : List Int32} {j : Int32} (v : Int32) (hd : decode bytes pc = .ok (.iaload, 1)) (F : IA Z h a .int xs) (hj : ¬ j < 0) (hv : xs[j.toNatClampNeg]? = some v) (hr : Go p l e R s m args below meth c n0 Q h k n (mkF m (pc + 1) Ls (.int v :: st))) : Go p l e R s m args below meth c n0 Q h k n (mkF m pc Ls (.int j :: .ref a :: st)) := by
  intro T L X eT N
  obtain ⟨cl, A, es⟩ := F
  obtain ⟨s₂, o, S, r⟩ := hr T L X eT N
  have hlt : j.toNatClampNeg < xs.length := (List.getElem?_eq_some_iff.mp hv).1
  refine ⟨s₂, o, X.iaload K.1 (j := j) (v := (.int v)) (by rw [eT]; exact A.1) (State.isArrayOf_alike K.2.1.alike A.2.1) A.2.2 (own_clamp hj hlt (by simp [es])) (by rw [es]; simp [hv]) (g := mkF m pc Ls (.int j :: .ref a :: st)) rfl rfl (hb K.2.2.2.1 hd) _ S, r⟩
theorem g_baload (K : Kx Z own nm bytes ml rt p s m meth c) (pc : Nat) {a : Addr} {xs : List Int32} {j : Int32} (v : Int32) (hd : decode bytes pc = .ok (.baload, 1)) (F : IA Z h a .byte xs) (hj : ¬ j < 0) (hv : xs[j.toNatClampNeg]? = some v) (hr : Go p l e R s m args below meth c n0 Q h k n (mkF m (pc + 1) Ls (.int v :: st))) : Go p l e R s m args below meth c n0 Q h k n (mkF m pc Ls (.int j :: .ref a :: st)) := by
  intro T L X eT N
  obtain ⟨cl, A, es⟩ := F
  obtain ⟨s₂, o, S, r⟩ := hr T L X eT N
  have hlt : j.toNatClampNeg < xs.length := (List.getElem?_eq_some_iff.mp hv).1
  refine ⟨s₂, o, X.baloadBytes K.1 (j := j) (v := (.int v)) (by rw [eT]; exact A.1) (State.isArrayOf_alike K.2.1.alike A.2.1) A.2.2 (own_clamp hj hlt (by simp [es])) (by rw [es]; simp [hv]) (g := mkF m pc Ls (.int j :: .ref a :: st)) rfl rfl (hb K.2.2.2.1 hd) _ S, r⟩
theorem g_zaload (K : Kx Z own nm bytes ml rt p s m meth c) (pc : Nat) {a : Addr} {xs : List Int32} {j : Int32} (v : Int32) (hd : decode bytes pc = .ok (.baload, 1)) (F : IA Z h a .boolean xs) (hj : ¬ j < 0) (hv : xs[j.toNatClampNeg]? = some v) (hr : Go p l e R s m args below meth c n0 Q h k n (mkF m (pc + 1) Ls (.int v :: st))) : Go p l e R s m args below meth c n0 Q h k n (mkF m pc Ls (.int j :: .ref a :: st)) := by
  intro T L X eT N
  obtain ⟨cl, A, es⟩ := F
  obtain ⟨s₂, o, S, r⟩ := hr T L X eT N
  have hlt : j.toNatClampNeg < xs.length := (List.getElem?_eq_some_iff.mp hv).1
  refine ⟨s₂, o, X.baloadBooleans K.1 (j := j) (v := (.int v)) (by rw [eT]; exact A.1) (State.isArrayOf_alike K.2.1.alike A.2.1) A.2.2 (own_clamp hj hlt (by simp [es])) (by rw [es]; simp [hv]) (g := mkF m pc Ls (.int j :: .ref a :: st)) rfl rfl (hb K.2.2.2.1 hd) _ S, r⟩
theorem g_saload (K : Kx Z own nm bytes ml rt p s m meth c) (pc : Nat) {a : Addr} {xs : List Int32} {j : Int32} (v : Int32) (hd : decode bytes pc = .ok (.saload, 1)) (F : IA Z h a .short xs) (hj : ¬ j < 0) (hv : xs[j.toNatClampNeg]? = some v) (hr : Go p l e R s m args below meth c n0 Q h k n (mkF m (pc + 1) Ls (.int v :: st))) : Go p l e R s m args below meth c n0 Q h k n (mkF m pc Ls (.int j :: .ref a :: st)) := by
  intro T L X eT N
  obtain ⟨cl, A, es⟩ := F
  obtain ⟨s₂, o, S, r⟩ := hr T L X eT N
  have hlt : j.toNatClampNeg < xs.length := (List.getElem?_eq_some_iff.mp hv).1
  refine ⟨s₂, o, X.saload K.1 (j := j) (v := (.int v)) (by rw [eT]; exact A.1) (State.isArrayOf_alike K.2.1.alike A.2.1) A.2.2 (own_clamp hj hlt (by simp [es])) (by rw [es]; simp [hv]) (g := mkF m pc Ls (.int j :: .ref a :: st)) rfl rfl (hb K.2.2.2.1 hd) _ S, r⟩
theorem g_laload (K : Kx Z own nm bytes ml rt p s m meth c) (pc : Nat) {a : Addr} {xs : List Int64} {j : Int32} (v : Int64) (hd : decode bytes pc = .ok (.laload, 1)) (F : LA Z h a xs) (hj : ¬ j < 0) (hv : xs[j.toNatClampNeg]? = some v) (hr : Go p l e R s m args below meth c n0 Q h k n (mkF m (pc + 1) Ls (.long v :: st))) : Go p l e R s m args below meth c n0 Q h k n (mkF m pc Ls (.int j :: .ref a :: st)) := by
  intro T L X eT N
  obtain ⟨cl, A, es⟩ := F
  obtain ⟨s₂, o, S, r⟩ := hr T L X eT N
  have hlt : j.toNatClampNeg < xs.length := (List.getElem?_eq_some_iff.mp hv).1
  refine ⟨s₂, o, X.laload K.1 (j := j) (v := (.long v)) (by rw [eT]; exact A.1) (State.isArrayOf_alike K.2.1.alike A.2.1) A.2.2 (own_clamp hj hlt (by simp [es])) (by rw [es]; simp [hv]) (g := mkF m pc Ls (.int j :: .ref a :: st)) rfl rfl (hb K.2.2.2.1 hd) _ S, r⟩
theorem g_iastore (K : Kx Z own nm bytes ml rt p s m meth c) (pc : Nat) {a : Addr} {xs : List Int32} {j : Int32} {x : Int32} (hd : decode bytes pc = .ok (.iastore, 1)) (F : IA Z h a .int xs) (hj : ¬ j < 0) (hlt : j.toNatClampNeg < xs.length) (ha : n0 ≤ a) (hr : ∀ h', Keep h h' [a] → IA Z h' a .int (xs.set j.toNatClampNeg (x)) → Go p l e R s m args below meth c n0 Q h' k n (mkF m (pc + 1) Ls st)) : Go p l e R s m args below meth c n0 Q h k n (mkF m pc Ls (.int x :: .int j :: .ref a :: st)) := by
  intro T L X eT N
  have F' := F
  obtain ⟨cl, A, es⟩ := F
  obtain ⟨T', h', X', e', W, stp⟩ := stI X K.1 K.2.1 eT A (j := j) (x := x) (own_clamp hj hlt (by simp [es])) (g := mkF m pc Ls (.int x :: .int j :: .ref a :: st)) rfl rfl (hb K.2.2.2.1 hd)
  obtain ⟨s₂, o, S, r⟩ := hr h' (Keep.of_wr W) (F'.set W) T' _ X' e' (Fr.snoc X' N ha)
  exact ⟨s₂, o, stp _ S, r⟩
theorem g_bastore (K : Kx Z own nm bytes ml rt p s m meth c) (pc : Nat) {a : Addr} {xs : List Int32} {j : Int32} {x : Int32} (hd : decode bytes pc = .ok (.bastore, 1)) (F : IA Z h a .byte xs) (hj : ¬ j < 0) (hlt : j.toNatClampNeg < xs.length) (ha : n0 ≤ a) (hr : ∀ h', Keep h h' [a] → IA Z h' a .byte (xs.set j.toNatClampNeg (nar .byte x)) → Go p l e R s m args below meth c n0 Q h' k n (mkF m (pc + 1) Ls st)) : Go p l e R s m args below meth c n0 Q h k n (mkF m pc Ls (.int x :: .int j :: .ref a :: st)) := by
  intro T L X eT N
  have F' := F
  obtain ⟨cl, A, es⟩ := F
  obtain ⟨T', h', X', e', W, stp⟩ := stB X K.1 K.2.1 eT A (j := j) (x := x) (own_clamp hj hlt (by simp [es])) (g := mkF m pc Ls (.int x :: .int j :: .ref a :: st)) rfl rfl (hb K.2.2.2.1 hd)
  obtain ⟨s₂, o, S, r⟩ := hr h' (Keep.of_wr W) (F'.set W) T' _ X' e' (Fr.snoc X' N ha)
  exact ⟨s₂, o, stp _ S, r⟩
theorem g_zastore (K : Kx Z own nm bytes ml rt p s m meth c) (pc : Nat) {a : Addr} {xs : List Int32} {j : Int32} {x : Int32} (hd : decode bytes pc = .ok (.bastore, 1)) (F : IA Z h a .boolean xs) (hj : ¬ j < 0) (hlt : j.toNatClampNeg < xs.length) (ha : n0 ≤ a) (hr : ∀ h', Keep h h' [a] → IA Z h' a .boolean (xs.set j.toNatClampNeg (nar .boolean x)) → Go p l e R s m args below meth c n0 Q h' k n (mkF m (pc + 1) Ls st)) : Go p l e R s m args below meth c n0 Q h k n (mkF m pc Ls (.int x :: .int j :: .ref a :: st)) := by
  intro T L X eT N
  have F' := F
  obtain ⟨cl, A, es⟩ := F
  obtain ⟨T', h', X', e', W, stp⟩ := stZ X K.1 K.2.1 eT A (j := j) (x := x) (own_clamp hj hlt (by simp [es])) (g := mkF m pc Ls (.int x :: .int j :: .ref a :: st)) rfl rfl (hb K.2.2.2.1 hd)
  obtain ⟨s₂, o, S, r⟩ := hr h' (Keep.of_wr W) (F'.set W) T' _ X' e' (Fr.snoc X' N ha)
  exact ⟨s₂, o, stp _ S, r⟩
theorem g_sastore (K : Kx Z own nm bytes ml rt p s m meth c) (pc : Nat) {a : Addr} {xs : List Int32} {j : Int32} {x : Int32} (hd : decode bytes pc = .ok (.sastore, 1)) (F : IA Z h a .short xs) (hj : ¬ j < 0) (hlt : j.toNatClampNeg < xs.length) (ha : n0 ≤ a) (hr : ∀ h', Keep h h' [a] → IA Z h' a .short (xs.set j.toNatClampNeg (nar .short x)) → Go p l e R s m args below meth c n0 Q h' k n (mkF m (pc + 1) Ls st)) : Go p l e R s m args below meth c n0 Q h k n (mkF m pc Ls (.int x :: .int j :: .ref a :: st)) := by
  intro T L X eT N
  have F' := F
  obtain ⟨cl, A, es⟩ := F
  obtain ⟨T', h', X', e', W, stp⟩ := stS X K.1 K.2.1 eT A (j := j) (x := x) (own_clamp hj hlt (by simp [es])) (g := mkF m pc Ls (.int x :: .int j :: .ref a :: st)) rfl rfl (hb K.2.2.2.1 hd)
  obtain ⟨s₂, o, S, r⟩ := hr h' (Keep.of_wr W) (F'.set W) T' _ X' e' (Fr.snoc X' N ha)
  exact ⟨s₂, o, stp _ S, r⟩
theorem g_lastore (K : Kx Z own nm bytes ml rt p s m meth c) (pc : Nat) {a : Addr} {xs : List Int64} {j : Int32} {x : Int64} (hd : decode bytes pc = .ok (.lastore, 1)) (F : LA Z h a xs) (hj : ¬ j < 0) (hlt : j.toNatClampNeg < xs.length) (ha : n0 ≤ a) (hr : ∀ h', Keep h h' [a] → LA Z h' a (xs.set j.toNatClampNeg (x)) → Go p l e R s m args below meth c n0 Q h' k n (mkF m (pc + 1) Ls st)) : Go p l e R s m args below meth c n0 Q h k n (mkF m pc Ls (.long x :: .int j :: .ref a :: st)) := by
  intro T L X eT N
  have F' := F
  obtain ⟨cl, A, es⟩ := F
  obtain ⟨T', h', X', e', W, stp⟩ := stJ X K.1 K.2.1 eT A (j := j) (x := x) (own_clamp hj hlt (by simp [es])) (g := mkF m pc Ls (.long x :: .int j :: .ref a :: st)) rfl rfl (hb K.2.2.2.1 hd)
  obtain ⟨s₂, o, S, r⟩ := hr h' (Keep.of_wr W) (F'.set W) T' _ X' e' (Fr.snoc X' N ha)
  exact ⟨s₂, o, stp _ S, r⟩
theorem g_alen (K : Kx Z own nm bytes ml rt p s m meth c) (pc : Nat) {a : Addr} {ty : FieldType} {xs : List Int32} (v : Int32) (hd : decode bytes pc = .ok (.arraylength, 1)) (F : IA Z h a ty xs) (hv : xs.length.toInt32 = v) (hr : Go p l e R s m args below meth c n0 Q h k n (mkF m (pc + 1) Ls (.int v :: st))) : Go p l e R s m args below meth c n0 Q h k n (mkF m pc Ls (.ref a :: st)) := by
  intro T L X eT N
  obtain ⟨cl, A, es⟩ := F
  obtain ⟨s₂, o, S, r⟩ := hr T L X eT N
  have hq : cl.slots.size.toInt32 = v := by rw [es]; simpa using hv
  refine ⟨s₂, o, X.arraylength K.1 (cell := cl) (by rw [eT]; exact A.1) (State.isArrayOf_alike K.2.1.alike A.2.1) (g := mkF m pc Ls (.ref a :: st)) rfl (rest := st) rfl (hb K.2.2.2.1 hd) _ ?_, r⟩
  rw [hq]; exact S
theorem g_callS (K : Kx Z own nm bytes ml rt p s m meth c) (pc : Nat) {i : Nat} {y : MethodName} {b2 : ByteArray} {ml2 : Nat} {rt2 : Option FieldType} {rm : Room} {Q' : Option Value → Heap → Prop} {sig : MethodDescriptor} {S0 : List Value} (argsL : List Value) (W : Nat) (hd : decode bytes pc = .ok (.invokestatic i, 3))
    (M : Meets l y b2 ml2 rt2 rm Z argsL.toArray h n0 Q') (wl : (Jvm.Cond.methodLink own i y).before a0 Z = true) (ws : (Jvm.Cond.static y).before a0 Z = true) (wz : (Jvm.Cond.initialized y.cls).before a0 Z = true) (wc : (Jvm.Cond.code y b2 ml2 rt2).before a0 Z = true) (hy : y.cls ≠ "java/lang/invoke/MethodHandle" ∧ y.cls ≠ "java/lang/invoke/VarHandle")
    (hpd : parseMethodDescriptor y.desc = some sig) (hlen : argsL.length = sig.parameters.length) (hS : S0 = argsL.reverse ++ st) (hW : (st.map fun v => v.category).sum ≤ W) (hls : Ls.size = ml) (hf : rm.frames + 1 ≤ R.frames) (hlo : W + (ml2 + 11) + rm.locals ≤ R.locals) (hk : k + rm.cells ≤ R.cells) (hn : n + rm.slots ≤ R.slots)
    (hr : ∀ v h', Q' v h' → Go p l e R s m args below meth c n0 Q h' (k + rm.cells) (n + rm.slots) (mkF m (pc + 3) Ls (v.toList ++ st))) : Go p l e R s m args below meth c n0 Q h k n (mkF m pc Ls S0) := by
  subst hS
  intro T L X eT N
  obtain ⟨v, vm₁, ⟨T', L', k', n'⟩, -, X', ⟨L2, hQ, l1, y1, z1⟩, stp⟩ := Jvm.LawKit.callS X K.1 (y := y) K.2.2.1 (mvT K.2.1 wl) (mvT K.2.1 ws) (mvT K.2.1 wz) (mvT K.2.1 wc) hy (backOf (W := W) (Q := fun v h L => Q' v h ∧ Fr n0 L) (M []) K.2.1 wc wz hf hlo) (g := mkF m pc Ls (argsL.reverse ++ st)) rfl (hls.trans K.2.2.2.2.1.symm) (argsL := argsL) (rest := st) (fun sg h => by cases hpd.symm.trans h; exact hlen) rfl (by show 2 * 0 + _ ≤ _; omega) (hb K.2.2.2.1 hd) (fun _ _ => ⟨rfl, eT, hk, hn⟩)
  dsimp only [Pt.U, Pt.locs, Pt.cells, Pt.slots] at X' l1 y1 z1 stp hQ
  subst l1 y1 z1
  obtain ⟨s₂, o, S, r⟩ := hr v _ hQ.1 T' _ X' rfl (Fr.app N hQ.2)
  exact ⟨s₂, o, stp _ S, r⟩
theorem g_callN (K : Kx Z own nm bytes ml rt p s m meth c) (pc : Nat) {i : Nat} {y : MethodName} {b2 : ByteArray} {ml2 : Nat} {rm : Room} {Q' : Option Value → Heap → Prop} {sig : MethodDescriptor} {S0 : List Value} {a : Addr} (argsL : List Value) (W : Nat) (hd : decode bytes pc = .ok (.invokespecial i, 3))
    (M : Meets l y b2 ml2 none rm Z (.ref a :: argsL).toArray h n0 Q') (hy1 : y.name = "<init>") (wl : (Jvm.Cond.methodLink own i y).before a0 Z = true) (wi : (Jvm.Cond.instanceMethod y).before a0 Z = true) (wz : (Jvm.Cond.initialized y.cls).before a0 Z = true) (wc : (Jvm.Cond.code y b2 ml2 none).before a0 Z = true) (hy : y.cls ≠ "java/lang/invoke/MethodHandle" ∧ y.cls ≠ "java/lang/invoke/VarHandle")
    (hpd : parseMethodDescriptor y.desc = some sig) (hlen : argsL.length = sig.parameters.length) (hS : S0 = argsL.reverse ++ .ref a :: st) (hW : (st.map fun v => v.category).sum ≤ W) (hls : Ls.size = ml) (hf : rm.frames + 1 ≤ R.frames) (hlo : W + (ml2 + 11) + rm.locals ≤ R.locals) (hk : k + rm.cells ≤ R.cells) (hn : n + rm.slots ≤ R.slots)
    (hr : ∀ v h', Q' v h' → Go p l e R s m args below meth c n0 Q h' (k + rm.cells) (n + rm.slots) (mkF m (pc + 3) Ls (v.toList ++ st))) : Go p l e R s m args below meth c n0 Q h k n (mkF m pc Ls S0) := by
  subst hS
  intro T L X eT N
  obtain ⟨v, vm₁, ⟨T', L', k', n'⟩, -, X', ⟨L2, hQ, l1, y1, z1⟩, stp⟩ := X.specialBack K.1 (y := y) hy1 K.2.2.1 (mvT K.2.1 wl) (mvT K.2.1 wi) (mvT K.2.1 wc) hy (backOf (W := W) (Q := fun v h L => Q' v h ∧ Fr n0 L) (M []) K.2.1 wc wz hf hlo) (g := mkF m pc Ls (argsL.reverse ++ .ref a :: st)) rfl (hls.trans K.2.2.2.2.1.symm) (Steps.refl _) (a := a) (argsL := argsL) (rest := st) (fun sg h => by cases hpd.symm.trans h; exact hlen) rfl (by show 2 * 0 + _ ≤ _; omega) (hb K.2.2.2.1 hd) (fun _ _ => ⟨rfl, eT, hk, hn⟩)
  dsimp only [Pt.U, Pt.locs, Pt.cells, Pt.slots] at X' l1 y1 z1 stp hQ
  subst l1 y1 z1
  obtain ⟨s₂, o, S, r⟩ := hr v _ hQ.1 T' _ X' rfl (Fr.app N hQ.2)
  exact ⟨s₂, o, stp.trans S, r⟩
theorem g_callV (K : Kx Z own nm bytes ml rt p s m meth c) (pc : Nat) {i : Nat} {y z : MethodName} {C : String} {b2 : ByteArray} {ml2 : Nat} {rt2 : Option FieldType} {rm : Room} {Q' : Option Value → Heap → Prop} {sig : MethodDescriptor} {S0 : List Value} {a : Addr} (argsL : List Value) (W : Nat) (hd : decode bytes pc = .ok (.invokevirtual i, 3))
    (M : Meets l z b2 ml2 rt2 rm Z (.ref a :: argsL).toArray h n0 Q') (E : Exa Z h a C) (wl : (Jvm.Cond.methodLink own i y).before a0 Z = true) (wd : (Jvm.Cond.declares y).before a0 Z = true) (wsel : (Jvm.Cond.selects C y z).before a0 Z = true) (wself : (Jvm.Cond.selects y.cls y y).before a0 Z = true) (wi : (Jvm.Cond.instanceMethod z).before a0 Z = true) (wz : (Jvm.Cond.initialized z.cls).before a0 Z = true) (wc : (Jvm.Cond.code z b2 ml2 rt2).before a0 Z = true) (hy : y.cls ≠ "java/lang/invoke/MethodHandle" ∧ y.cls ≠ "java/lang/invoke/VarHandle")
    (hpd : parseMethodDescriptor y.desc = some sig) (hlen : argsL.length = sig.parameters.length) (hS : S0 = argsL.reverse ++ .ref a :: st) (hW : (st.map fun v => v.category).sum ≤ W) (hls : Ls.size = ml) (hf : rm.frames + 1 ≤ R.frames) (hlo : W + (ml2 + 11) + rm.locals ≤ R.locals) (hk : k + rm.cells ≤ R.cells) (hn : n + rm.slots ≤ R.slots)
    (hr : ∀ v h', Q' v h' → Go p l e R s m args below meth c n0 Q h' (k + rm.cells) (n + rm.slots) (mkF m (pc + 3) Ls (v.toList ++ st))) : Go p l e R s m args below meth c n0 Q h k n (mkF m pc Ls S0) := by
  subst hS
  intro T L X eT N
  obtain ⟨cB, kB, q1, q2, q3⟩ := isOf K.2.1 eT E
  obtain ⟨v, vm₁, ⟨T', L', k', n'⟩, -, X', ⟨L2, hQ, l1, y1, z1⟩, stp⟩ := X.virtualBack K.1 (y := y) (z := z) K.2.2.1 (mvT K.2.1 wl) (mvT K.2.1 wd) (notFace_of_selects (args := #[]) (mvT K.2.1 wself)) (mvT K.2.1 wsel) (mvT K.2.1 wi) hy (backOf (W := W) (Q := fun v h L => Q' v h ∧ Fr n0 L) (M []) K.2.1 wc wz hf hlo) q1 q3 (g := mkF m pc Ls (argsL.reverse ++ .ref a :: st)) rfl (hls.trans K.2.2.2.2.1.symm) (Steps.refl _) (argsL := argsL) (rest := st) (fun sg h => by cases hpd.symm.trans h; exact hlen) rfl (by show 2 * 0 + _ ≤ _; omega) (hb K.2.2.2.1 hd) (fun _ _ => ⟨rfl, eT, hk, hn⟩)
  dsimp only [Pt.U, Pt.locs, Pt.cells, Pt.slots] at X' l1 y1 z1 stp hQ
  subst l1 y1 z1
  obtain ⟨s₂, o, S, r⟩ := hr v _ hQ.1 T' _ X' rfl (Fr.app N hQ.2)
  exact ⟨s₂, o, stp.trans S, r⟩
end GoSteps
theorem meets_of {l : Launch} {y : MethodName} {bytes : ByteArray} {ml : Nat} {rt : Option FieldType} {rm : Room} {Z : State} {as : Array Value} {h0 : Heap} {n0 : Nat} {Q : Option Value → Heap → Prop} (hx : plainFor y = true) {Ls : Array Slot} (hef : ∀ m, entryFrame m as ml = mkF m 0 Ls [])
    (body : ∀ p e s m below meth c, Kx Z y.cls y.name bytes ml rt p s m meth c → Go p l e rm s m as below meth c n0 Q h0 0 0 (mkF m 0 Ls [])) : Meets l y bytes ml rt rm Z as h0 n0 Q := by
  intro ws
  refine MetFree.of_bodySF hx hisR ?_
  intro p e s m args below meth c s₁ Bd hml0 hP hK
  obtain ⟨rfl, hZ, hh⟩ := hP
  have X0 : Stand p l e rm s m args below meth c s₁ [] 0 0 := Stand.of_body Bd
  have e0 : s₁.heap = h0 := by rw [← hh, Bd.state]; rfl
  obtain ⟨s₂, o, S, r1, r2, r3⟩ := body p e s m below meth c ⟨Bd.exec, hZ, findClass_of_methodNamed Bd.named, Bd.bytes, hml0, Bd.returns, Bd.notSynchronized, (name_of_methodNamed Bd.named Bd.method).1⟩ s₁ [] X0 e0 (Fr.nil n0)
  exact ⟨s₂, o, castTop (hef m) S, r1, r2, r3⟩
theorem tw {a0 : Array Value} {Z : State} {ts : List Jvm.Cond} (hw : ∀ d ∈ ts, d.before a0 Z = true) (i : Nat) {d : Jvm.Cond} (q : ts[i]? = some d) : d.before a0 Z = true := hw _ (List.mem_of_getElem? q)
theorem pn0 : plainName "com/example/ferrule/ferrule/Weight" = true := by first | (simp [plainName, overriddenIn]; done) | decide +kernel
theorem pd0 : parseMethodDescriptor "(JJ)J" = some ⟨[.long, .long], some .long⟩ := by decide +kernel
theorem pn1 : plainName "com/example/ferrule/ferrule/WeightTimesPinLaw" = true := by first | (simp [plainName, overriddenIn]; done) | decide +kernel
theorem pd1 : parseMethodDescriptor "(JJII)Z" = some ⟨[.long, .long, .int, .int], some .boolean⟩ := by decide +kernel
theorem d1_0 : decode prog_102_method_5_code 0 = .ok (.lload_n 2, 1) := by decide +kernel
theorem d1_1 : decode prog_102_method_5_code 1 = .ok (.lconst 0, 1) := by decide +kernel
theorem d1_2 : decode prog_102_method_5_code 2 = .ok (.lcmp, 1) := by decide +kernel
theorem d1_3 : decode prog_102_method_5_code 3 = .ok (.ifCond .eq 19, 3) := by decide +kernel
theorem d1_6 : decode prog_102_method_5_code 6 = .ok (.lload_n 0, 1) := by decide +kernel
theorem d1_7 : decode prog_102_method_5_code 7 = .ok (.ldc2_w 35, 3) := by decide +kernel
theorem d1_10 : decode prog_102_method_5_code 10 = .ok (.lload_n 2, 1) := by decide +kernel
theorem d1_11 : decode prog_102_method_5_code 11 = .ok (.ldiv, 1) := by decide +kernel
theorem d1_12 : decode prog_102_method_5_code 12 = .ok (.lcmp, 1) := by decide +kernel
theorem d1_13 : decode prog_102_method_5_code 13 = .ok (.ifCond .le 9, 3) := by decide +kernel
theorem d1_16 : decode prog_102_method_5_code 16 = .ok (.ldc2_w 35, 3) := by decide +kernel
theorem d1_19 : decode prog_102_method_5_code 19 = .ok (.goto 6, 3) := by decide +kernel
theorem d1_22 : decode prog_102_method_5_code 22 = .ok (.lload_n 0, 1) := by decide +kernel
theorem d1_23 : decode prog_102_method_5_code 23 = .ok (.lload_n 2, 1) := by decide +kernel
theorem d1_24 : decode prog_102_method_5_code 24 = .ok (.lmul, 1) := by decide +kernel
theorem d1_25 : decode prog_102_method_5_code 25 = .ok (.lreturn, 1) := by decide +kernel
theorem d2_0 : decode method_3_code 0 = .ok (.lload_n 0, 1) := by decide +kernel
theorem d2_1 : decode method_3_code 1 = .ok (.bipush 32, 2) := by decide +kernel
theorem d2_3 : decode method_3_code 3 = .ok (.lushr, 1) := by decide +kernel
theorem d2_4 : decode method_3_code 4 = .ok (.lstore 4, 2) := by decide +kernel
theorem d2_6 : decode method_3_code 6 = .ok (.lload_n 0, 1) := by decide +kernel
theorem d2_7 : decode method_3_code 7 = .ok (.ldc2_w 22, 3) := by decide +kernel
theorem d2_10 : decode method_3_code 10 = .ok (.land, 1) := by decide +kernel
theorem d2_11 : decode method_3_code 11 = .ok (.lstore 6, 2) := by decide +kernel
theorem d2_13 : decode method_3_code 13 = .ok (.lload_n 2, 1) := by decide +kernel
theorem d2_14 : decode method_3_code 14 = .ok (.bipush 32, 2) := by decide +kernel
theorem d2_16 : decode method_3_code 16 = .ok (.lushr, 1) := by decide +kernel
theorem d2_17 : decode method_3_code 17 = .ok (.lstore 8, 2) := by decide +kernel
theorem d2_19 : decode method_3_code 19 = .ok (.lload_n 2, 1) := by decide +kernel
theorem d2_20 : decode method_3_code 20 = .ok (.ldc2_w 22, 3) := by decide +kernel
theorem d2_23 : decode method_3_code 23 = .ok (.land, 1) := by decide +kernel
theorem d2_24 : decode method_3_code 24 = .ok (.lstore 10, 2) := by decide +kernel
theorem d2_26 : decode method_3_code 26 = .ok (.lload 4, 2) := by decide +kernel
theorem d2_28 : decode method_3_code 28 = .ok (.lconst 0, 1) := by decide +kernel
theorem d2_29 : decode method_3_code 29 = .ok (.lcmp, 1) := by decide +kernel
theorem d2_30 : decode method_3_code 30 = .ok (.ifCond .eq 14, 3) := by decide +kernel
theorem d2_33 : decode method_3_code 33 = .ok (.lload 8, 2) := by decide +kernel
theorem d2_35 : decode method_3_code 35 = .ok (.lconst 0, 1) := by decide +kernel
theorem d2_36 : decode method_3_code 36 = .ok (.lcmp, 1) := by decide +kernel
theorem d2_37 : decode method_3_code 37 = .ok (.ifCond .eq 7, 3) := by decide +kernel
theorem d2_40 : decode method_3_code 40 = .ok (.ldc2_w 9, 3) := by decide +kernel
theorem d2_43 : decode method_3_code 43 = .ok (.lreturn, 1) := by decide +kernel
theorem d2_44 : decode method_3_code 44 = .ok (.lload 4, 2) := by decide +kernel
theorem d2_46 : decode method_3_code 46 = .ok (.lload 10, 2) := by decide +kernel
theorem d2_48 : decode method_3_code 48 = .ok (.lmul, 1) := by decide +kernel
theorem d2_49 : decode method_3_code 49 = .ok (.lload 6, 2) := by decide +kernel
theorem d2_51 : decode method_3_code 51 = .ok (.lload 8, 2) := by decide +kernel
theorem d2_53 : decode method_3_code 53 = .ok (.lmul, 1) := by decide +kernel
theorem d2_54 : decode method_3_code 54 = .ok (.ladd, 1) := by decide +kernel
theorem d2_55 : decode method_3_code 55 = .ok (.lstore 12, 2) := by decide +kernel
theorem d2_57 : decode method_3_code 57 = .ok (.lload 12, 2) := by decide +kernel
theorem d2_59 : decode method_3_code 59 = .ok (.ldc2_w 24, 3) := by decide +kernel
theorem d2_62 : decode method_3_code 62 = .ok (.lcmp, 1) := by decide +kernel
theorem d2_63 : decode method_3_code 63 = .ok (.ifCond .lt 7, 3) := by decide +kernel
theorem d2_66 : decode method_3_code 66 = .ok (.ldc2_w 9, 3) := by decide +kernel
theorem d2_69 : decode method_3_code 69 = .ok (.lreturn, 1) := by decide +kernel
theorem d2_70 : decode method_3_code 70 = .ok (.lload 12, 2) := by decide +kernel
theorem d2_72 : decode method_3_code 72 = .ok (.bipush 32, 2) := by decide +kernel
theorem d2_74 : decode method_3_code 74 = .ok (.lshl, 1) := by decide +kernel
theorem d2_75 : decode method_3_code 75 = .ok (.lstore 14, 2) := by decide +kernel
theorem d2_77 : decode method_3_code 77 = .ok (.lload 6, 2) := by decide +kernel
theorem d2_79 : decode method_3_code 79 = .ok (.lload 10, 2) := by decide +kernel
theorem d2_81 : decode method_3_code 81 = .ok (.lmul, 1) := by decide +kernel
theorem d2_82 : decode method_3_code 82 = .ok (.lstore 16, 2) := by decide +kernel
theorem d2_84 : decode method_3_code 84 = .ok (.lload 16, 2) := by decide +kernel
theorem d2_86 : decode method_3_code 86 = .ok (.lconst 0, 1) := by decide +kernel
theorem d2_87 : decode method_3_code 87 = .ok (.lcmp, 1) := by decide +kernel
theorem d2_88 : decode method_3_code 88 = .ok (.ifCond .ge 7, 3) := by decide +kernel
theorem d2_91 : decode method_3_code 91 = .ok (.ldc2_w 9, 3) := by decide +kernel
theorem d2_94 : decode method_3_code 94 = .ok (.lreturn, 1) := by decide +kernel
theorem d2_95 : decode method_3_code 95 = .ok (.lload 14, 2) := by decide +kernel
theorem d2_97 : decode method_3_code 97 = .ok (.ldc2_w 9, 3) := by decide +kernel
theorem d2_100 : decode method_3_code 100 = .ok (.lload 16, 2) := by decide +kernel
theorem d2_102 : decode method_3_code 102 = .ok (.lsub, 1) := by decide +kernel
theorem d2_103 : decode method_3_code 103 = .ok (.lcmp, 1) := by decide +kernel
theorem d2_104 : decode method_3_code 104 = .ok (.ifCond .le 7, 3) := by decide +kernel
theorem d2_107 : decode method_3_code 107 = .ok (.ldc2_w 9, 3) := by decide +kernel
theorem d2_110 : decode method_3_code 110 = .ok (.lreturn, 1) := by decide +kernel
theorem d2_111 : decode method_3_code 111 = .ok (.lload 14, 2) := by decide +kernel
theorem d2_113 : decode method_3_code 113 = .ok (.lload 16, 2) := by decide +kernel
theorem d2_115 : decode method_3_code 115 = .ok (.ladd, 1) := by decide +kernel
theorem d2_116 : decode method_3_code 116 = .ok (.lreturn, 1) := by decide +kernel
theorem own_and63 (y : Int32) : (y.toInt64 &&& 63).toBitVec = BitVec.ofNat 64 (y.toBitVec.toNat % 64) := by
  apply BitVec.eq_of_getLsbD_eq
  intro i hi
  have h63 : (63 : Int64).toBitVec = BitVec.ofNat 64 (2 ^ 6 - 1) := by decide
  have hm : (y.toBitVec.toNat % 64) = y.toBitVec.toNat % 2 ^ 6 := rfl
  rw [Int64.toBitVec_and, Int32.toBitVec_toInt64, BitVec.getLsbD_and, BitVec.getLsbD_signExtend, h63, BitVec.getLsbD_ofNat, Nat.testBit_two_pow_sub_one, BitVec.getLsbD_ofNat, hm, Nat.testBit_mod_two_pow]
  by_cases h6 : i < 6
  · have h32 : i < 32 := by omega
    simp [hi, h6, h32, BitVec.getLsbD]
  · simp [h6]
theorem bv_lshl (x : Int64) (y : Int32) : (x <<< (y.toInt64 &&& 63)).toBitVec = x.toBitVec <<< (y.toBitVec.toNat % 64) := by
  show x.toBitVec <<< ((y.toInt64 &&& 63).toBitVec.smod 64) = _
  rw [BitVec.shiftLeft_eq', own_and63, smod64 _ (Nat.mod_lt _ (by decide))]
theorem bv_lshr (x : Int64) (y : Int32) : (x >>> (y.toInt64 &&& 63)).toBitVec = x.toBitVec.sshiftRight (y.toBitVec.toNat % 64) := by
  show x.toBitVec.sshiftRight' ((y.toInt64 &&& 63).toBitVec.smod 64) = _
  rw [BitVec.sshiftRight_eq', own_and63, smod64 _ (Nat.mod_lt _ (by decide))]
theorem bv_lushr (x : Int64) (y : Int32) : (XT.ushrL x y).toBitVec = x.toBitVec >>> (y.toBitVec.toNat % 64) := by
  show x.toBitVec >>> ((y.toInt64 &&& 63).toBitVec % 64) = _
  rw [BitVec.ushiftRight_eq', own_and63, BitVec.toNat_umod, BitVec.toNat_ofNat]
  congr 1
  show y.toBitVec.toNat % 64 % 2 ^ 64 % 64 = _
  omega
theorem bv_ishl (x y : Int32) : (x <<< (y &&& 31)).toBitVec = x.toBitVec <<< (y.toBitVec.toNat % 32) := by
  show x.toBitVec <<< ((y &&& 31).toBitVec.smod 32) = _
  rw [BitVec.shiftLeft_eq', sm32 y _ rfl]
theorem bv_ishr (x y : Int32) : (x >>> (y &&& 31)).toBitVec = x.toBitVec.sshiftRight (y.toBitVec.toNat % 32) := by
  show x.toBitVec.sshiftRight' ((y &&& 31).toBitVec.smod 32) = _
  rw [BitVec.sshiftRight_eq', sm32 y _ rfl]
theorem bv_iushr (x y : Int32) : (XT.ushr x y).toBitVec = x.toBitVec >>> (y.toBitVec.toNat % 32) := by
  show x.toBitVec >>> ((y &&& 31).toBitVec % 32) = _
  have h1 : (y &&& 31).toBitVec.toNat = y.toBitVec.toNat % 32 := by
    show (y.toBitVec &&& (31 : Int32).toBitVec).toNat = _
    rw [BitVec.toNat_and, show (31 : Int32).toBitVec.toNat = 2 ^ 5 - 1 from by decide, Nat.and_two_pow_sub_one_eq_mod]
  rw [BitVec.ushiftRight_eq', BitVec.toNat_umod, h1]
  congr 1
  show y.toBitVec.toNat % 32 % 32 = _
  omega
theorem u64 (x : Int64) : (x.toBitVec.toNat : Int) = x.toInt % 18446744073709551616 := by
  have h := x.toBitVec.isLt
  show _ = x.toBitVec.toInt % _
  rw [BitVec.toInt_eq_toNat_cond]; split <;> omega
theorem u32 (x : Int32) : (x.toBitVec.toNat : Int) = x.toInt % 4294967296 := by
  have h := x.toBitVec.isLt
  show _ = x.toBitVec.toInt % _
  rw [BitVec.toInt_eq_toNat_cond]; split <;> omega
theorem i64 (x : Int64) : x.toInt = if x.toBitVec.toNat < 9223372036854775808 then (x.toBitVec.toNat : Int) else (x.toBitVec.toNat : Int) - 18446744073709551616 := by
  have h := x.toBitVec.isLt
  show x.toBitVec.toInt = _
  rw [BitVec.toInt_eq_toNat_cond]; split <;> split <;> omega
/-- a logical shift by a known count, as a number -/
theorem n_lushr (x : Int64) (y : Int32) (k : Nat) (hk : y.toBitVec.toNat % 64 = k) : (XT.ushrL x y).toBitVec.toNat = x.toBitVec.toNat / 2 ^ k := by
  rw [bv_lushr, hk, BitVec.toNat_ushiftRight, Nat.shiftRight_eq_div_pow]
theorem n_iushr (x y : Int32) (k : Nat) (hk : y.toBitVec.toNat % 32 = k) : (XT.ushr x y).toBitVec.toNat = x.toBitVec.toNat / 2 ^ k := by
  rw [bv_iushr, hk, BitVec.toNat_ushiftRight, Nat.shiftRight_eq_div_pow]
def f_times (x : Int64) (y : Int64) : Int64 := if y = (0 : Int64) then (x * y) else (if ((9223372036854775807 : Int64) / y) < x then (9223372036854775807 : Int64) else (x * y))
set_option maxRecDepth 65536 in
set_option maxHeartbeats 40000000 in
theorem rm_times (l : Launch) (Z : State) (a0 : Array Value) (hw : ∀ d ∈ tables_1, d.before a0 Z = true) (x : Int64) (y : Int64) (h0 : Heap) (n0 : Nat) (Z0 : n0 ≤ h0.size)   :
    Meets l (⟨"com/example/ferrule/ferrule/Weight", "times", "(JJ)J"⟩ : MethodName) prog_102_method_5_code 4 (some .long) ({ frames := 0, cells := 0, slots := 0, locals := 0 } : Room) Z #[(.long x), (.long y)] h0 n0 (fun v h => v = some (Value.long (f_times x y)) ∧ h = h0) := by
  refine meets_of (plainFor_of_name pn0) (Ls := #[.val (.long x), .second, .val (.long y), .second]) (fun m => by first | (simp [entryFrame, mkF, argsToLocals, Value.category]; done) | rfl) ?_
  intro p e s m below meth c K
  replace K : Kx Z "com/example/ferrule/ferrule/Weight" "times" prog_102_method_5_code 4 (some .long) p s m meth c := K
  obtain ⟨Q, hQ⟩ : ∃ Q : Option Value → Heap → Prop, Q = (fun v h => v = some (Value.long (f_times x y)) ∧ h = h0) := ⟨_, rfl⟩
  rw [← hQ]
  refine g_lloadN K 0 d1_0 rfl ?_
  refine g_lconst K 1 (0 : Int64) d1_1 (by decide) ?_
  refine g_lcmp K 2 d1_2 ?_
  refine g_ll_eq K 3 22 d1_3 (by decide) (by decide) ?_ ?_
  · intro c1
    refine g_lloadN K 22 d1_22 rfl ?_
    refine g_lloadN K 23 d1_23 rfl ?_
    refine g_lmul K 24 d1_24 ?_
    refine g_lreturn K 25 d1_25 rfl (by decide) (by decide) ?_
    rw [hQ]
    refine ⟨?_, rfl⟩
    show some (Value.long _) = some (Value.long (f_times x y))
    unfold f_times
    first | (rw [if_pos c1]; done) | (rw [if_pos c1]; rfl)
  · intro c1
    refine g_lloadN K 6 d1_6 rfl ?_
    refine g_ldc2_w K 7 (v := (9223372036854775807 : Int64)) d1_7 (tw hw 11 rfl) ?_
    refine g_lloadN K 10 d1_10 rfl ?_
    refine g_ldiv K 11 d1_11 (by assumption) ?_
    refine g_lcmp K 12 d1_12 ?_
    refine g_ll_le K 13 22 d1_13 (by decide) (by decide) ?_ ?_
    · intro c2
      refine g_lloadN K 22 d1_22 rfl ?_
      refine g_lloadN K 23 d1_23 rfl ?_
      refine g_lmul K 24 d1_24 ?_
      refine g_lreturn K 25 d1_25 rfl (by decide) (by decide) ?_
      rw [hQ]
      refine ⟨?_, rfl⟩
      show some (Value.long _) = some (Value.long (f_times x y))
      unfold f_times
      first | (rw [if_neg c1, if_neg c2]; done) | (rw [if_neg c1, if_neg c2]; rfl)
    · intro c2
      refine g_ldc2_w K 16 (v := (9223372036854775807 : Int64)) d1_16 (tw hw 11 rfl) ?_
      refine g_goto K 19 25 d1_19 (by decide) (by decide) ?_
      refine g_lreturn K 25 d1_25 rfl (by decide) (by decide) ?_
      rw [hQ]
      refine ⟨?_, rfl⟩
      show some (Value.long _) = some (Value.long (f_times x y))
      unfold f_times
      first | (rw [if_neg c1, if_pos c2]; done) | (rw [if_neg c1, if_pos c2]; rfl)
def f_expected (x : Int64) (y : Int64) : Int64 := if (XT.ushrL x (32 : Int32)) = (0 : Int64) then (if (((XT.ushrL x (32 : Int32)) * (y &&& (4294967295 : Int64))) + ((x &&& (4294967295 : Int64)) * (XT.ushrL y (32 : Int32)))) < (2147483648 : Int64) then (if ((x &&& (4294967295 : Int64)) * (y &&& (4294967295 : Int64))) < (0 : Int64) then (9223372036854775807 : Int64) else (if ((9223372036854775807 : Int64) - ((x &&& (4294967295 : Int64)) * (y &&& (4294967295 : Int64)))) < ((((XT.ushrL x (32 : Int32)) * (y &&& (4294967295 : Int64))) + ((x &&& (4294967295 : Int64)) * (XT.ushrL y (32 : Int32)))) <<< ((32 : Int32).toInt64 &&& 63)) then (9223372036854775807 : Int64) else (((((XT.ushrL x (32 : Int32)) * (y &&& (4294967295 : Int64))) + ((x &&& (4294967295 : Int64)) * (XT.ushrL y (32 : Int32)))) <<< ((32 : Int32).toInt64 &&& 63)) + ((x &&& (4294967295 : Int64)) * (y &&& (4294967295 : Int64)))))) else (9223372036854775807 : Int64)) else (if (XT.ushrL y (32 : Int32)) = (0 : Int64) then (if (((XT.ushrL x (32 : Int32)) * (y &&& (4294967295 : Int64))) + ((x &&& (4294967295 : Int64)) * (XT.ushrL y (32 : Int32)))) < (2147483648 : Int64) then (if ((x &&& (4294967295 : Int64)) * (y &&& (4294967295 : Int64))) < (0 : Int64) then (9223372036854775807 : Int64) else (if ((9223372036854775807 : Int64) - ((x &&& (4294967295 : Int64)) * (y &&& (4294967295 : Int64)))) < ((((XT.ushrL x (32 : Int32)) * (y &&& (4294967295 : Int64))) + ((x &&& (4294967295 : Int64)) * (XT.ushrL y (32 : Int32)))) <<< ((32 : Int32).toInt64 &&& 63)) then (9223372036854775807 : Int64) else (((((XT.ushrL x (32 : Int32)) * (y &&& (4294967295 : Int64))) + ((x &&& (4294967295 : Int64)) * (XT.ushrL y (32 : Int32)))) <<< ((32 : Int32).toInt64 &&& 63)) + ((x &&& (4294967295 : Int64)) * (y &&& (4294967295 : Int64)))))) else (9223372036854775807 : Int64)) else (9223372036854775807 : Int64))
set_option maxRecDepth 65536 in
set_option maxHeartbeats 40000000 in
theorem rm_expected (l : Launch) (Z : State) (a0 : Array Value) (hw : ∀ d ∈ tables_1, d.before a0 Z = true) (x : Int64) (y : Int64) (h0 : Heap) (n0 : Nat) (Z0 : n0 ≤ h0.size)   :
    Meets l (⟨"com/example/ferrule/ferrule/WeightTimesPinLaw", "expected", "(JJ)J"⟩ : MethodName) method_3_code 18 (some .long) ({ frames := 0, cells := 0, slots := 0, locals := 0 } : Room) Z #[(.long x), (.long y)] h0 n0 (fun v h => v = some (Value.long (f_expected x y)) ∧ h = h0) := by
  refine meets_of (plainFor_of_name pn1) (Ls := #[.val (.long x), .second, .val (.long y), .second, .unset, .unset, .unset, .unset, .unset, .unset, .unset, .unset, .unset, .unset, .unset, .unset, .unset, .unset]) (fun m => by first | (simp [entryFrame, mkF, argsToLocals, Value.category]; done) | rfl) ?_
  intro p e s m below meth c K
  replace K : Kx Z "com/example/ferrule/ferrule/WeightTimesPinLaw" "expected" method_3_code 18 (some .long) p s m meth c := K
  obtain ⟨Q, hQ⟩ : ∃ Q : Option Value → Heap → Prop, Q = (fun v h => v = some (Value.long (f_expected x y)) ∧ h = h0) := ⟨_, rfl⟩
  rw [← hQ]
  refine g_lloadN K 0 d2_0 rfl ?_
  refine g_bipush K 1 (32 : Int32) d2_1 (by decide) ?_
  refine g_lushr K 3 d2_3 ?_
  refine g_lstore K 4 #[.val (.long x), .second, .val (.long y), .second, .val (.long (XT.ushrL x (32 : Int32))), .second, .unset, .unset, .unset, .unset, .unset, .unset, .unset, .unset, .unset, .unset, .unset, .unset] d2_4 rfl ?_
  refine g_lloadN K 6 d2_6 rfl ?_
  refine g_ldc2_w K 7 (v := (4294967295 : Int64)) d2_7 (tw hw 9 rfl) ?_
  refine g_land K 10 d2_10 ?_
  refine g_lstore K 11 #[.val (.long x), .second, .val (.long y), .second, .val (.long (XT.ushrL x (32 : Int32))), .second, .val (.long (x &&& (4294967295 : Int64))), .second, .unset, .unset, .unset, .unset, .unset, .unset, .unset, .unset, .unset, .unset] d2_11 rfl ?_
  refine g_lloadN K 13 d2_13 rfl ?_
  refine g_bipush K 14 (32 : Int32) d2_14 (by decide) ?_
  refine g_lushr K 16 d2_16 ?_
  refine g_lstore K 17 #[.val (.long x), .second, .val (.long y), .second, .val (.long (XT.ushrL x (32 : Int32))), .second, .val (.long (x &&& (4294967295 : Int64))), .second, .val (.long (XT.ushrL y (32 : Int32))), .second, .unset, .unset, .unset, .unset, .unset, .unset, .unset, .unset] d2_17 rfl ?_
  refine g_lloadN K 19 d2_19 rfl ?_
  refine g_ldc2_w K 20 (v := (4294967295 : Int64)) d2_20 (tw hw 9 rfl) ?_
  refine g_land K 23 d2_23 ?_
  refine g_lstore K 24 #[.val (.long x), .second, .val (.long y), .second, .val (.long (XT.ushrL x (32 : Int32))), .second, .val (.long (x &&& (4294967295 : Int64))), .second, .val (.long (XT.ushrL y (32 : Int32))), .second, .val (.long (y &&& (4294967295 : Int64))), .second, .unset, .unset, .unset, .unset, .unset, .unset] d2_24 rfl ?_
  refine g_lload K 26 d2_26 rfl ?_
  refine g_lconst K 28 (0 : Int64) d2_28 (by decide) ?_
  refine g_lcmp K 29 d2_29 ?_
  refine g_ll_eq K 30 44 d2_30 (by decide) (by decide) ?_ ?_
  · intro c1
    refine g_lload K 44 d2_44 rfl ?_
    refine g_lload K 46 d2_46 rfl ?_
    refine g_lmul K 48 d2_48 ?_
    refine g_lload K 49 d2_49 rfl ?_
    refine g_lload K 51 d2_51 rfl ?_
    refine g_lmul K 53 d2_53 ?_
    refine g_ladd K 54 d2_54 ?_
    refine g_lstore K 55 #[.val (.long x), .second, .val (.long y), .second, .val (.long (XT.ushrL x (32 : Int32))), .second, .val (.long (x &&& (4294967295 : Int64))), .second, .val (.long (XT.ushrL y (32 : Int32))), .second, .val (.long (y &&& (4294967295 : Int64))), .second, .val (.long (((XT.ushrL x (32 : Int32)) * (y &&& (4294967295 : Int64))) + ((x &&& (4294967295 : Int64)) * (XT.ushrL y (32 : Int32))))), .second, .unset, .unset, .unset, .unset] d2_55 rfl ?_
    refine g_lload K 57 d2_57 rfl ?_
    refine g_ldc2_w K 59 (v := (2147483648 : Int64)) d2_59 (tw hw 10 rfl) ?_
    refine g_lcmp K 62 d2_62 ?_
    refine g_ll_lt K 63 70 d2_63 (by decide) (by decide) ?_ ?_
    · intro c2
      refine g_lload K 70 d2_70 rfl ?_
      refine g_bipush K 72 (32 : Int32) d2_72 (by decide) ?_
      refine g_lshl K 74 d2_74 ?_
      refine g_lstore K 75 #[.val (.long x), .second, .val (.long y), .second, .val (.long (XT.ushrL x (32 : Int32))), .second, .val (.long (x &&& (4294967295 : Int64))), .second, .val (.long (XT.ushrL y (32 : Int32))), .second, .val (.long (y &&& (4294967295 : Int64))), .second, .val (.long (((XT.ushrL x (32 : Int32)) * (y &&& (4294967295 : Int64))) + ((x &&& (4294967295 : Int64)) * (XT.ushrL y (32 : Int32))))), .second, .val (.long ((((XT.ushrL x (32 : Int32)) * (y &&& (4294967295 : Int64))) + ((x &&& (4294967295 : Int64)) * (XT.ushrL y (32 : Int32)))) <<< ((32 : Int32).toInt64 &&& 63))), .second, .unset, .unset] d2_75 rfl ?_
      refine g_lload K 77 d2_77 rfl ?_
      refine g_lload K 79 d2_79 rfl ?_
      refine g_lmul K 81 d2_81 ?_
      refine g_lstore K 82 #[.val (.long x), .second, .val (.long y), .second, .val (.long (XT.ushrL x (32 : Int32))), .second, .val (.long (x &&& (4294967295 : Int64))), .second, .val (.long (XT.ushrL y (32 : Int32))), .second, .val (.long (y &&& (4294967295 : Int64))), .second, .val (.long (((XT.ushrL x (32 : Int32)) * (y &&& (4294967295 : Int64))) + ((x &&& (4294967295 : Int64)) * (XT.ushrL y (32 : Int32))))), .second, .val (.long ((((XT.ushrL x (32 : Int32)) * (y &&& (4294967295 : Int64))) + ((x &&& (4294967295 : Int64)) * (XT.ushrL y (32 : Int32)))) <<< ((32 : Int32).toInt64 &&& 63))), .second, .val (.long ((x &&& (4294967295 : Int64)) * (y &&& (4294967295 : Int64)))), .second] d2_82 rfl ?_
      refine g_lload K 84 d2_84 rfl ?_
      refine g_lconst K 86 (0 : Int64) d2_86 (by decide) ?_
      refine g_lcmp K 87 d2_87 ?_
      refine g_ll_ge K 88 95 d2_88 (by decide) (by decide) ?_ ?_
      · intro c3
        refine g_lload K 95 d2_95 rfl ?_
        refine g_ldc2_w K 97 (v := (9223372036854775807 : Int64)) d2_97 (tw hw 0 rfl) ?_
        refine g_lload K 100 d2_100 rfl ?_
        refine g_lsub K 102 d2_102 ?_
        refine g_lcmp K 103 d2_103 ?_
        refine g_ll_le K 104 111 d2_104 (by decide) (by decide) ?_ ?_
        · intro c4
          refine g_lload K 111 d2_111 rfl ?_
          refine g_lload K 113 d2_113 rfl ?_
          refine g_ladd K 115 d2_115 ?_
          refine g_lreturn K 116 d2_116 rfl (by decide) (by decide) ?_
          rw [hQ]
          refine ⟨?_, rfl⟩
          show some (Value.long _) = some (Value.long (f_expected x y))
          unfold f_expected
          first | (rw [if_pos c1, if_pos c2, if_neg c3, if_neg c4]; done) | (rw [if_pos c1, if_pos c2, if_neg c3, if_neg c4]; rfl)
        · intro c4
          refine g_ldc2_w K 107 (v := (9223372036854775807 : Int64)) d2_107 (tw hw 0 rfl) ?_
          refine g_lreturn K 110 d2_110 rfl (by decide) (by decide) ?_
          rw [hQ]
          refine ⟨?_, rfl⟩
          show some (Value.long _) = some (Value.long (f_expected x y))
          unfold f_expected
          first | (rw [if_pos c1, if_pos c2, if_neg c3, if_pos c4]; done) | (rw [if_pos c1, if_pos c2, if_neg c3, if_pos c4]; rfl)
      · intro c3
        refine g_ldc2_w K 91 (v := (9223372036854775807 : Int64)) d2_91 (tw hw 0 rfl) ?_
        refine g_lreturn K 94 d2_94 rfl (by decide) (by decide) ?_
        rw [hQ]
        refine ⟨?_, rfl⟩
        show some (Value.long _) = some (Value.long (f_expected x y))
        unfold f_expected
        first | (rw [if_pos c1, if_pos c2, if_pos c3]; done) | (rw [if_pos c1, if_pos c2, if_pos c3]; rfl)
    · intro c2
      refine g_ldc2_w K 66 (v := (9223372036854775807 : Int64)) d2_66 (tw hw 0 rfl) ?_
      refine g_lreturn K 69 d2_69 rfl (by decide) (by decide) ?_
      rw [hQ]
      refine ⟨?_, rfl⟩
      show some (Value.long _) = some (Value.long (f_expected x y))
      unfold f_expected
      first | (rw [if_pos c1, if_neg c2]; done) | (rw [if_pos c1, if_neg c2]; rfl)
  · intro c1
    refine g_lload K 33 d2_33 rfl ?_
    refine g_lconst K 35 (0 : Int64) d2_35 (by decide) ?_
    refine g_lcmp K 36 d2_36 ?_
    refine g_ll_eq K 37 44 d2_37 (by decide) (by decide) ?_ ?_
    · intro c5
      refine g_lload K 44 d2_44 rfl ?_
      refine g_lload K 46 d2_46 rfl ?_
      refine g_lmul K 48 d2_48 ?_
      refine g_lload K 49 d2_49 rfl ?_
      refine g_lload K 51 d2_51 rfl ?_
      refine g_lmul K 53 d2_53 ?_
      refine g_ladd K 54 d2_54 ?_
      refine g_lstore K 55 #[.val (.long x), .second, .val (.long y), .second, .val (.long (XT.ushrL x (32 : Int32))), .second, .val (.long (x &&& (4294967295 : Int64))), .second, .val (.long (XT.ushrL y (32 : Int32))), .second, .val (.long (y &&& (4294967295 : Int64))), .second, .val (.long (((XT.ushrL x (32 : Int32)) * (y &&& (4294967295 : Int64))) + ((x &&& (4294967295 : Int64)) * (XT.ushrL y (32 : Int32))))), .second, .unset, .unset, .unset, .unset] d2_55 rfl ?_
      refine g_lload K 57 d2_57 rfl ?_
      refine g_ldc2_w K 59 (v := (2147483648 : Int64)) d2_59 (tw hw 10 rfl) ?_
      refine g_lcmp K 62 d2_62 ?_
      refine g_ll_lt K 63 70 d2_63 (by decide) (by decide) ?_ ?_
      · intro c6
        refine g_lload K 70 d2_70 rfl ?_
        refine g_bipush K 72 (32 : Int32) d2_72 (by decide) ?_
        refine g_lshl K 74 d2_74 ?_
        refine g_lstore K 75 #[.val (.long x), .second, .val (.long y), .second, .val (.long (XT.ushrL x (32 : Int32))), .second, .val (.long (x &&& (4294967295 : Int64))), .second, .val (.long (XT.ushrL y (32 : Int32))), .second, .val (.long (y &&& (4294967295 : Int64))), .second, .val (.long (((XT.ushrL x (32 : Int32)) * (y &&& (4294967295 : Int64))) + ((x &&& (4294967295 : Int64)) * (XT.ushrL y (32 : Int32))))), .second, .val (.long ((((XT.ushrL x (32 : Int32)) * (y &&& (4294967295 : Int64))) + ((x &&& (4294967295 : Int64)) * (XT.ushrL y (32 : Int32)))) <<< ((32 : Int32).toInt64 &&& 63))), .second, .unset, .unset] d2_75 rfl ?_
        refine g_lload K 77 d2_77 rfl ?_
        refine g_lload K 79 d2_79 rfl ?_
        refine g_lmul K 81 d2_81 ?_
        refine g_lstore K 82 #[.val (.long x), .second, .val (.long y), .second, .val (.long (XT.ushrL x (32 : Int32))), .second, .val (.long (x &&& (4294967295 : Int64))), .second, .val (.long (XT.ushrL y (32 : Int32))), .second, .val (.long (y &&& (4294967295 : Int64))), .second, .val (.long (((XT.ushrL x (32 : Int32)) * (y &&& (4294967295 : Int64))) + ((x &&& (4294967295 : Int64)) * (XT.ushrL y (32 : Int32))))), .second, .val (.long ((((XT.ushrL x (32 : Int32)) * (y &&& (4294967295 : Int64))) + ((x &&& (4294967295 : Int64)) * (XT.ushrL y (32 : Int32)))) <<< ((32 : Int32).toInt64 &&& 63))), .second, .val (.long ((x &&& (4294967295 : Int64)) * (y &&& (4294967295 : Int64)))), .second] d2_82 rfl ?_
        refine g_lload K 84 d2_84 rfl ?_
        refine g_lconst K 86 (0 : Int64) d2_86 (by decide) ?_
        refine g_lcmp K 87 d2_87 ?_
        refine g_ll_ge K 88 95 d2_88 (by decide) (by decide) ?_ ?_
        · intro c7
          refine g_lload K 95 d2_95 rfl ?_
          refine g_ldc2_w K 97 (v := (9223372036854775807 : Int64)) d2_97 (tw hw 0 rfl) ?_
          refine g_lload K 100 d2_100 rfl ?_
          refine g_lsub K 102 d2_102 ?_
          refine g_lcmp K 103 d2_103 ?_
          refine g_ll_le K 104 111 d2_104 (by decide) (by decide) ?_ ?_
          · intro c8
            refine g_lload K 111 d2_111 rfl ?_
            refine g_lload K 113 d2_113 rfl ?_
            refine g_ladd K 115 d2_115 ?_
            refine g_lreturn K 116 d2_116 rfl (by decide) (by decide) ?_
            rw [hQ]
            refine ⟨?_, rfl⟩
            show some (Value.long _) = some (Value.long (f_expected x y))
            unfold f_expected
            first | (rw [if_neg c1, if_pos c5, if_pos c6, if_neg c7, if_neg c8]; done) | (rw [if_neg c1, if_pos c5, if_pos c6, if_neg c7, if_neg c8]; rfl)
          · intro c8
            refine g_ldc2_w K 107 (v := (9223372036854775807 : Int64)) d2_107 (tw hw 0 rfl) ?_
            refine g_lreturn K 110 d2_110 rfl (by decide) (by decide) ?_
            rw [hQ]
            refine ⟨?_, rfl⟩
            show some (Value.long _) = some (Value.long (f_expected x y))
            unfold f_expected
            first | (rw [if_neg c1, if_pos c5, if_pos c6, if_neg c7, if_pos c8]; done) | (rw [if_neg c1, if_pos c5, if_pos c6, if_neg c7, if_pos c8]; rfl)
        · intro c7
          refine g_ldc2_w K 91 (v := (9223372036854775807 : Int64)) d2_91 (tw hw 0 rfl) ?_
          refine g_lreturn K 94 d2_94 rfl (by decide) (by decide) ?_
          rw [hQ]
          refine ⟨?_, rfl⟩
          show some (Value.long _) = some (Value.long (f_expected x y))
          unfold f_expected
          first | (rw [if_neg c1, if_pos c5, if_pos c6, if_pos c7]; done) | (rw [if_neg c1, if_pos c5, if_pos c6, if_pos c7]; rfl)
      · intro c6
        refine g_ldc2_w K 66 (v := (9223372036854775807 : Int64)) d2_66 (tw hw 0 rfl) ?_
        refine g_lreturn K 69 d2_69 rfl (by decide) (by decide) ?_
        rw [hQ]
        refine ⟨?_, rfl⟩
        show some (Value.long _) = some (Value.long (f_expected x y))
        unfold f_expected
        first | (rw [if_neg c1, if_pos c5, if_neg c6]; done) | (rw [if_neg c1, if_pos c5, if_neg c6]; rfl)
    · intro c5
      refine g_ldc2_w K 40 (v := (9223372036854775807 : Int64)) d2_40 (tw hw 0 rfl) ?_
      refine g_lreturn K 43 d2_43 rfl (by decide) (by decide) ?_
      rw [hQ]
      refine ⟨?_, rfl⟩
      show some (Value.long _) = some (Value.long (f_expected x y))
      unfold f_expected
      first | (rw [if_neg c1, if_neg c5]; done) | (rw [if_neg c1, if_neg c5]; rfl)
theorem own_times (x y : Int64) (hx : 0 ≤ x.toInt) (hy : 0 ≤ y.toInt) : (f_times x y).toInt = if x.toInt * y.toInt ≤ 9223372036854775807 then x.toInt * y.toInt else 9223372036854775807 := by
  have em : (9223372036854775807 : Int64).toInt = 9223372036854775807 := by decide
  have e0 : (0 : Int64).toInt = 0 := by decide
  have h1 := c_lmul x y
  have r1 := rng64 (x * y)
  have hp : 0 ≤ x.toInt * y.toInt := Int.mul_nonneg hx hy
  have k0 : y = 0 ↔ y.toInt = 0 := by rw [← Int64.toInt_inj, e0]
  have kd : ¬ y.toInt = 0 → ((9223372036854775807 / y : Int64) < x ↔ 9223372036854775807 < x.toInt * y.toInt) := by
    intro hq
    rw [Int64.lt_iff_toInt_lt, Int64.toInt_div_of_ne_right _ _ (fun q => by rw [q] at hy; exact absurd hy (by decide)), em, Int.tdiv_eq_ediv_of_nonneg (by decide)]
    exact Int.ediv_lt_iff_lt_mul (by omega)
  unfold f_times
  generalize x * y = xy at *
  generalize (9223372036854775807 / y : Int64) = dv at *
  by_cases q : y.toInt = 0
  · rw [if_pos (k0.mpr q)]
    rw [q] at h1 ⊢
    simp only [Int.mul_zero] at h1 ⊢
    rw [if_pos (by decide)]
    omega
  · rw [if_neg (fun w => q (k0.mp w))]
    have kd := kd q
    generalize x.toInt * y.toInt = P at *
    by_cases w : 9223372036854775807 < P
    · rw [if_pos (kd.mpr w), em, if_neg (by omega)]
    · rw [if_neg (fun u => w (kd.mp u)), if_pos (by omega)]
      omega
def own_com (x1 x0 y1 y0 : Int64) : Int64 := if ((x1 * y0) + (x0 * y1)) < (2147483648 : Int64) then (if (x0 * y0) < (0 : Int64) then (9223372036854775807 : Int64) else (if ((9223372036854775807 : Int64) - (x0 * y0)) < (((x1 * y0) + (x0 * y1)) <<< ((32 : Int32).toInt64 &&& 63)) then (9223372036854775807 : Int64) else ((((x1 * y0) + (x0 * y1)) <<< ((32 : Int32).toInt64 &&& 63)) + (x0 * y0)))) else (9223372036854775807 : Int64)
theorem own_com_spec (x1 x0 y1 y0 : Int64) (hx1 : 0 ≤ x1.toInt ∧ x1.toInt < 2147483648) (hy1 : 0 ≤ y1.toInt ∧ y1.toInt < 2147483648) (hx0 : 0 ≤ x0.toInt ∧ x0.toInt < 4294967296) (hy0 : 0 ≤ y0.toInt ∧ y0.toInt < 4294967296) (hz : x1.toInt = 0 ∨ y1.toInt = 0) :
    (own_com x1 x0 y1 y0).toInt = if (x1.toInt * 4294967296 + x0.toInt) * (y1.toInt * 4294967296 + y0.toInt) ≤ 9223372036854775807 then (x1.toInt * 4294967296 + x0.toInt) * (y1.toInt * 4294967296 + y0.toInt) else 9223372036854775807 := by
  have em : (9223372036854775807 : Int64).toInt = 9223372036854775807 := by decide
  have e0 : (0 : Int64).toInt = 0 := by decide
  have e2 : (2147483648 : Int64).toInt = 2147483648 := by decide
  have hprod : (x1.toInt * 4294967296 + x0.toInt) * (y1.toInt * 4294967296 + y0.toInt) = (x1.toInt * y0.toInt + x0.toInt * y1.toInt) * 4294967296 + x0.toInt * y0.toInt := by
    have hzz : x1.toInt * y1.toInt = 0 := by rcases hz with h | h <;> rw [h] <;> simp
    rw [Int.add_mul, Int.mul_add, Int.mul_add, Int.add_mul]
    have a1 : x1.toInt * 4294967296 * (y1.toInt * 4294967296) = (x1.toInt * y1.toInt) * (4294967296 * 4294967296) := by ac_rfl
    have a2 : x1.toInt * 4294967296 * y0.toInt = x1.toInt * y0.toInt * 4294967296 := by ac_rfl
    have a3 : x0.toInt * (y1.toInt * 4294967296) = x0.toInt * y1.toInt * 4294967296 := by ac_rfl
    rw [a1, a2, a3, hzz]
    omega
  rw [hprod]
  have q1 := c_lmul x1 y0
  have q2 := c_lmul x0 y1
  have q3 := c_lmul x0 y0
  have s1 := rng64 (x1 * y0)
  have s2 := rng64 (x0 * y1)
  have s3 := rng64 (x0 * y0)
  have b1 : 0 ≤ x1.toInt * y0.toInt ∧ x1.toInt * y0.toInt ≤ 2147483647 * 4294967295 := ⟨Int.mul_nonneg hx1.1 hy0.1, Int.mul_le_mul (by omega) (by omega) hy0.1 (by decide)⟩
  have b2 : 0 ≤ x0.toInt * y1.toInt ∧ x0.toInt * y1.toInt ≤ 4294967295 * 2147483647 := ⟨Int.mul_nonneg hx0.1 hy1.1, Int.mul_le_mul (by omega) (by omega) hy1.1 (by decide)⟩
  have b3 : 0 ≤ x0.toInt * y0.toInt ∧ x0.toInt * y0.toInt ≤ 4294967295 * 4294967295 := ⟨Int.mul_nonneg hx0.1 hy0.1, Int.mul_le_mul (by omega) (by omega) hy0.1 (by decide)⟩
  have hz' : x1.toInt * y0.toInt = 0 ∨ x0.toInt * y1.toInt = 0 := by rcases hz with h | h <;> rw [h] <;> simp
  unfold own_com
  generalize x1.toInt * y0.toInt = P1 at *
  generalize x0.toInt * y1.toInt = P2 at *
  generalize x0.toInt * y0.toInt = P3 at *
  generalize x1 * y0 = m1 at *
  generalize x0 * y1 = m2 at *
  generalize x0 * y0 = lo at *
  have q4 := c_ladd m1 m2
  have s4 := rng64 (m1 + m2)
  generalize m1 + m2 = mid at *
  have q5 := c_lshl mid 32 32 (by decide)
  rw [show ((32 : Int32) &&& 0x3f).toInt64 = (32 : Int32).toInt64 &&& 63 from by decide] at q5
  have s5 := rng64 (mid <<< ((32 : Int32).toInt64 &&& 63))
  generalize mid <<< ((32 : Int32).toInt64 &&& 63) = hi at *
  have q6 := c_lsub 9223372036854775807 lo
  have s6 := rng64 (9223372036854775807 - lo)
  generalize (9223372036854775807 - lo : Int64) = df at *
  have q7 := c_ladd hi lo
  have s7 := rng64 (hi + lo)
  generalize hi + lo = sm at *
  rw [em] at q6
  simp only [Int64.lt_iff_toInt_lt, e0, e2]
  have q5' : (hi.toInt - mid.toInt * 4294967296) % 18446744073709551616 = 0 := q5
  clear q5
  by_cases w1 : mid.toInt < 2147483648
  · rw [if_pos w1]
    by_cases w2 : lo.toInt < 0
    · rw [if_pos w2, em, if_neg (by omega)]
    · rw [if_neg w2]
      by_cases w3 : df.toInt < hi.toInt
      · rw [if_pos w3, em, if_neg (by omega)]
      · rw [if_neg w3, if_pos (by omega)]
        omega
  · rw [if_neg w1, em, if_neg (by omega)]
theorem own_exp_eq (x y : Int64) : f_expected x y = (if (XT.ushrL x (32 : Int32)) = (0 : Int64) then own_com (XT.ushrL x (32 : Int32)) (x &&& (4294967295 : Int64)) (XT.ushrL y (32 : Int32)) (y &&& (4294967295 : Int64)) else if (XT.ushrL y (32 : Int32)) = (0 : Int64) then own_com (XT.ushrL x (32 : Int32)) (x &&& (4294967295 : Int64)) (XT.ushrL y (32 : Int32)) (y &&& (4294967295 : Int64)) else 9223372036854775807) := rfl
theorem own_half (x : Int64) (hx : 0 ≤ x.toInt) : 0 ≤ (XT.ushrL x (32 : Int32)).toInt ∧ (XT.ushrL x (32 : Int32)).toInt < 2147483648 ∧ 0 ≤ (x &&& (4294967295 : Int64)).toInt ∧ (x &&& (4294967295 : Int64)).toInt < 4294967296 ∧ x.toInt = (XT.ushrL x (32 : Int32)).toInt * 4294967296 + (x &&& (4294967295 : Int64)).toInt := by
  have h0 := c_maskL x 4294967295 32 (by decide) (by decide)
  have h1 := n_lushr x 32 32 (by decide)
  have h2 := i64 (XT.ushrL x 32)
  have h3 := u64 x
  have r := rng64 x
  generalize XT.ushrL x 32 = X1 at *
  generalize (x &&& (4294967295 : Int64)) = X0 at *
  rw [h1] at h2
  rw [if_pos (by omega)] at h2
  omega
theorem own_expected (x y : Int64) (hx : 0 ≤ x.toInt) (hy : 0 ≤ y.toInt) : (f_expected x y).toInt = if x.toInt * y.toInt ≤ 9223372036854775807 then x.toInt * y.toInt else 9223372036854775807 := by
  obtain ⟨a1, a2, a3, a4, a5⟩ := own_half x hx
  obtain ⟨b1, b2, b3, b4, b5⟩ := own_half y hy
  have e0 : (0 : Int64).toInt = 0 := by decide
  have em : (9223372036854775807 : Int64).toInt = 9223372036854775807 := by decide
  have k : ∀ w : Int64, w = 0 ↔ w.toInt = 0 := fun w => by rw [← Int64.toInt_inj, e0]
  rw [own_exp_eq]
  by_cases q1 : XT.ushrL x 32 = 0
  · rw [if_pos q1, own_com_spec _ _ _ _ ⟨a1, a2⟩ ⟨b1, b2⟩ ⟨a3, a4⟩ ⟨b3, b4⟩ (Or.inl ((k _).mp q1)), ← a5, ← b5]
  · rw [if_neg q1]
    by_cases q2 : XT.ushrL y 32 = 0
    · rw [if_pos q2, own_com_spec _ _ _ _ ⟨a1, a2⟩ ⟨b1, b2⟩ ⟨a3, a4⟩ ⟨b3, b4⟩ (Or.inr ((k _).mp q2)), ← a5, ← b5]
    · rw [if_neg q2, em]
      have n1 : ¬ (XT.ushrL x 32).toInt = 0 := fun w => q1 ((k _).mpr w)
      have n2 : ¬ (XT.ushrL y 32).toInt = 0 := fun w => q2 ((k _).mpr w)
      have : 4294967296 * 4294967296 ≤ x.toInt * y.toInt := Int.mul_le_mul (by omega) (by omega) (by decide) (by omega)
      rw [if_neg (by omega)]
theorem own_nn (c : Int64) (s : Int32) : 0 ≤ (XT.ushrL (c &&& (9223372036854775807 : Int64)) (s &&& (63 : Int32))).toInt := by
  have h := c_maskL c 9223372036854775807 63 (by decide) (by decide)
  have h2 := u64 (c &&& 9223372036854775807)
  generalize (c &&& (9223372036854775807 : Int64)) = a at *
  have h1 := n_lushr a (s &&& 63) _ rfl
  have h3 := i64 (XT.ushrL a (s &&& 63))
  rw [h1] at h3
  have : a.toBitVec.toNat / 2 ^ ((s &&& 63).toBitVec.toNat % 64) ≤ a.toBitVec.toNat := Nat.div_le_self _ _
  rw [if_pos (by omega)] at h3
  omega
theorem own_fin (a b : Int64) (ha : 0 ≤ a.toInt) (hb : 0 ≤ b.toInt) : f_times a b = f_expected a b := by
  rw [← Int64.toInt_inj, own_times a b ha hb, own_expected a b ha hb]
set_option maxRecDepth 65536 in
set_option maxHeartbeats 40000000 in
theorem rm_law (l : Launch) (Z : State) (a0 : Array Value) (hw : ∀ d ∈ tables_1, d.before a0 Z = true) (q0 : Int64) (q1 : Int64) (p2 : Int32) (p3 : Int32) (h0 : Heap) (n0 : Nat) (Z0 : n0 ≤ h0.size)  :
    Meets l x code maxLocals ret room_1 Z #[(.long q0), (.long q1), (.int p2), (.int p3)] h0 n0 (fun v h => v = some (Value.int 1)) := by
  refine meets_of (plainFor_of_name pn1) (Ls := #[.val (.long q0), .second, .val (.long q1), .second, .val (.int p2), .val (.int p3), .unset, .unset, .unset, .unset]) (fun m => by first | (simp [entryFrame, mkF, argsToLocals, Value.category, maxLocals]; done) | rfl) ?_
  intro p e s m below meth c K
  replace K : Kx Z "com/example/ferrule/ferrule/WeightTimesPinLaw" "law" code maxLocals ret p s m meth c := K
  obtain ⟨Q, hQ⟩ : ∃ Q : Option Value → Heap → Prop, Q = (fun v h => v = some (Value.int 1)) := ⟨_, rfl⟩
  rw [← hQ]
  refine g_lloadN K 0 at_0 rfl ?_
  refine g_ldc2_w K 1 (v := (9223372036854775807 : Int64)) at_1 (tw hw 0 rfl) ?_
  refine g_land K 4 at_4 ?_
  refine g_iload K 5 at_5 rfl ?_
  refine g_bipush K 7 (63 : Int32) at_7 (by decide) ?_
  refine g_iand K 9 at_9 ?_
  refine g_lushr K 10 at_10 ?_
  refine g_lstore K 11 #[.val (.long q0), .second, .val (.long q1), .second, .val (.int p2), .val (.int p3), .val (.long (XT.ushrL (q0 &&& (9223372036854775807 : Int64)) (p2 &&& (63 : Int32)))), .second, .unset, .unset] at_11 rfl ?_
  refine g_lloadN K 13 at_13 rfl ?_
  refine g_ldc2_w K 14 (v := (9223372036854775807 : Int64)) at_14 (tw hw 0 rfl) ?_
  refine g_land K 17 at_17 ?_
  refine g_iload K 18 at_18 rfl ?_
  refine g_bipush K 20 (63 : Int32) at_20 (by decide) ?_
  refine g_iand K 22 at_22 ?_
  refine g_lushr K 23 at_23 ?_
  refine g_lstore K 24 #[.val (.long q0), .second, .val (.long q1), .second, .val (.int p2), .val (.int p3), .val (.long (XT.ushrL (q0 &&& (9223372036854775807 : Int64)) (p2 &&& (63 : Int32)))), .second, .val (.long (XT.ushrL (q1 &&& (9223372036854775807 : Int64)) (p3 &&& (63 : Int32)))), .second] at_24 rfl ?_
  refine g_lload K 26 at_26 rfl ?_
  refine g_lload K 28 at_28 rfl ?_
  refine g_callS K 30 [(.long (XT.ushrL (q0 &&& (9223372036854775807 : Int64)) (p2 &&& (63 : Int32)))), (.long (XT.ushrL (q1 &&& (9223372036854775807 : Int64)) (p3 &&& (63 : Int32))))] 0 at_30 (rm_times l Z a0 hw (XT.ushrL (q0 &&& (9223372036854775807 : Int64)) (p2 &&& (63 : Int32))) (XT.ushrL (q1 &&& (9223372036854775807 : Int64)) (p3 &&& (63 : Int32))) h0 n0 Z0  ) (tw hw 1 rfl) (tw hw 2 rfl) (tw hw 3 rfl) (tw hw 4 rfl) (by decide) pd0 rfl (st := []) rfl (Nat.le_of_eq rfl) rfl (by decide) (by decide) (by decide) (by decide) ?_
  rintro _ _ ⟨hv, hh⟩
  rw [hv, hh]
  clear hv hh
  refine go_cast (k' := 0) (n' := 0) (st' := [(.long (f_times (XT.ushrL (q0 &&& (9223372036854775807 : Int64)) (p2 &&& (63 : Int32))) (XT.ushrL (q1 &&& (9223372036854775807 : Int64)) (p3 &&& (63 : Int32)))))]) rfl rfl rfl ?_
  refine g_lload K 33 at_33 rfl ?_
  refine g_lload K 35 at_35 rfl ?_
  refine g_callS K 37 [(.long (XT.ushrL (q0 &&& (9223372036854775807 : Int64)) (p2 &&& (63 : Int32)))), (.long (XT.ushrL (q1 &&& (9223372036854775807 : Int64)) (p3 &&& (63 : Int32))))] 2 at_37 (rm_expected l Z a0 hw (XT.ushrL (q0 &&& (9223372036854775807 : Int64)) (p2 &&& (63 : Int32))) (XT.ushrL (q1 &&& (9223372036854775807 : Int64)) (p3 &&& (63 : Int32))) h0 n0 Z0  ) (tw hw 5 rfl) (tw hw 6 rfl) (tw hw 7 rfl) (tw hw 8 rfl) (by decide) pd0 rfl (st := [(.long (f_times (XT.ushrL (q0 &&& (9223372036854775807 : Int64)) (p2 &&& (63 : Int32))) (XT.ushrL (q1 &&& (9223372036854775807 : Int64)) (p3 &&& (63 : Int32)))))]) rfl (Nat.le_of_eq rfl) rfl (by decide) (by decide) (by decide) (by decide) ?_
  rintro _ _ ⟨hv, hh⟩
  rw [hv, hh]
  clear hv hh
  refine go_cast (k' := 0) (n' := 0) (st' := [(.long (f_expected (XT.ushrL (q0 &&& (9223372036854775807 : Int64)) (p2 &&& (63 : Int32))) (XT.ushrL (q1 &&& (9223372036854775807 : Int64)) (p3 &&& (63 : Int32))))), (.long (f_times (XT.ushrL (q0 &&& (9223372036854775807 : Int64)) (p2 &&& (63 : Int32))) (XT.ushrL (q1 &&& (9223372036854775807 : Int64)) (p3 &&& (63 : Int32)))))]) rfl rfl rfl ?_
  refine g_lcmp K 40 at_40 ?_
  refine g_ll_ne K 41 48 at_41 (by decide) (by decide) ?_ ?_
  · intro c1
    exfalso
    exact c1 (own_fin _ _ (own_nn _ _) (own_nn _ _))
  · intro c1
    refine g_iconst K 44 (1 : Int32) at_44 (by decide) ?_
    refine g_goto K 45 49 at_45 (by decide) (by decide) ?_
    refine g_retN K 49 .boolean at_49 rfl (by simp) (by decide) (by decide) ?_
    rw [hQ]
    rfl
set_option maxRecDepth 65536 in
theorem comes_1 {Post : Tables → Env → Array Value → State → Outcome → State → Prop} (hpost : ∀ tb e args s v u, (limb_1_1.after args s (.returned v) u = true ∧ limb_1_2.after args s (.returned v) u = true ∧ True) → FrameEnd s (.returned v) u (Jvm.fieldLocs frame_1_writes args s ++ Jvm.arrayLocs frame_1_arrays args s ++ Jvm.staticLocs frame_1_statics s) 0 0 → Post tb e args s (.returned v) u) :
    ArmFor flags0 classFile x code maxLocals ret World_1 tables_1 room_1 Calls_1 rest_1 Pre_1 Post := by
  intro l hfl _ _ p e ha hc hk s m args below hf hA hF happ hP
  obtain ⟨hcalls, hrest, hpre⟩ := hP
  obtain ⟨-, -, -, hnamed, -, -, -, hat⟩ := (Spec.applies_iff hf).mp happ
  obtain ⟨hg, hn⟩ := and_e (Cond.before_iff.mp (show (Jvm.Cond.and given_1 narrow_1).before args s = true from hpre))
  obtain ⟨hcnt, hg0⟩ := and_e hg
  obtain ⟨w0, w1, w2, w3, rfl⟩ : ∃ w0 w1 w2 w3 : Value, args = #[w0, w1, w2, w3] := by
    have hs : args.size = 4 := by simpa [Cond.value, given_1] using hcnt
    obtain ⟨L⟩ := args
    match L, hs with
    | [w0, w1, w2, w3], _ => exact ⟨w0, w1, w2, w3, rfl⟩
  have hw := fun d (hd : d ∈ tables_1) => atoms_spec (ws := Jvm.Cond.code x code maxLocals ret :: tables_1) hat d (List.mem_cons_of_mem _ hd)
  obtain ⟨hq0, hg1⟩ := and_e hg0
  obtain ⟨i0, e0⟩ := isL_v hq0
  obtain rfl : w0 = (.long i0) := Option.some.inj e0
  obtain ⟨hq1, hg2⟩ := and_e hg1
  obtain ⟨i1, e1⟩ := isL_v hq1
  obtain rfl : w1 = (.long i1) := Option.some.inj e1
  obtain ⟨hq2, hg3⟩ := and_e hg2
  obtain ⟨i2, e2⟩ := is_v hq2
  obtain rfl : w2 = (.int i2) := Option.some.inj e2
  obtain ⟨i3, e3⟩ := is_v hg3
  obtain rfl : w3 = (.int i3) := Option.some.inj e3
  obtain ⟨n, o, h1, h2, h3, _, L, rfl, ⟨rfl, N⟩, hq⟩ := rm_law l s _ hw i0 i1 i2 i3 s.heap s.heap.size (Nat.le_refl _) tables_1 p e ha hc hk s m _ below hf ((Spec.applies_iff_loose hf).mp happ).1 ⟨rfl, State.Warmed39.refl s, rfl⟩ trivial
  refine ⟨n, _, h1, h2, h3, hpost _ _ _ _ _ _ ⟨Cond.after_iff.mpr rfl, Cond.after_iff.mpr (eq_i res_at (Term.int_eval (1)) rfl), trivial⟩ ⟨hq.1, hq.2.1, (hq.2.2.sift fun y hy => Or.inr (N y hy)).mono (by decide) (by decide)⟩⟩
theorem main_1_1 : Claimed_1_1 := comes_1 fun _ _ _ _ _ _ h hF => ⟨h.1, hF⟩
theorem main_1_2 : Claimed_1_2 := comes_1 fun _ _ _ _ _ _ h hF => ⟨h.2.1, hF⟩
end Jvm.Pilot.@@N@@
namespace Jvm.Pilot.@@N@@
open Jvm Jvm.ClassFile Sem Op Lib Jvm.Free Jvm.Stand Jvm.Pilot.@@N@@.Jvm.D
/-! MADE BY PROGRAM (witnessworld.py) out of the Statement's table words and the real class files: 10 classes; the members and pool entries that the words name. The judged class is class 1, her method 1. -/
namespace start1
open Jvm.ClassFile
def u (s : String) : CpInfo := .utf8 (stringToUtf16 s)
/-- a pool by its gaps: so many unusable entries, then the entry; so many at the end -/
def gap : Nat → List CpInfo → List CpInfo
  | 0, r => r
  | n + 1, r => .unusable :: gap n r
def poolList (es : List (Nat × CpInfo)) (last : Nat) : List CpInfo := es.foldr (fun e r => gap e.1 (e.2 :: r)) (gap last [])
def pool (es : List (Nat × CpInfo)) (last : Nat) : Array CpInfo := ⟨poolList es last⟩
def fileOf (pool : Array CpInfo) (this : Nat) (attrs : Array Attribute := #[]) (ms : Array MethodInfo := #[]) (fl : Nat := 33) (sup : Nat := 0) (ifs : Array Nat := #[]) (fds : Array FieldInfo := #[]) : ClassFile where
  minorVersion := 0
  majorVersion := 65
  constantPool := pool
  accessFlags := fl
  thisClass := this
  superClass := sup
  interfaces := ifs
  fields := fds
  methods := ms
  attributes := attrs
def plain (name : String) (sup : Option ClassId) : Class where
  name := name
  kind := .ordinary
  loader := none
  accessFlags := 33
  super := sup
  interfaces := #[]
  cf := none
  fields := #[]
  methods := #[]
  instanceTypes := #[]
  staticTypes := #[]
  resolved := #[]
  callSites := []
  init := .initialized
  statics := none
  mirror := none

def pool0 : Array CpInfo := pool [(5, u "<init>"), (0, u "()V"), (1, .class_ 10), (1, u "java/lang/Object")] 113

def k0m0 : Method := { name := "<init>", desc := "()V", sig := { parameters := [], returnType := none }, accessFlags := 1, code := none }
/-- java/lang/Object -/
def k0 : Class := { plain "java/lang/Object" none with
  accessFlags := 33
  interfaces := #[]
  cf := some (fileOf pool0 8 #[] #[{ accessFlags := 1, nameIndex := 5, descriptorIndex := 6, attributes := #[] }] 33 0 #[] #[])
  fields := #[]
  methods := #[k0m0]
  instanceTypes := #[]
  staticTypes := #[]
  resolved := Array.replicate 124 none
  statics := none }

def pool1 : Array CpInfo := pool [(2, .class_ 4), (1, u "java/lang/Object"), (0, u "<init>"), (0, u "()V"), (2, .long 9223372036854775807), (1, .methodref 12 13), (0, .class_ 14), (0, .nameAndType 15 16), (0, u "com/example/ferrule/ferrule/Weight"), (0, u "times"), (0, u "(JJ)J"), (0, .methodref 18 19), (0, .class_ 20), (0, .nameAndType 21 16), (0, u "com/example/ferrule/ferrule/WeightTimesPinLaw"), (0, u "expected"), (0, .long 4294967295), (1, .long 2147483648), (3, u "law"), (0, u "(JJII)Z")] 3

def k1m0 : Method := { name := "<init>", desc := "()V", sig := { parameters := [], returnType := none }, accessFlags := 1, code := none }
def k1c1 : Code := { maxStack := 6, maxLocals := 10, code := code, exceptionTable := #[], attributes := #[] }
def k1m1 : Method := { name := "law", desc := "(JJII)Z", sig := { parameters := [.long, .long, .int, .int], returnType := some .boolean }, accessFlags := 9, code := some k1c1 }
def k1c2 : Code := { maxStack := 6, maxLocals := 18, code := method_3_code, exceptionTable := #[], attributes := #[] }
def k1m2 : Method := { name := "expected", desc := "(JJ)J", sig := { parameters := [.long, .long], returnType := some .long }, accessFlags := 10, code := some k1c2 }
/-- com/example/ferrule/ferrule/WeightTimesPinLaw -/
def k1 : Class := { plain "com/example/ferrule/ferrule/WeightTimesPinLaw" (some 0) with
  accessFlags := 49
  interfaces := #[]
  cf := some (fileOf pool1 18 #[] #[{ accessFlags := 1, nameIndex := 5, descriptorIndex := 6, attributes := #[] }, { accessFlags := 9, nameIndex := 28, descriptorIndex := 29, attributes := #[] }, { accessFlags := 10, nameIndex := 21, descriptorIndex := 16, attributes := #[] }] 49 2 #[] #[])
  fields := #[]
  methods := #[k1m0, k1m1, k1m2]
  instanceTypes := #[]
  staticTypes := #[]
  resolved := Array.replicate 33 none
  statics := none }

def pool2 : Array CpInfo := pool [(2, .class_ 4), (1, u "java/lang/Object"), (0, u "<init>"), (0, u "()V"), (0, .class_ 8), (0, u "java/lang/Record")] 13

def k2m0 : Method := { name := "<init>", desc := "()V", sig := { parameters := [], returnType := none }, accessFlags := 4, code := none }
/-- java/lang/Record -/
def k2 : Class := { plain "java/lang/Record" (some 0) with
  accessFlags := 1057
  interfaces := #[]
  cf := some (fileOf pool2 7 #[] #[{ accessFlags := 4, nameIndex := 5, descriptorIndex := 6, attributes := #[] }] 1057 2 #[] #[])
  fields := #[]
  methods := #[k2m0]
  instanceTypes := #[]
  staticTypes := #[]
  resolved := Array.replicate 22 none
  statics := none }

def pool3 : Array CpInfo := pool [(2, .class_ 4), (1, u "java/lang/Record"), (3, .class_ 10), (1, u "com/example/ferrule/ferrule/Weight"), (0, u "hashing"), (0, u "J"), (2, u "comparing"), (8, u "ONE"), (0, u "Lcom/example/ferrule/ferrule/Weight;"), (9, .long 9223372036854775807), (15, u "ENDLESS"), (9, u "(JJ)J"), (0, u "times"), (6, .class_ 70), (0, u "com/example/ferrule/ferrule/Weight$Budget"), (0, .class_ 72), (0, u "com/example/ferrule/ferrule/Weight$Tally")] 21

def k3c0 : Code := { maxStack := 6, maxLocals := 4, code := prog_102_method_5_code, exceptionTable := #[], attributes := #[] }
def k3m0 : Method := { name := "times", desc := "(JJ)J", sig := { parameters := [.long, .long], returnType := some .long }, accessFlags := 8, code := some k3c0 }
/-- com/example/ferrule/ferrule/Weight -/
def k3 : Class := { plain "com/example/ferrule/ferrule/Weight" (some 2) with
  accessFlags := 48
  interfaces := #[]
  cf := some (fileOf pool3 8 #[.nestMembers #[69, 71]] #[{ accessFlags := 8, nameIndex := 62, descriptorIndex := 61, attributes := #[] }] 48 2 #[] #[{ accessFlags := 18, nameIndex := 11, descriptorIndex := 12, attributes := #[] }, { accessFlags := 18, nameIndex := 15, descriptorIndex := 12, attributes := #[] }, { accessFlags := 24, nameIndex := 24, descriptorIndex := 25, attributes := #[] }, { accessFlags := 24, nameIndex := 51, descriptorIndex := 25, attributes := #[] }])
  fields := #[{ name := "hashing", type := .long, accessFlags := 18, slot := 0, constantValue := 0 }, { name := "comparing", type := .long, accessFlags := 18, slot := 1, constantValue := 0 }, { name := "ONE", type := (.object "com/example/ferrule/ferrule/Weight"), accessFlags := 24, slot := 0, constantValue := 0 }, { name := "ENDLESS", type := (.object "com/example/ferrule/ferrule/Weight"), accessFlags := 24, slot := 1, constantValue := 0 }]
  methods := #[k3m0]
  instanceTypes := #[.long, .long]
  staticTypes := #[(.object "com/example/ferrule/ferrule/Weight"), (.object "com/example/ferrule/ferrule/Weight")]
  resolved := Array.replicate 94 none
  statics := none }

def pool4 : Array CpInfo := pool [(1, u "java/lang/Cloneable"), (0, .class_ 1), (0, u "java/lang/Object"), (0, .class_ 3)] 3

/-- java/lang/Cloneable -/
def k4 : Class := { plain "java/lang/Cloneable" (some 0) with
  accessFlags := 1537
  interfaces := #[]
  cf := some (fileOf pool4 2 #[] #[] 1537 4 #[] #[])
  fields := #[]
  methods := #[]
  instanceTypes := #[]
  staticTypes := #[]
  resolved := Array.replicate 8 none
  statics := none }

def pool5 : Array CpInfo := pool [(1, u "java/io/Serializable"), (0, .class_ 1), (0, u "java/lang/Object"), (0, .class_ 3)] 3

/-- java/io/Serializable -/
def k5 : Class := { plain "java/io/Serializable" (some 0) with
  accessFlags := 1537
  interfaces := #[]
  cf := some (fileOf pool5 2 #[] #[] 1537 4 #[] #[])
  fields := #[]
  methods := #[]
  instanceTypes := #[]
  staticTypes := #[]
  resolved := Array.replicate 8 none
  statics := none }

/-- the primitive byte -/
def k6 : Class := { plain "byte" none with kind := .primitive 'B', accessFlags := 0x411 }
/-- [B -/
def k7 : Class := { plain "[B" (some 0) with kind := .array 6 .byte, interfaces := #[4, 5], accessFlags := 1041 }

/-- the primitive int -/
def k8 : Class := { plain "int" none with kind := .primitive 'I', accessFlags := 0x411 }
/-- [I -/
def k9 : Class := { plain "[I" (some 0) with kind := .array 8 .int, interfaces := #[4, 5], accessFlags := 1041 }

def heap : Heap := #[]
def classes : Array Class := #[k0, k1, k2, k3, k4, k5, k6, k7, k8, k9]
def interned : List (Array UInt16 × Addr) := []
def slotsUsed : Nat := 0
def theMethod : MethodId := ⟨1, 1⟩
def args0 : Array Value := #[.long 300, .long 7, .int 3, .int 4]
def aboutOver (below : List Frame) : State where
  vm := { classes := classes, interned := interned.toArray }
  heap := heap
  slotsUsed := slotsUsed
  threads := #[{ frames := .invoking theMethod args0 :: below }]
def below0 : List Frame := [.native { method := ⟨0, 0⟩, args := #[] }]
def about1 : State := aboutOver below0
def p0 : Program := .bare "" "" ""
def e0 : Env := launch0.env 0 0 0
theorem w_frames : about1.frames = Frame.invoking theMethod args0 :: below0 := rfl
set_option maxRecDepth 65536 in
theorem w_args : argsFit about1.vm theMethod args0 = true := by decide +kernel
set_option maxRecDepth 65536 in
theorem w_heap : heapFits about1 = true := by decide +kernel
set_option maxRecDepth 65536 in
theorem w_runnable : about1.curStatus? = some .runnable := by decide +kernel
set_option maxRecDepth 65536 in
theorem w_alone : about1.alone = true := by decide +kernel
set_option maxRecDepth 65536 in
theorem w_named : about1.methodNamed? x = some theMethod := by decide +kernel
set_option maxRecDepth 65536 in
theorem w_hears : about1.hears theMethod below0 = true := by decide +kernel
set_option maxRecDepth 65536 in
theorem w_ripe : about1.ripe theMethod args0 below0 = true := by decide +kernel
theorem w_running : about1.status = .running := rfl
set_option maxRecDepth 65536 in
theorem w_room : about1.hasRoom e0.platform room_1 = true :=
  launch0.hasRoom_least _ room_1 (by decide +kernel) (by decide +kernel) (by decide +kernel) (by decide +kernel) (by decide +kernel) (by decide +kernel)
theorem allAtoms_all (ts : List Jvm.Cond) (a : Array Jvm.Value) (st : Jvm.State) : (allAtoms ts).before a st = ts.all (fun c => c.before a st) := by
  induction ts with
  | nil => rfl
  | cons c t ih =>
    show (Jvm.Cond.and c (allAtoms t)).before a st = _
    rw [Jvm.Cond.before_and, ih, List.all_cons]
def words1 : List Jvm.Cond := Jvm.Cond.code x code maxLocals ret :: tables_1
/-- a 'code' word, met by the world's own term for the bytes: nothing is compared byte by byte -/
theorem code_word {y : MethodName} {bytes : ByteArray} {mx : Nat} {rt : Option FieldType} {a : Array Value} {s : State} {m : MethodId} {meth : Method} {c : Code} (h1 : s.methodNamed? y = some m) (h2 : s.vm.method? m = some meth) (h3 : meth.code = some c) (h4 : c.code = bytes)
    (h5 : (c.maxLocals == mx && c.exceptionTable.isEmpty && decide (c.maxStack ≤ mostOperands) && decide (meth.sig.returnType = rt) && !meth.locks && decide (parseMethodDescriptor y.desc = some meth.sig)) = true) : (Jvm.Cond.code y bytes mx rt).before a s = true := by
  simp only [Bool.and_eq_true, beq_iff_eq, Bool.not_eq_true', decide_eq_true_eq] at h5
  obtain ⟨⟨⟨⟨⟨g1, g2⟩, g3⟩, g4⟩, g5⟩, g6⟩ := h5
  simp [Cond.before, Cond.holds, Cond.value, h1, h2, h3, h4, g1, g2, g3, g4, g5, g6]
def isCode : Jvm.Cond → Bool
  | .code _ _ _ _ => true
  | _ => false
theorem all_split {L : List Jvm.Cond} {P : Jvm.Cond → Bool} (h1 : L.all (fun c => isCode c || P c) = true) (h2 : ∀ c ∈ L.filter isCode, P c = true) : L.all P = true := by
  refine List.all_eq_true.mpr fun c hc => ?_
  have h := List.all_eq_true.mp h1 c hc
  rcases Bool.eq_false_or_eq_true (isCode c) with hi | hi
  · exact h2 c (List.mem_filter.mpr ⟨hc, hi⟩)
  · simpa [hi] using h
set_option maxRecDepth 65536 in
theorem w_c0 : (Jvm.Cond.code x code maxLocals ret).before args0 about1 = true := code_word (m := ⟨1, 1⟩) (meth := k1m1) (c := k1c1) (by decide +kernel) rfl rfl rfl (by decide +kernel)
set_option maxRecDepth 65536 in
theorem w_c1 : (Jvm.Cond.code ({ cls := "com/example/ferrule/ferrule/Weight", name := "times", desc := "(JJ)J" } : Jvm.MethodName) prog_102_method_5_code (4 : Nat) (Option.some Jvm.ClassFile.FieldType.long)).before args0 about1 = true := code_word (m := ⟨3, 0⟩) (meth := k3m0) (c := k3c0) (by decide +kernel) rfl rfl rfl (by decide +kernel)
set_option maxRecDepth 65536 in
theorem w_c2 : (Jvm.Cond.code ({ cls := "com/example/ferrule/ferrule/WeightTimesPinLaw", name := "expected", desc := "(JJ)J" } : Jvm.MethodName) method_3_code (18 : Nat) (Option.some Jvm.ClassFile.FieldType.long)).before args0 about1 = true := code_word (m := ⟨1, 2⟩) (meth := k1m2) (c := k1c2) (by decide +kernel) rfl rfl rfl (by decide +kernel)
def codes1 : List Jvm.Cond := [Jvm.Cond.code x code maxLocals ret, Jvm.Cond.code ({ cls := "com/example/ferrule/ferrule/Weight", name := "times", desc := "(JJ)J" } : Jvm.MethodName) prog_102_method_5_code (4 : Nat) (Option.some Jvm.ClassFile.FieldType.long), Jvm.Cond.code ({ cls := "com/example/ferrule/ferrule/WeightTimesPinLaw", name := "expected", desc := "(JJ)J" } : Jvm.MethodName) method_3_code (18 : Nat) (Option.some Jvm.ClassFile.FieldType.long)]
set_option maxRecDepth 65536 in
theorem codes_eq : words1.filter isCode = codes1 := rfl
theorem w_codes : ∀ c ∈ words1.filter isCode, c.before args0 about1 = true := by
  rw [codes_eq]
  intro c hc
  simp only [codes1, List.mem_cons, List.not_mem_nil, or_false] at hc
  rcases hc with rfl | rfl | rfl
  · exact w_c0
  · exact w_c1
  · exact w_c2
set_option maxRecDepth 65536 in
theorem w_t1 : words1.all (fun c => isCode c || c.before args0 about1) = true := by decide +kernel
theorem w_tables : (allAtoms (Jvm.Cond.code x code maxLocals ret :: tables_1)).before args0 about1 = true := by
  rw [allAtoms_all]
  show words1.all (fun c => c.before args0 about1) = true
  refine all_split ?_ w_codes
  rw [w_t1]
set_option maxRecDepth 65536 in
theorem w_case : (Jvm.Cond.and given_1 narrow_1).before args0 about1 = true := by decide +kernel
theorem w_applies : (headSpec (Jvm.Cond.code x code maxLocals ret :: tables_1) room_1).applies x e0.platform about1 = true :=
  (Spec.applies_iff w_frames).mpr ⟨w_running, w_runnable, w_alone, w_named, w_hears, w_ripe, w_room, w_tables⟩
theorem atStart : AtStart classFile x code maxLocals ret World_1 tables_1 room_1 Calls_1 rest_1 Pre_1 launch0 p0 e0 about1 theMethod args0 below0 :=
  ⟨lists_1, trivial, launch0.admits_env _ _ _, launch0.least_env, fairChoices_fair.cas, fairChoices_fair.clock, w_frames, w_args, w_heap, w_applies, trivial, trivial, w_case⟩
end start1
theorem witness_1 : WitnessClaimed_1 := ⟨start1.p0, start1.e0, start1.about1, start1.theMethod, start1.args0, start1.below0, start1.atStart⟩
end Jvm.Pilot.@@N@@
