import JvmDerived
import JvmDerived.Pilot.@@N@@Statement
import JvmDerived.Pilot.@@N@@Code
set_option linter.unusedVariables false
set_option linter.unusedSimpArgs false
namespace Jvm.OwnW
open Sem ClassFile Op Lib Jvm.Stand Jvm.Free Jvm.LawKit Jvm.RoadKit
/-- from the state S the walk over 'below' comes to an end of which P holds -/
def Goes (tb : Tables) (e : Env) (below : List Frame) (S : State) (P : State → Outcome → Prop) : Prop :=
  ∃ s₂ o, Steps tb e below S s₂ ∧ s₂.status = .running ∧ Ended s₂ below o ∧ P s₂ o
section Walk
variable {p : Program} {l : Launch} {e : Env} {R : Room} {s : State} {m : MethodId} {args : Array Value} {below : List Frame} {meth : Method} {c : Code} {T : State} {locs : List Loc} {cells slots : Nat} {P : State → Outcome → Prop} {pc : Nat} {Ls : Array Slot} {st : List Value} {Z : State} {a0 : Array Value} {h : Heap}
theorem Goes.of {tb : Tables} {S S' : State} (k : Goes tb e below S' P) (h : ∀ t, Steps tb e below S' t → Steps tb e below S t) : Goes tb e below S P := by
  obtain ⟨s₂, o, h1, h2⟩ := k
  exact ⟨s₂, o, h _ h1, h2⟩
theorem Goes.tr {tb : Tables} {S S' : State} (k : Goes tb e below S' P) (h : Steps tb e below S S') : Goes tb e below S P := by
  obtain ⟨s₂, o, h1, h2⟩ := k
  exact ⟨s₂, o, h.trans h1, h2⟩
theorem Goes.join {tb : Tables} {S S' : State} (h1 : Goes tb e below S' P → Goes tb e below S P) (h2 : Goes tb e below S' P) : Goes tb e below S P := h1 h2
theorem Goes.cast {tb : Tables} {g g' : JFrame} (q : g = g') (k : Goes tb e below (T.setTop g') P) : Goes tb e below (T.setTop g) P := q ▸ k
theorem g_nameI {x v : Int32} (q : v = x) (k : Goes p.tables e below (T.setTop (mkF m pc Ls (.int v :: st))) P) : Goes p.tables e below (T.setTop (mkF m pc Ls (.int x :: st))) P := q ▸ k
theorem g_nameL {x v : Int64} (q : v = x) (k : Goes p.tables e below (T.setTop (mkF m pc Ls (.long v :: st))) P) : Goes p.tables e below (T.setTop (mkF m pc Ls (.long x :: st))) P := q ▸ k
theorem g_iloadN (X : Stand p l e R s m args below meth c T locs cells slots) (hx : p.tables.exec = Jvm.exec) {k : Fin 4} {v : Int32} (hd : decode c.code pc = .ok (.iload_n k, 1)) (hl : Ls[k.val]? = some (.val (.int v))) (hr : Goes p.tables e below (T.setTop (mkF m (pc + 1) Ls (.int v :: st))) P) : Goes p.tables e below (T.setTop (mkF m pc Ls st)) P := hr.of fun _ k => XS.iloadN X.here hx rfl hd hl k
theorem g_iload (X : Stand p l e R s m args below meth c T locs cells slots) (hx : p.tables.exec = Jvm.exec) {k : Nat} {v : Int32} (hd : decode c.code pc = .ok (.iload k, 2)) (hl : Ls[k]? = some (.val (.int v))) (hr : Goes p.tables e below (T.setTop (mkF m (pc + 2) Ls (.int v :: st))) P) : Goes p.tables e below (T.setTop (mkF m pc Ls st)) P := hr.of fun _ k => XS.iload X.here hx rfl hd hl k
theorem g_lloadN (X : Stand p l e R s m args below meth c T locs cells slots) (hx : p.tables.exec = Jvm.exec) {k : Fin 4} {v : Int64} (hd : decode c.code pc = .ok (.lload_n k, 1)) (hl : Ls[k.val]? = some (.val (.long v))) (hr : Goes p.tables e below (T.setTop (mkF m (pc + 1) Ls (.long v :: st))) P) : Goes p.tables e below (T.setTop (mkF m pc Ls st)) P := hr.of fun _ k => XT.lloadN X.here hx rfl hd hl k
theorem g_lload (X : Stand p l e R s m args below meth c T locs cells slots) (hx : p.tables.exec = Jvm.exec) {k : Nat} {v : Int64} (hd : decode c.code pc = .ok (.lload k, 2)) (hl : Ls[k]? = some (.val (.long v))) (hr : Goes p.tables e below (T.setTop (mkF m (pc + 2) Ls (.long v :: st))) P) : Goes p.tables e below (T.setTop (mkF m pc Ls st)) P := hr.of fun _ k => XT.lload X.here hx rfl hd hl k
theorem g_aloadN (X : Stand p l e R s m args below meth c T locs cells slots) (hx : p.tables.exec = Jvm.exec) {k : Fin 4} {v : Value} (hd : decode c.code pc = .ok (.aload_n k, 1)) (hl : Ls[k.val]? = some (.val v)) (hv : v.isRef = true) (hr : Goes p.tables e below (T.setTop (mkF m (pc + 1) Ls (v :: st))) P) : Goes p.tables e below (T.setTop (mkF m pc Ls st)) P := hr.of fun _ k => XS.aloadN X.here hx rfl hd hl hv k
theorem g_aload (X : Stand p l e R s m args below meth c T locs cells slots) (hx : p.tables.exec = Jvm.exec) {k : Nat} {v : Value} (hd : decode c.code pc = .ok (.aload k, 2)) (hl : Ls[k]? = some (.val v)) (hv : v.isRef = true) (hr : Goes p.tables e below (T.setTop (mkF m (pc + 2) Ls (v :: st))) P) : Goes p.tables e below (T.setTop (mkF m pc Ls st)) P := hr.of fun _ k => XS.aload X.here hx rfl hd hl hv k
theorem g_istoreN (X : Stand p l e R s m args below meth c T locs cells slots) (hx : p.tables.exec = Jvm.exec) {k : Fin 4} {x : Int32} {l' : Array Slot} (hd : decode c.code pc = .ok (.istore_n k, 1)) (hl : storeLocals Ls k.val (.int x) = some l') (hr : Goes p.tables e below (T.setTop (mkF m (pc + 1) l' st)) P) : Goes p.tables e below (T.setTop (mkF m pc Ls (.int x :: st))) P := hr.of fun _ k => XS.istoreN X.here hx rfl hd rfl hl k
theorem g_istore (X : Stand p l e R s m args below meth c T locs cells slots) (hx : p.tables.exec = Jvm.exec) {k : Nat} {x : Int32} {l' : Array Slot} (hd : decode c.code pc = .ok (.istore k, 2)) (hl : storeLocals Ls k (.int x) = some l') (hr : Goes p.tables e below (T.setTop (mkF m (pc + 2) l' st)) P) : Goes p.tables e below (T.setTop (mkF m pc Ls (.int x :: st))) P := hr.of fun _ k => XS.istore X.here hx rfl hd rfl hl k
theorem g_lstoreN (X : Stand p l e R s m args below meth c T locs cells slots) (hx : p.tables.exec = Jvm.exec) {k : Fin 4} {x : Int64} {l' : Array Slot} (hd : decode c.code pc = .ok (.lstore_n k, 1)) (hl : storeLocals Ls k.val (.long x) = some l') (hr : Goes p.tables e below (T.setTop (mkF m (pc + 1) l' st)) P) : Goes p.tables e below (T.setTop (mkF m pc Ls (.long x :: st))) P := hr.of fun _ k => XT.lstoreN X.here hx rfl hd rfl hl k
theorem g_lstore (X : Stand p l e R s m args below meth c T locs cells slots) (hx : p.tables.exec = Jvm.exec) {k : Nat} {x : Int64} {l' : Array Slot} (hd : decode c.code pc = .ok (.lstore k, 2)) (hl : storeLocals Ls k (.long x) = some l') (hr : Goes p.tables e below (T.setTop (mkF m (pc + 2) l' st)) P) : Goes p.tables e below (T.setTop (mkF m pc Ls (.long x :: st))) P := hr.of fun _ k => XT.lstore X.here hx rfl hd rfl hl k
theorem g_astoreN (X : Stand p l e R s m args below meth c T locs cells slots) (hx : p.tables.exec = Jvm.exec) {k : Fin 4} {x : Value} {l' : Array Slot} (hd : decode c.code pc = .ok (.astore_n k, 1)) (hv : x.isRef = true) (hl : storeLocals Ls k.val x = some l') (hr : Goes p.tables e below (T.setTop (mkF m (pc + 1) l' st)) P) : Goes p.tables e below (T.setTop (mkF m pc Ls (x :: st))) P := hr.of fun _ k => XS.astoreN X.here hx rfl hd rfl hv hl k
theorem g_astore (X : Stand p l e R s m args below meth c T locs cells slots) (hx : p.tables.exec = Jvm.exec) {k : Nat} {x : Value} {l' : Array Slot} (hd : decode c.code pc = .ok (.astore k, 2)) (hv : x.isRef = true) (hl : storeLocals Ls k x = some l') (hr : Goes p.tables e below (T.setTop (mkF m (pc + 2) l' st)) P) : Goes p.tables e below (T.setTop (mkF m pc Ls (x :: st))) P := hr.of fun _ k => XS.astore X.here hx rfl hd rfl hv hl k
theorem g_istoreS (X : Stand p l e R s m args below meth c T locs cells slots) (hx : p.tables.exec = Jvm.exec) {k : Nat} {x : Int32} {o : Slot} (hd : decode c.code pc = .ok (.istore k, 2)) (hold : Ls[k]? = some o) (ho : One o) (hr : Goes p.tables e below (T.setTop (mkF m (pc + 2) (Ls.setIfInBounds k (.val (.int x))) st)) P) : Goes p.tables e below (T.setTop (mkF m pc Ls (.int x :: st))) P := hr.of fun _ k => XS.istoreS X.here hx rfl hd rfl hold ho k
theorem g_istoreNS (X : Stand p l e R s m args below meth c T locs cells slots) (hx : p.tables.exec = Jvm.exec) {k : Fin 4} {x : Int32} {o : Slot} (hd : decode c.code pc = .ok (.istore_n k, 1)) (hold : Ls[k.val]? = some o) (ho : One o) (hr : Goes p.tables e below (T.setTop (mkF m (pc + 1) (Ls.setIfInBounds k.val (.val (.int x))) st)) P) : Goes p.tables e below (T.setTop (mkF m pc Ls (.int x :: st))) P := hr.of fun _ k => XS.istoreNS X.here hx rfl hd rfl hold ho k
theorem g_iconst (X : Stand p l e R s m args below meth c T locs cells slots) (hx : p.tables.exec = Jvm.exec) {i : Int} (v : Int32) (hd : decode c.code pc = .ok (.iconst i, 1)) (hv : Int32.ofInt i = v) (hr : Goes p.tables e below (T.setTop (mkF m (pc + 1) Ls (.int v :: st))) P) : Goes p.tables e below (T.setTop (mkF m pc Ls st)) P := hr.of fun _ k => XT.iconstV X.here hx rfl v hd hv k
theorem g_bipush (X : Stand p l e R s m args below meth c T locs cells slots) (hx : p.tables.exec = Jvm.exec) {i : Int} (v : Int32) (hd : decode c.code pc = .ok (.bipush i, 2)) (hv : (Int8.ofInt i).toInt32 = v) (hr : Goes p.tables e below (T.setTop (mkF m (pc + 2) Ls (.int v :: st))) P) : Goes p.tables e below (T.setTop (mkF m pc Ls st)) P := hr.of fun _ k => XT.bipushV X.here hx rfl v hd hv k
theorem g_sipush (X : Stand p l e R s m args below meth c T locs cells slots) (hx : p.tables.exec = Jvm.exec) {i : Int} (v : Int32) (hd : decode c.code pc = .ok (.sipush i, 3)) (hv : (Int16.ofInt i).toInt32 = v) (hr : Goes p.tables e below (T.setTop (mkF m (pc + 3) Ls (.int v :: st))) P) : Goes p.tables e below (T.setTop (mkF m pc Ls st)) P := hr.of fun _ k => XT.sipushV X.here hx rfl v hd hv k
theorem g_lconst (X : Stand p l e R s m args below meth c T locs cells slots) (hx : p.tables.exec = Jvm.exec) {i : Fin 2} (v : Int64) (hd : decode c.code pc = .ok (.lconst i, 1)) (hv : Int64.ofNat i = v) (hr : Goes p.tables e below (T.setTop (mkF m (pc + 1) Ls (.long v :: st))) P) : Goes p.tables e below (T.setTop (mkF m pc Ls st)) P := hr.of fun _ k => XT.lconstV X.here hx rfl v hd hv k
theorem g_null (X : Stand p l e R s m args below meth c T locs cells slots) (hx : p.tables.exec = Jvm.exec)  (hd : decode c.code pc = .ok (.aconst_null, 1)) (hr : Goes p.tables e below (T.setTop (mkF m (pc + 1) Ls (.null :: st))) P) : Goes p.tables e below (T.setTop (mkF m pc Ls st)) P := hr.of fun _ k => XS.aconstNull X.here hx rfl hd k
theorem g_ldc (X : Stand p l e R s m args below meth c T locs cells slots) (hx : p.tables.exec = Jvm.exec) {own : String} {index : Nat} {v : Int32} (hZ : Z.Warmed39 s.vm) (hown : s.vm.findClass own = some m.cls) (wk : (Jvm.Cond.constant own index v).before a0 Z = true) (hd : decode c.code pc = .ok (.ldc index, 2)) (hr : Goes p.tables e below (T.setTop (mkF m (pc + 2) Ls (.int v :: st))) P) : Goes p.tables e below (T.setTop (mkF m pc Ls st)) P := hr.of fun _ k => X.ldcI hx hown (mvT hZ wk) rfl hd k
theorem g_ldcw (X : Stand p l e R s m args below meth c T locs cells slots) (hx : p.tables.exec = Jvm.exec) {own : String} {index : Nat} {v : Int32} (hZ : Z.Warmed39 s.vm) (hown : s.vm.findClass own = some m.cls) (wk : (Jvm.Cond.constant own index v).before a0 Z = true) (hd : decode c.code pc = .ok (.ldc_w index, 3)) (hr : Goes p.tables e below (T.setTop (mkF m (pc + 3) Ls (.int v :: st))) P) : Goes p.tables e below (T.setTop (mkF m pc Ls st)) P := hr.of fun _ k => X.ldcWI hx hown (mvT hZ wk) rfl hd k
theorem g_ldc2 (X : Stand p l e R s m args below meth c T locs cells slots) (hx : p.tables.exec = Jvm.exec) {own : String} {index : Nat} {v : Int64} (hZ : Z.Warmed39 s.vm) (hown : s.vm.findClass own = some m.cls) (wk : (Jvm.Cond.constantLong own index v).before a0 Z = true) (hd : decode c.code pc = .ok (.ldc2_w index, 3)) (hr : Goes p.tables e below (T.setTop (mkF m (pc + 3) Ls (.long v :: st))) P) : Goes p.tables e below (T.setTop (mkF m pc Ls st)) P := hr.of fun _ k => X.ldc2J hx hown (mvT hZ wk) rfl hd k
theorem g_iadd (X : Stand p l e R s m args below meth c T locs cells slots) (hx : p.tables.exec = Jvm.exec) {x y : Int32} (hd : decode c.code pc = .ok (.iadd, 1)) (hr : Goes p.tables e below (T.setTop (mkF m (pc + 1) Ls (.int (x + y) :: st))) P) : Goes p.tables e below (T.setTop (mkF m pc Ls (.int y :: .int x :: st))) P := hr.of fun _ k => XS.iadd X.here hx rfl hd rfl k
theorem g_isub (X : Stand p l e R s m args below meth c T locs cells slots) (hx : p.tables.exec = Jvm.exec) {x y : Int32} (hd : decode c.code pc = .ok (.isub, 1)) (hr : Goes p.tables e below (T.setTop (mkF m (pc + 1) Ls (.int (x - y) :: st))) P) : Goes p.tables e below (T.setTop (mkF m pc Ls (.int y :: .int x :: st))) P := hr.of fun _ k => XS.isub X.here hx rfl hd rfl k
theorem g_imul (X : Stand p l e R s m args below meth c T locs cells slots) (hx : p.tables.exec = Jvm.exec) {x y : Int32} (hd : decode c.code pc = .ok (.imul, 1)) (hr : Goes p.tables e below (T.setTop (mkF m (pc + 1) Ls (.int (x * y) :: st))) P) : Goes p.tables e below (T.setTop (mkF m pc Ls (.int y :: .int x :: st))) P := hr.of fun _ k => XS.imul X.here hx rfl hd rfl k
theorem g_iand (X : Stand p l e R s m args below meth c T locs cells slots) (hx : p.tables.exec = Jvm.exec) {x y : Int32} (hd : decode c.code pc = .ok (.iand, 1)) (hr : Goes p.tables e below (T.setTop (mkF m (pc + 1) Ls (.int (x &&& y) :: st))) P) : Goes p.tables e below (T.setTop (mkF m pc Ls (.int y :: .int x :: st))) P := hr.of fun _ k => XS.iand X.here hx rfl hd rfl k
theorem g_ior (X : Stand p l e R s m args below meth c T locs cells slots) (hx : p.tables.exec = Jvm.exec) {x y : Int32} (hd : decode c.code pc = .ok (.ior, 1)) (hr : Goes p.tables e below (T.setTop (mkF m (pc + 1) Ls (.int (x ||| y) :: st))) P) : Goes p.tables e below (T.setTop (mkF m pc Ls (.int y :: .int x :: st))) P := hr.of fun _ k => XT.ior X.here hx rfl hd rfl k
theorem g_ixor (X : Stand p l e R s m args below meth c T locs cells slots) (hx : p.tables.exec = Jvm.exec) {x y : Int32} (hd : decode c.code pc = .ok (.ixor, 1)) (hr : Goes p.tables e below (T.setTop (mkF m (pc + 1) Ls (.int (x ^^^ y) :: st))) P) : Goes p.tables e below (T.setTop (mkF m pc Ls (.int y :: .int x :: st))) P := hr.of fun _ k => XT.ixor X.here hx rfl hd rfl k
theorem g_ishl (X : Stand p l e R s m args below meth c T locs cells slots) (hx : p.tables.exec = Jvm.exec) {x y : Int32} (hd : decode c.code pc = .ok (.ishl, 1)) (hr : Goes p.tables e below (T.setTop (mkF m (pc + 1) Ls (.int (x <<< (y &&& 31)) :: st))) P) : Goes p.tables e below (T.setTop (mkF m pc Ls (.int y :: .int x :: st))) P := hr.of fun _ k => XT.ishl X.here hx rfl hd rfl k
theorem g_ishr (X : Stand p l e R s m args below meth c T locs cells slots) (hx : p.tables.exec = Jvm.exec) {x y : Int32} (hd : decode c.code pc = .ok (.ishr, 1)) (hr : Goes p.tables e below (T.setTop (mkF m (pc + 1) Ls (.int (x >>> (y &&& 31)) :: st))) P) : Goes p.tables e below (T.setTop (mkF m pc Ls (.int y :: .int x :: st))) P := hr.of fun _ k => XT.ishr X.here hx rfl hd rfl k
theorem g_iushr (X : Stand p l e R s m args below meth c T locs cells slots) (hx : p.tables.exec = Jvm.exec) {x y : Int32} (hd : decode c.code pc = .ok (.iushr, 1)) (hr : Goes p.tables e below (T.setTop (mkF m (pc + 1) Ls (.int (XT.ushr x y) :: st))) P) : Goes p.tables e below (T.setTop (mkF m pc Ls (.int y :: .int x :: st))) P := hr.of fun _ k => XT.iushr X.here hx rfl hd rfl k
theorem g_ladd (X : Stand p l e R s m args below meth c T locs cells slots) (hx : p.tables.exec = Jvm.exec) {x y : Int64} (hd : decode c.code pc = .ok (.ladd, 1)) (hr : Goes p.tables e below (T.setTop (mkF m (pc + 1) Ls (.long (x + y) :: st))) P) : Goes p.tables e below (T.setTop (mkF m pc Ls (.long y :: .long x :: st))) P := hr.of fun _ k => XT.ladd X.here hx rfl hd rfl k
theorem g_lsub (X : Stand p l e R s m args below meth c T locs cells slots) (hx : p.tables.exec = Jvm.exec) {x y : Int64} (hd : decode c.code pc = .ok (.lsub, 1)) (hr : Goes p.tables e below (T.setTop (mkF m (pc + 1) Ls (.long (x - y) :: st))) P) : Goes p.tables e below (T.setTop (mkF m pc Ls (.long y :: .long x :: st))) P := hr.of fun _ k => XT.lsub X.here hx rfl hd rfl k
theorem g_lmul (X : Stand p l e R s m args below meth c T locs cells slots) (hx : p.tables.exec = Jvm.exec) {x y : Int64} (hd : decode c.code pc = .ok (.lmul, 1)) (hr : Goes p.tables e below (T.setTop (mkF m (pc + 1) Ls (.long (x * y) :: st))) P) : Goes p.tables e below (T.setTop (mkF m pc Ls (.long y :: .long x :: st))) P := hr.of fun _ k => XT.lmul X.here hx rfl hd rfl k
theorem g_land (X : Stand p l e R s m args below meth c T locs cells slots) (hx : p.tables.exec = Jvm.exec) {x y : Int64} (hd : decode c.code pc = .ok (.land, 1)) (hr : Goes p.tables e below (T.setTop (mkF m (pc + 1) Ls (.long (x &&& y) :: st))) P) : Goes p.tables e below (T.setTop (mkF m pc Ls (.long y :: .long x :: st))) P := hr.of fun _ k => XT.land X.here hx rfl hd rfl k
theorem g_lor (X : Stand p l e R s m args below meth c T locs cells slots) (hx : p.tables.exec = Jvm.exec) {x y : Int64} (hd : decode c.code pc = .ok (.lor, 1)) (hr : Goes p.tables e below (T.setTop (mkF m (pc + 1) Ls (.long (x ||| y) :: st))) P) : Goes p.tables e below (T.setTop (mkF m pc Ls (.long y :: .long x :: st))) P := hr.of fun _ k => XT.lor X.here hx rfl hd rfl k
theorem g_lxor (X : Stand p l e R s m args below meth c T locs cells slots) (hx : p.tables.exec = Jvm.exec) {x y : Int64} (hd : decode c.code pc = .ok (.lxor, 1)) (hr : Goes p.tables e below (T.setTop (mkF m (pc + 1) Ls (.long (x ^^^ y) :: st))) P) : Goes p.tables e below (T.setTop (mkF m pc Ls (.long y :: .long x :: st))) P := hr.of fun _ k => XT.lxor X.here hx rfl hd rfl k
theorem g_lshl (X : Stand p l e R s m args below meth c T locs cells slots) (hx : p.tables.exec = Jvm.exec) {x : Int64} {y : Int32} (hd : decode c.code pc = .ok (.lshl, 1)) (hr : Goes p.tables e below (T.setTop (mkF m (pc + 1) Ls (.long (x <<< (y.toInt64 &&& 63)) :: st))) P) : Goes p.tables e below (T.setTop (mkF m pc Ls (.int y :: .long x :: st))) P := hr.of fun _ k => XT.lshl X.here hx rfl hd rfl k
theorem g_lshr (X : Stand p l e R s m args below meth c T locs cells slots) (hx : p.tables.exec = Jvm.exec) {x : Int64} {y : Int32} (hd : decode c.code pc = .ok (.lshr, 1)) (hr : Goes p.tables e below (T.setTop (mkF m (pc + 1) Ls (.long (x >>> (y.toInt64 &&& 63)) :: st))) P) : Goes p.tables e below (T.setTop (mkF m pc Ls (.int y :: .long x :: st))) P := hr.of fun _ k => XT.lshr X.here hx rfl hd rfl k
theorem g_lushr (X : Stand p l e R s m args below meth c T locs cells slots) (hx : p.tables.exec = Jvm.exec) {x : Int64} {y : Int32} (hd : decode c.code pc = .ok (.lushr, 1)) (hr : Goes p.tables e below (T.setTop (mkF m (pc + 1) Ls (.long (XT.ushrL x y) :: st))) P) : Goes p.tables e below (T.setTop (mkF m pc Ls (.int y :: .long x :: st))) P := hr.of fun _ k => XT.lushr X.here hx rfl hd rfl k
theorem g_idiv (X : Stand p l e R s m args below meth c T locs cells slots) (hx : p.tables.exec = Jvm.exec) {x y : Int32} (hd : decode c.code pc = .ok (.idiv, 1)) (hy : y ≠ 0) (hr : Goes p.tables e below (T.setTop (mkF m (pc + 1) Ls (.int (x / y) :: st))) P) : Goes p.tables e below (T.setTop (mkF m pc Ls (.int y :: .int x :: st))) P := hr.of fun _ k => XS.idiv X.here hx rfl hd rfl hy k
theorem g_irem (X : Stand p l e R s m args below meth c T locs cells slots) (hx : p.tables.exec = Jvm.exec) {x y : Int32} (hd : decode c.code pc = .ok (.irem, 1)) (hy : y ≠ 0) (hr : Goes p.tables e below (T.setTop (mkF m (pc + 1) Ls (.int (x % y) :: st))) P) : Goes p.tables e below (T.setTop (mkF m pc Ls (.int y :: .int x :: st))) P := hr.of fun _ k => iremM X hx rfl hd rfl hy k
theorem g_ldiv (X : Stand p l e R s m args below meth c T locs cells slots) (hx : p.tables.exec = Jvm.exec) {x y : Int64} (hd : decode c.code pc = .ok (.ldiv, 1)) (hy : y ≠ 0) (hr : Goes p.tables e below (T.setTop (mkF m (pc + 1) Ls (.long (x / y) :: st))) P) : Goes p.tables e below (T.setTop (mkF m pc Ls (.long y :: .long x :: st))) P := hr.of fun _ k => XT.ldiv X.here hx rfl hd rfl hy k
theorem g_lrem (X : Stand p l e R s m args below meth c T locs cells slots) (hx : p.tables.exec = Jvm.exec) {x y : Int64} (hd : decode c.code pc = .ok (.lrem, 1)) (hy : y ≠ 0) (hr : Goes p.tables e below (T.setTop (mkF m (pc + 1) Ls (.long (x % y) :: st))) P) : Goes p.tables e below (T.setTop (mkF m pc Ls (.long y :: .long x :: st))) P := hr.of fun _ k => XT.lrem X.here hx rfl hd rfl hy (by rw [lrem_mod]; exact k)
theorem g_ineg (X : Stand p l e R s m args below meth c T locs cells slots) (hx : p.tables.exec = Jvm.exec) {x : Int32} (hd : decode c.code pc = .ok (.ineg, 1)) (hr : Goes p.tables e below (T.setTop (mkF m (pc + 1) Ls (.int (-x) :: st))) P) : Goes p.tables e below (T.setTop (mkF m pc Ls (.int x :: st))) P := hr.of fun _ k => XS.ineg X.here hx rfl hd rfl k
theorem g_lneg (X : Stand p l e R s m args below meth c T locs cells slots) (hx : p.tables.exec = Jvm.exec) {x : Int64} (hd : decode c.code pc = .ok (.lneg, 1)) (hr : Goes p.tables e below (T.setTop (mkF m (pc + 1) Ls (.long (-x) :: st))) P) : Goes p.tables e below (T.setTop (mkF m pc Ls (.long x :: st))) P := hr.of fun _ k => XT.lneg X.here hx rfl hd rfl k
theorem g_i2l (X : Stand p l e R s m args below meth c T locs cells slots) (hx : p.tables.exec = Jvm.exec) {x : Int32} (hd : decode c.code pc = .ok (.i2l, 1)) (hr : Goes p.tables e below (T.setTop (mkF m (pc + 1) Ls (.long (x.toInt64) :: st))) P) : Goes p.tables e below (T.setTop (mkF m pc Ls (.int x :: st))) P := hr.of fun _ k => XT.i2l X.here hx rfl hd rfl k
theorem g_l2i (X : Stand p l e R s m args below meth c T locs cells slots) (hx : p.tables.exec = Jvm.exec) {x : Int64} (hd : decode c.code pc = .ok (.l2i, 1)) (hr : Goes p.tables e below (T.setTop (mkF m (pc + 1) Ls (.int (x.toInt32) :: st))) P) : Goes p.tables e below (T.setTop (mkF m pc Ls (.long x :: st))) P := hr.of fun _ k => XT.l2i X.here hx rfl hd rfl k
theorem g_i2b (X : Stand p l e R s m args below meth c T locs cells slots) (hx : p.tables.exec = Jvm.exec) {x : Int32} (hd : decode c.code pc = .ok (.i2b, 1)) (hr : Goes p.tables e below (T.setTop (mkF m (pc + 1) Ls (.int (x.toInt8.toInt32) :: st))) P) : Goes p.tables e below (T.setTop (mkF m pc Ls (.int x :: st))) P := hr.of fun _ k => XT.i2b X.here hx rfl hd rfl k
theorem g_i2c (X : Stand p l e R s m args below meth c T locs cells slots) (hx : p.tables.exec = Jvm.exec) {x : Int32} (hd : decode c.code pc = .ok (.i2c, 1)) (hr : Goes p.tables e below (T.setTop (mkF m (pc + 1) Ls (.int (x.toUInt32.toUInt16.toUInt32.toInt32) :: st))) P) : Goes p.tables e below (T.setTop (mkF m pc Ls (.int x :: st))) P := hr.of fun _ k => XT.i2c X.here hx rfl hd rfl k
theorem g_i2s (X : Stand p l e R s m args below meth c T locs cells slots) (hx : p.tables.exec = Jvm.exec) {x : Int32} (hd : decode c.code pc = .ok (.i2s, 1)) (hr : Goes p.tables e below (T.setTop (mkF m (pc + 1) Ls (.int (x.toInt16.toInt32) :: st))) P) : Goes p.tables e below (T.setTop (mkF m pc Ls (.int x :: st))) P := hr.of fun _ k => XT.i2s X.here hx rfl hd rfl k
theorem g_lcmp (X : Stand p l e R s m args below meth c T locs cells slots) (hx : p.tables.exec = Jvm.exec) {x y : Int64} (hd : decode c.code pc = .ok (.lcmp, 1)) (hr : Goes p.tables e below (T.setTop (mkF m (pc + 1) Ls (.int (XT.cmpL x y) :: st))) P) : Goes p.tables e below (T.setTop (mkF m pc Ls (.long y :: .long x :: st))) P := hr.of fun _ k => XT.lcmp X.here hx rfl hd rfl k
theorem g_dup (X : Stand p l e R s m args below meth c T locs cells slots) (hx : p.tables.exec = Jvm.exec) {x : Value} (hd : decode c.code pc = .ok (.dup, 1)) (hc : x.category = 1) (hr : Goes p.tables e below (T.setTop (mkF m (pc + 1) Ls (x :: x :: st))) P) : Goes p.tables e below (T.setTop (mkF m pc Ls (x :: st))) P := hr.of fun _ k => XS.dup X.here hx rfl hd rfl hc k
theorem g_pop (X : Stand p l e R s m args below meth c T locs cells slots) (hx : p.tables.exec = Jvm.exec) {x : Value} (hd : decode c.code pc = .ok (.pop, 1)) (hc : x.category = 1) (hr : Goes p.tables e below (T.setTop (mkF m (pc + 1) Ls st)) P) : Goes p.tables e below (T.setTop (mkF m pc Ls (x :: st))) P := hr.of fun _ k => XT.pop X.here hx rfl hd rfl hc k
theorem g_dupX1 (X : Stand p l e R s m args below meth c T locs cells slots) (hx : p.tables.exec = Jvm.exec) {x y : Value} (hd : decode c.code pc = .ok (.dup_x1, 1)) (hc : x.category = 1) (hc' : y.category = 1) (hr : Goes p.tables e below (T.setTop (mkF m (pc + 1) Ls (x :: y :: x :: st))) P) : Goes p.tables e below (T.setTop (mkF m pc Ls (x :: y :: st))) P := hr.of fun _ k => XT.dupX1 X.here hx rfl hd rfl hc hc' k
theorem g_dup2 (X : Stand p l e R s m args below meth c T locs cells slots) (hx : p.tables.exec = Jvm.exec) {x y : Value} (hd : decode c.code pc = .ok (.dup2, 1)) (hc : x.category = 1) (hc' : y.category = 1) (hr : Goes p.tables e below (T.setTop (mkF m (pc + 1) Ls (x :: y :: x :: y :: st))) P) : Goes p.tables e below (T.setTop (mkF m pc Ls (x :: y :: st))) P := hr.of fun _ k => XT.dup2 X.here hx rfl hd rfl hc hc' k
theorem g_dup2L (X : Stand p l e R s m args below meth c T locs cells slots) (hx : p.tables.exec = Jvm.exec) {x : Int64} (hd : decode c.code pc = .ok (.dup2, 1)) (hr : Goes p.tables e below (T.setTop (mkF m (pc + 1) Ls (.long x :: .long x :: st))) P) : Goes p.tables e below (T.setTop (mkF m pc Ls (.long x :: st))) P := hr.of fun _ k => XT.dup2L X.here hx rfl hd rfl k
theorem g_iinc (X : Stand p l e R s m args below meth c T locs cells slots) (hx : p.tables.exec = Jvm.exec) {k : Nat} {cst : Int} {x : Int32} {l' : Array Slot} (v : Int32) (hd : decode c.code pc = .ok (.iinc k cst, 3)) (hv : Int32.ofInt cst = v) (hl : Ls[k]? = some (.val (.int x))) (hl' : storeLocals Ls k (.int (x + v)) = some l') (hr : Goes p.tables e below (T.setTop (mkF m (pc + 3) l' st)) P) : Goes p.tables e below (T.setTop (mkF m pc Ls st)) P := hr.of fun _ k => XT.iincV X.here hx rfl v hd hv hl hl' k
theorem g_goto (X : Stand p l e R s m args below meth c T locs cells slots) (hx : p.tables.exec = Jvm.exec) {o : Int} {pc' : Nat} (hd : decode c.code pc = .ok (.goto o, 3)) (ho : 0 ≤ (pc : Int) + o) (hp : ((pc : Int) + o).toNat = pc') (hr : Goes p.tables e below (T.setTop (mkF m pc' Ls st)) P) : Goes p.tables e below (T.setTop (mkF m pc Ls st)) P := hr.of fun _ k => XS.goto X.here hx rfl rfl hd ho hp k
theorem g_icmp_eq (X : Stand p l e R s m args below meth c T locs cells slots) (hx : p.tables.exec = Jvm.exec) {x y : Int32} {o : Int} {pc' : Nat} (hd : decode c.code pc = .ok (.if_icmp .eq o, 3)) (ho : 0 ≤ (pc : Int) + o) (hp : ((pc : Int) + o).toNat = pc') (hT : (x = y) → Goes p.tables e below (T.setTop (mkF m pc' Ls st)) P) (hF : (¬ x = y) → Goes p.tables e below (T.setTop (mkF m (pc + 3) Ls st)) P) : Goes p.tables e below (T.setTop (mkF m pc Ls (.int y :: .int x :: st))) P := by
  by_cases q : x = y
  · exact (hT q).of fun _ k => XS.icmpYes X.here hx rfl rfl hd rfl (XT.ii_eq_t q) ho hp k
  · exact (hF q).of fun _ k => XS.icmpNo X.here hx rfl hd rfl (XT.ii_eq_f q) k
theorem g_if_eq (X : Stand p l e R s m args below meth c T locs cells slots) (hx : p.tables.exec = Jvm.exec) {x : Int32} {o : Int} {pc' : Nat} (hd : decode c.code pc = .ok (.ifCond .eq o, 3)) (ho : 0 ≤ (pc : Int) + o) (hp : ((pc : Int) + o).toNat = pc') (hT : (x = 0) → Goes p.tables e below (T.setTop (mkF m pc' Ls st)) P) (hF : (¬ x = 0) → Goes p.tables e below (T.setTop (mkF m (pc + 3) Ls st)) P) : Goes p.tables e below (T.setTop (mkF m pc Ls (.int x :: st))) P := by
  by_cases q : x = 0
  · exact (hT q).of fun _ k => XS.ifYes X.here hx rfl rfl hd rfl (XT.i0_eq_t q) ho hp k
  · exact (hF q).of fun _ k => XS.ifNo X.here hx rfl hd rfl (XT.i0_eq_f q) k
theorem g_lif_eq (X : Stand p l e R s m args below meth c T locs cells slots) (hx : p.tables.exec = Jvm.exec) {x y : Int64} {o : Int} {pc' : Nat} (hd : decode c.code pc = .ok (.ifCond .eq o, 3)) (ho : 0 ≤ (pc : Int) + o) (hp : ((pc : Int) + o).toNat = pc') (hT : (x = y) → Goes p.tables e below (T.setTop (mkF m pc' Ls st)) P) (hF : (¬ x = y) → Goes p.tables e below (T.setTop (mkF m (pc + 3) Ls st)) P) : Goes p.tables e below (T.setTop (mkF m pc Ls (.int (XT.cmpL x y) :: st))) P := by
  by_cases q : x = y
  · exact (hT q).of fun _ k => XS.ifYes X.here hx rfl rfl hd rfl (XT.ll_eq_t q) ho hp k
  · exact (hF q).of fun _ k => XS.ifNo X.here hx rfl hd rfl (XT.ll_eq_f q) k
theorem g_icmp_ne (X : Stand p l e R s m args below meth c T locs cells slots) (hx : p.tables.exec = Jvm.exec) {x y : Int32} {o : Int} {pc' : Nat} (hd : decode c.code pc = .ok (.if_icmp .ne o, 3)) (ho : 0 ≤ (pc : Int) + o) (hp : ((pc : Int) + o).toNat = pc') (hT : (¬ x = y) → Goes p.tables e below (T.setTop (mkF m pc' Ls st)) P) (hF : (x = y) → Goes p.tables e below (T.setTop (mkF m (pc + 3) Ls st)) P) : Goes p.tables e below (T.setTop (mkF m pc Ls (.int y :: .int x :: st))) P := by
  by_cases q : x = y
  · exact (hF q).of fun _ k => XS.icmpNo X.here hx rfl hd rfl (XT.ii_ne_f q) k
  · exact (hT q).of fun _ k => XS.icmpYes X.here hx rfl rfl hd rfl (XT.ii_ne_t q) ho hp k
theorem g_if_ne (X : Stand p l e R s m args below meth c T locs cells slots) (hx : p.tables.exec = Jvm.exec) {x : Int32} {o : Int} {pc' : Nat} (hd : decode c.code pc = .ok (.ifCond .ne o, 3)) (ho : 0 ≤ (pc : Int) + o) (hp : ((pc : Int) + o).toNat = pc') (hT : (¬ x = 0) → Goes p.tables e below (T.setTop (mkF m pc' Ls st)) P) (hF : (x = 0) → Goes p.tables e below (T.setTop (mkF m (pc + 3) Ls st)) P) : Goes p.tables e below (T.setTop (mkF m pc Ls (.int x :: st))) P := by
  by_cases q : x = 0
  · exact (hF q).of fun _ k => XS.ifNo X.here hx rfl hd rfl (XT.i0_ne_f q) k
  · exact (hT q).of fun _ k => XS.ifYes X.here hx rfl rfl hd rfl (XT.i0_ne_t q) ho hp k
theorem g_lif_ne (X : Stand p l e R s m args below meth c T locs cells slots) (hx : p.tables.exec = Jvm.exec) {x y : Int64} {o : Int} {pc' : Nat} (hd : decode c.code pc = .ok (.ifCond .ne o, 3)) (ho : 0 ≤ (pc : Int) + o) (hp : ((pc : Int) + o).toNat = pc') (hT : (¬ x = y) → Goes p.tables e below (T.setTop (mkF m pc' Ls st)) P) (hF : (x = y) → Goes p.tables e below (T.setTop (mkF m (pc + 3) Ls st)) P) : Goes p.tables e below (T.setTop (mkF m pc Ls (.int (XT.cmpL x y) :: st))) P := by
  by_cases q : x = y
  · exact (hF q).of fun _ k => XS.ifNo X.here hx rfl hd rfl (XT.ll_ne_f q) k
  · exact (hT q).of fun _ k => XS.ifYes X.here hx rfl rfl hd rfl (XT.ll_ne_t q) ho hp k
theorem g_icmp_lt (X : Stand p l e R s m args below meth c T locs cells slots) (hx : p.tables.exec = Jvm.exec) {x y : Int32} {o : Int} {pc' : Nat} (hd : decode c.code pc = .ok (.if_icmp .lt o, 3)) (ho : 0 ≤ (pc : Int) + o) (hp : ((pc : Int) + o).toNat = pc') (hT : (x < y) → Goes p.tables e below (T.setTop (mkF m pc' Ls st)) P) (hF : (¬ x < y) → Goes p.tables e below (T.setTop (mkF m (pc + 3) Ls st)) P) : Goes p.tables e below (T.setTop (mkF m pc Ls (.int y :: .int x :: st))) P := by
  by_cases q : x < y
  · exact (hT q).of fun _ k => XS.icmpYes X.here hx rfl rfl hd rfl (XT.ii_lt_t q) ho hp k
  · exact (hF q).of fun _ k => XS.icmpNo X.here hx rfl hd rfl (XT.ii_lt_f q) k
theorem g_if_lt (X : Stand p l e R s m args below meth c T locs cells slots) (hx : p.tables.exec = Jvm.exec) {x : Int32} {o : Int} {pc' : Nat} (hd : decode c.code pc = .ok (.ifCond .lt o, 3)) (ho : 0 ≤ (pc : Int) + o) (hp : ((pc : Int) + o).toNat = pc') (hT : (x < 0) → Goes p.tables e below (T.setTop (mkF m pc' Ls st)) P) (hF : (¬ x < 0) → Goes p.tables e below (T.setTop (mkF m (pc + 3) Ls st)) P) : Goes p.tables e below (T.setTop (mkF m pc Ls (.int x :: st))) P := by
  by_cases q : x < 0
  · exact (hT q).of fun _ k => XS.ifYes X.here hx rfl rfl hd rfl (XT.i0_lt_t q) ho hp k
  · exact (hF q).of fun _ k => XS.ifNo X.here hx rfl hd rfl (XT.i0_lt_f q) k
theorem g_lif_lt (X : Stand p l e R s m args below meth c T locs cells slots) (hx : p.tables.exec = Jvm.exec) {x y : Int64} {o : Int} {pc' : Nat} (hd : decode c.code pc = .ok (.ifCond .lt o, 3)) (ho : 0 ≤ (pc : Int) + o) (hp : ((pc : Int) + o).toNat = pc') (hT : (x < y) → Goes p.tables e below (T.setTop (mkF m pc' Ls st)) P) (hF : (¬ x < y) → Goes p.tables e below (T.setTop (mkF m (pc + 3) Ls st)) P) : Goes p.tables e below (T.setTop (mkF m pc Ls (.int (XT.cmpL x y) :: st))) P := by
  by_cases q : x < y
  · exact (hT q).of fun _ k => XS.ifYes X.here hx rfl rfl hd rfl (XT.ll_lt_t q) ho hp k
  · exact (hF q).of fun _ k => XS.ifNo X.here hx rfl hd rfl (XT.ll_lt_f q) k
theorem g_icmp_ge (X : Stand p l e R s m args below meth c T locs cells slots) (hx : p.tables.exec = Jvm.exec) {x y : Int32} {o : Int} {pc' : Nat} (hd : decode c.code pc = .ok (.if_icmp .ge o, 3)) (ho : 0 ≤ (pc : Int) + o) (hp : ((pc : Int) + o).toNat = pc') (hT : (¬ x < y) → Goes p.tables e below (T.setTop (mkF m pc' Ls st)) P) (hF : (x < y) → Goes p.tables e below (T.setTop (mkF m (pc + 3) Ls st)) P) : Goes p.tables e below (T.setTop (mkF m pc Ls (.int y :: .int x :: st))) P := by
  by_cases q : x < y
  · exact (hF q).of fun _ k => XS.icmpNo X.here hx rfl hd rfl (XT.ii_ge_f q) k
  · exact (hT q).of fun _ k => XS.icmpYes X.here hx rfl rfl hd rfl (XT.ii_ge_t q) ho hp k
theorem g_if_ge (X : Stand p l e R s m args below meth c T locs cells slots) (hx : p.tables.exec = Jvm.exec) {x : Int32} {o : Int} {pc' : Nat} (hd : decode c.code pc = .ok (.ifCond .ge o, 3)) (ho : 0 ≤ (pc : Int) + o) (hp : ((pc : Int) + o).toNat = pc') (hT : (¬ x < 0) → Goes p.tables e below (T.setTop (mkF m pc' Ls st)) P) (hF : (x < 0) → Goes p.tables e below (T.setTop (mkF m (pc + 3) Ls st)) P) : Goes p.tables e below (T.setTop (mkF m pc Ls (.int x :: st))) P := by
  by_cases q : x < 0
  · exact (hF q).of fun _ k => XS.ifNo X.here hx rfl hd rfl (XT.i0_ge_f q) k
  · exact (hT q).of fun _ k => XS.ifYes X.here hx rfl rfl hd rfl (XT.i0_ge_t q) ho hp k
theorem g_lif_ge (X : Stand p l e R s m args below meth c T locs cells slots) (hx : p.tables.exec = Jvm.exec) {x y : Int64} {o : Int} {pc' : Nat} (hd : decode c.code pc = .ok (.ifCond .ge o, 3)) (ho : 0 ≤ (pc : Int) + o) (hp : ((pc : Int) + o).toNat = pc') (hT : (¬ x < y) → Goes p.tables e below (T.setTop (mkF m pc' Ls st)) P) (hF : (x < y) → Goes p.tables e below (T.setTop (mkF m (pc + 3) Ls st)) P) : Goes p.tables e below (T.setTop (mkF m pc Ls (.int (XT.cmpL x y) :: st))) P := by
  by_cases q : x < y
  · exact (hF q).of fun _ k => XS.ifNo X.here hx rfl hd rfl (XT.ll_ge_f q) k
  · exact (hT q).of fun _ k => XS.ifYes X.here hx rfl rfl hd rfl (XT.ll_ge_t q) ho hp k
theorem g_icmp_gt (X : Stand p l e R s m args below meth c T locs cells slots) (hx : p.tables.exec = Jvm.exec) {x y : Int32} {o : Int} {pc' : Nat} (hd : decode c.code pc = .ok (.if_icmp .gt o, 3)) (ho : 0 ≤ (pc : Int) + o) (hp : ((pc : Int) + o).toNat = pc') (hT : (y < x) → Goes p.tables e below (T.setTop (mkF m pc' Ls st)) P) (hF : (¬ y < x) → Goes p.tables e below (T.setTop (mkF m (pc + 3) Ls st)) P) : Goes p.tables e below (T.setTop (mkF m pc Ls (.int y :: .int x :: st))) P := by
  by_cases q : y < x
  · exact (hT q).of fun _ k => XS.icmpYes X.here hx rfl rfl hd rfl (XT.ii_gt_t q) ho hp k
  · exact (hF q).of fun _ k => XS.icmpNo X.here hx rfl hd rfl (XT.ii_gt_f q) k
theorem g_if_gt (X : Stand p l e R s m args below meth c T locs cells slots) (hx : p.tables.exec = Jvm.exec) {x : Int32} {o : Int} {pc' : Nat} (hd : decode c.code pc = .ok (.ifCond .gt o, 3)) (ho : 0 ≤ (pc : Int) + o) (hp : ((pc : Int) + o).toNat = pc') (hT : (0 < x) → Goes p.tables e below (T.setTop (mkF m pc' Ls st)) P) (hF : (¬ 0 < x) → Goes p.tables e below (T.setTop (mkF m (pc + 3) Ls st)) P) : Goes p.tables e below (T.setTop (mkF m pc Ls (.int x :: st))) P := by
  by_cases q : 0 < x
  · exact (hT q).of fun _ k => XS.ifYes X.here hx rfl rfl hd rfl (XT.i0_gt_t q) ho hp k
  · exact (hF q).of fun _ k => XS.ifNo X.here hx rfl hd rfl (XT.i0_gt_f q) k
theorem g_lif_gt (X : Stand p l e R s m args below meth c T locs cells slots) (hx : p.tables.exec = Jvm.exec) {x y : Int64} {o : Int} {pc' : Nat} (hd : decode c.code pc = .ok (.ifCond .gt o, 3)) (ho : 0 ≤ (pc : Int) + o) (hp : ((pc : Int) + o).toNat = pc') (hT : (y < x) → Goes p.tables e below (T.setTop (mkF m pc' Ls st)) P) (hF : (¬ y < x) → Goes p.tables e below (T.setTop (mkF m (pc + 3) Ls st)) P) : Goes p.tables e below (T.setTop (mkF m pc Ls (.int (XT.cmpL x y) :: st))) P := by
  by_cases q : y < x
  · exact (hT q).of fun _ k => XS.ifYes X.here hx rfl rfl hd rfl (XT.ll_gt_t q) ho hp k
  · exact (hF q).of fun _ k => XS.ifNo X.here hx rfl hd rfl (XT.ll_gt_f q) k
theorem g_icmp_le (X : Stand p l e R s m args below meth c T locs cells slots) (hx : p.tables.exec = Jvm.exec) {x y : Int32} {o : Int} {pc' : Nat} (hd : decode c.code pc = .ok (.if_icmp .le o, 3)) (ho : 0 ≤ (pc : Int) + o) (hp : ((pc : Int) + o).toNat = pc') (hT : (¬ y < x) → Goes p.tables e below (T.setTop (mkF m pc' Ls st)) P) (hF : (y < x) → Goes p.tables e below (T.setTop (mkF m (pc + 3) Ls st)) P) : Goes p.tables e below (T.setTop (mkF m pc Ls (.int y :: .int x :: st))) P := by
  by_cases q : y < x
  · exact (hF q).of fun _ k => XS.icmpNo X.here hx rfl hd rfl (XT.ii_le_f q) k
  · exact (hT q).of fun _ k => XS.icmpYes X.here hx rfl rfl hd rfl (XT.ii_le_t q) ho hp k
theorem g_if_le (X : Stand p l e R s m args below meth c T locs cells slots) (hx : p.tables.exec = Jvm.exec) {x : Int32} {o : Int} {pc' : Nat} (hd : decode c.code pc = .ok (.ifCond .le o, 3)) (ho : 0 ≤ (pc : Int) + o) (hp : ((pc : Int) + o).toNat = pc') (hT : (¬ 0 < x) → Goes p.tables e below (T.setTop (mkF m pc' Ls st)) P) (hF : (0 < x) → Goes p.tables e below (T.setTop (mkF m (pc + 3) Ls st)) P) : Goes p.tables e below (T.setTop (mkF m pc Ls (.int x :: st))) P := by
  by_cases q : 0 < x
  · exact (hF q).of fun _ k => XS.ifNo X.here hx rfl hd rfl (XT.i0_le_f q) k
  · exact (hT q).of fun _ k => XS.ifYes X.here hx rfl rfl hd rfl (XT.i0_le_t q) ho hp k
theorem g_lif_le (X : Stand p l e R s m args below meth c T locs cells slots) (hx : p.tables.exec = Jvm.exec) {x y : Int64} {o : Int} {pc' : Nat} (hd : decode c.code pc = .ok (.ifCond .le o, 3)) (ho : 0 ≤ (pc : Int) + o) (hp : ((pc : Int) + o).toNat = pc') (hT : (¬ y < x) → Goes p.tables e below (T.setTop (mkF m pc' Ls st)) P) (hF : (y < x) → Goes p.tables e below (T.setTop (mkF m (pc + 3) Ls st)) P) : Goes p.tables e below (T.setTop (mkF m pc Ls (.int (XT.cmpL x y) :: st))) P := by
  by_cases q : y < x
  · exact (hF q).of fun _ k => XS.ifNo X.here hx rfl hd rfl (XT.ll_le_f q) k
  · exact (hT q).of fun _ k => XS.ifYes X.here hx rfl rfl hd rfl (XT.ll_le_t q) ho hp k
theorem g_ifnull_ref (X : Stand p l e R s m args below meth c T locs cells slots) (hx : p.tables.exec = Jvm.exec) {b : Addr} {o : Int} (hd : decode c.code pc = .ok (.ifnull o, 3)) (hr : Goes p.tables e below (T.setTop (mkF m (pc + 3) Ls st)) P) : Goes p.tables e below (T.setTop (mkF m pc Ls (.ref b :: st))) P := hr.of fun _ k => XS.ifnullNo X.here hx rfl hd rfl k
theorem g_ifnull_null (X : Stand p l e R s m args below meth c T locs cells slots) (hx : p.tables.exec = Jvm.exec)  {o : Int} {pc' : Nat} (hd : decode c.code pc = .ok (.ifnull o, 3)) (ho : 0 ≤ (pc : Int) + o) (hp : ((pc : Int) + o).toNat = pc') (hr : Goes p.tables e below (T.setTop (mkF m pc' Ls st)) P) : Goes p.tables e below (T.setTop (mkF m pc Ls (.null :: st))) P := hr.of fun _ k => XS.ifnullYes X.here hx rfl rfl hd rfl ho hp k
theorem g_ifnonnull_ref (X : Stand p l e R s m args below meth c T locs cells slots) (hx : p.tables.exec = Jvm.exec) {b : Addr} {o : Int} {pc' : Nat} (hd : decode c.code pc = .ok (.ifnonnull o, 3)) (ho : 0 ≤ (pc : Int) + o) (hp : ((pc : Int) + o).toNat = pc') (hr : Goes p.tables e below (T.setTop (mkF m pc' Ls st)) P) : Goes p.tables e below (T.setTop (mkF m pc Ls (.ref b :: st))) P := hr.of fun _ k => XT.ifnonnullYes X.here hx rfl rfl hd rfl ho hp k
theorem g_ifnonnull_null (X : Stand p l e R s m args below meth c T locs cells slots) (hx : p.tables.exec = Jvm.exec)  {o : Int} (hd : decode c.code pc = .ok (.ifnonnull o, 3)) (hr : Goes p.tables e below (T.setTop (mkF m (pc + 3) Ls st)) P) : Goes p.tables e below (T.setTop (mkF m pc Ls (.null :: st))) P := hr.of fun _ k => XT.ifnonnullNo X.here hx rfl hd rfl k
theorem g_acmp_eq (X : Stand p l e R s m args below meth c T locs cells slots) (hx : p.tables.exec = Jvm.exec) {x y : Value} (hx' : x.isRef = true) (hy' : y.isRef = true) {o : Int} {pc' : Nat} (hd : decode c.code pc = .ok (.if_acmp .eq o, 3)) (ho : 0 ≤ (pc : Int) + o) (hp : ((pc : Int) + o).toNat = pc') (hT : (x = y) → Goes p.tables e below (T.setTop (mkF m pc' Ls st)) P) (hF : (¬ x = y) → Goes p.tables e below (T.setTop (mkF m (pc + 3) Ls st)) P) : Goes p.tables e below (T.setTop (mkF m pc Ls (y :: x :: st))) P := by
  by_cases q : x = y
  · exact (hT q).of fun _ k => XT.acmpYes X.here hx rfl rfl hd rfl hx' hy' (by simp [XT.acmp, q]) ho hp k
  · exact (hF q).of fun _ k => XT.acmpNo X.here hx rfl hd rfl hx' hy' (by simp [XT.acmp, q]) k
theorem g_acmp_ne (X : Stand p l e R s m args below meth c T locs cells slots) (hx : p.tables.exec = Jvm.exec) {x y : Value} (hx' : x.isRef = true) (hy' : y.isRef = true) {o : Int} {pc' : Nat} (hd : decode c.code pc = .ok (.if_acmp .ne o, 3)) (ho : 0 ≤ (pc : Int) + o) (hp : ((pc : Int) + o).toNat = pc') (hT : (¬ x = y) → Goes p.tables e below (T.setTop (mkF m pc' Ls st)) P) (hF : (x = y) → Goes p.tables e below (T.setTop (mkF m (pc + 3) Ls st)) P) : Goes p.tables e below (T.setTop (mkF m pc Ls (y :: x :: st))) P := by
  by_cases q : x = y
  · exact (hF q).of fun _ k => XT.acmpNo X.here hx rfl hd rfl hx' hy' (by simp [XT.acmp, q]) k
  · exact (hT q).of fun _ k => XT.acmpYes X.here hx rfl rfl hd rfl hx' hy' (by simp [XT.acmp, q]) ho hp k
/-- what a body owes at its end: it returned v, Q holds of it, the heap and the places written, within C cells and N slots -/
abbrev Fin (s : State) (C N : Nat) (Q : Option Value → Heap → List Loc → Prop) : State → Outcome → Prop := fun s₂ o => ∃ v L, o = .returned v ∧ Q v s₂.heap L ∧ FrameEnd s o s₂ L C N
variable {C N : Nat} {Q : Option Value → Heap → List Loc → Prop}
theorem g_ret (X : Stand p l e R s m args below meth c T locs cells slots) (hx : p.tables.exec = Jvm.exec) {w : Value} {t : FieldType} {i : Instr} (hret : meth.sig.returnType = some t) (hk : meth.locks = false) (hn : narrow t w = w)
    (hi : (i = .ireturn ∧ (t = .int ∨ t = .boolean ∨ t = .byte ∨ t = .char ∨ t = .short) ∧ ∃ z, w = .int z) ∨ (i = .lreturn ∧ t = .long ∧ ∃ z, w = .long z) ∨ (i = .dreturn ∧ t = .double ∧ ∃ z, w = .double z) ∨ (i = .freturn ∧ t = .float ∧ ∃ z, w = .float z) ∨ (i = .areturn ∧ t.isReference = true ∧ w.isRef = true))
    (hd : decode c.code pc = .ok (i, 1)) (hc : cells ≤ C) (hs : slots ≤ N) (hQ : Q (some w) T.heap locs) : Goes p.tables e below (T.setTop (mkF m pc Ls (w :: st))) (Fin s C N Q) := by
  obtain ⟨fs, hr, hrun, hended, hW, hsame⟩ := X.leave (v := some w) (fun h => by rw [hret] at h; cases h) hk
  exact ⟨_, _, retOut X hx hret hn hi hd hr, hrun, hended, _, _, rfl, hQ, ⟨_, rfl⟩, hW, hsame.mono hc hs⟩
theorem g_retI (X : Stand p l e R s m args below meth c T locs cells slots) (hx : p.tables.exec = Jvm.exec) {z : Int32} (hret : meth.sig.returnType = some .int) (hk : meth.locks = false) (hd : decode c.code pc = .ok (.ireturn, 1)) (hc : cells ≤ C) (hs : slots ≤ N) (hQ : Q (some (.int z)) T.heap locs) :
    Goes p.tables e below (T.setTop (mkF m pc Ls (.int z :: st))) (Fin s C N Q) := g_ret X hx hret hk rfl (Or.inl ⟨rfl, Or.inl rfl, _, rfl⟩) hd hc hs hQ
theorem g_retL (X : Stand p l e R s m args below meth c T locs cells slots) (hx : p.tables.exec = Jvm.exec) {z : Int64} (hret : meth.sig.returnType = some .long) (hk : meth.locks = false) (hd : decode c.code pc = .ok (.lreturn, 1)) (hc : cells ≤ C) (hs : slots ≤ N) (hQ : Q (some (.long z)) T.heap locs) :
    Goes p.tables e below (T.setTop (mkF m pc Ls (.long z :: st))) (Fin s C N Q) := g_ret X hx hret hk rfl (Or.inr (Or.inl ⟨rfl, rfl, _, rfl⟩)) hd hc hs hQ
theorem g_retA (X : Stand p l e R s m args below meth c T locs cells slots) (hx : p.tables.exec = Jvm.exec) {w : Value} {t : FieldType} (hret : meth.sig.returnType = some t) (hk : meth.locks = false) (ht : t.isReference = true) (hw : w.isRef = true) (hd : decode c.code pc = .ok (.areturn, 1)) (hc : cells ≤ C) (hs : slots ≤ N) (hQ : Q (some w) T.heap locs) :
    Goes p.tables e below (T.setTop (mkF m pc Ls (w :: st))) (Fin s C N Q) := g_ret X hx hret hk (by cases t <;> simp [FieldType.isReference] at ht <;> cases w <;> simp [Value.isRef] at hw <;> rfl) (Or.inr (Or.inr (Or.inr (Or.inr ⟨rfl, ht, hw⟩)))) hd hc hs hQ
theorem g_retZ (X : Stand p l e R s m args below meth c T locs cells slots) (hx : p.tables.exec = Jvm.exec) {z : Int32} (hz : z = 0 ∨ z = 1) (hret : meth.sig.returnType = some .boolean) (hk : meth.locks = false) (hd : decode c.code pc = .ok (.ireturn, 1)) (hc : cells ≤ C) (hs : slots ≤ N) (hQ : Q (some (.int z)) T.heap locs) :
    Goes p.tables e below (T.setTop (mkF m pc Ls (.int z :: st))) (Fin s C N Q) := g_ret X hx hret hk (by rcases hz with rfl | rfl <;> rfl) (Or.inl ⟨rfl, Or.inr (Or.inl rfl), _, rfl⟩) hd hc hs hQ
theorem g_retB (X : Stand p l e R s m args below meth c T locs cells slots) (hx : p.tables.exec = Jvm.exec) {z : Int32} (hz : z.toInt8.toInt32 = z) (hret : meth.sig.returnType = some .byte) (hk : meth.locks = false) (hd : decode c.code pc = .ok (.ireturn, 1)) (hc : cells ≤ C) (hs : slots ≤ N) (hQ : Q (some (.int z)) T.heap locs) :
    Goes p.tables e below (T.setTop (mkF m pc Ls (.int z :: st))) (Fin s C N Q) := g_ret X hx hret hk (by show Value.int z.toInt8.toInt32 = _; rw [hz]) (Or.inl ⟨rfl, Or.inr (Or.inr (Or.inl rfl)), _, rfl⟩) hd hc hs hQ
theorem g_ret0 (X : Stand p l e R s m args below meth c T locs cells slots) (hx : p.tables.exec = Jvm.exec) (hret : meth.sig.returnType = none) (hk : meth.locks = false) (hd : decode c.code pc = .ok (.return_, 1)) (hc : cells ≤ C) (hs : slots ≤ N) (hQ : Q none T.heap locs) :
    Goes p.tables e below (T.setTop (mkF m pc Ls [])) (Fin s C N Q) := by
  obtain ⟨fs, hr, hrun, hended, hW, hsame⟩ := X.leave (v := none) (fun _ => rfl) hk
  exact ⟨_, _, X.returnOut hx hret hd hr, hrun, hended, _, _, rfl, hQ, ⟨_, rfl⟩, hW, hsame.mono hc hs⟩
/-- the contract of a body, at these arguments and this heap -/
def Con (l : Launch) (Z : State) (y : MethodName) (bytes : ByteArray) (maxL : Nat) (ret : Option FieldType) (ws : List Jvm.Cond) (rm : Room) (C N : Nat) (as' : Array Value) (h : Heap) (Q : Option Value → Heap → List Loc → Prop) : Prop :=
  MetFree l y (head1 (Jvm.Cond.code y bytes maxL ret :: ws) rm) (fun a U => a = as' ∧ Z.Warmed39 U.vm ∧ U.heap = h) (fun _ _ _ _ _ => True) (fun _ U o U' => ∃ v L, o = .returned v ∧ Q v U'.heap L ∧ FrameEnd U o U' L C N)
theorem Con.body {y : MethodName} {bytes : ByteArray} {maxL : Nat} {ret : Option FieldType} {ws : List Jvm.Cond} {rm : Room} {as' : Array Value} (hp : plainFor y = true)
    (body : ∀ (p : Program) (e : Env) (s : State) (m : MethodId) (below : List Frame) (meth : Method) (c : Code) (T : State), p.tables.exec = Jvm.exec → c.code = bytes → c.maxLocals = maxL → s.vm.findClass y.cls = some m.cls → meth.name = y.name → Z.Warmed39 s.vm → meth.sig.returnType = ret → meth.locks = false →
      Stand p l e rm s m as' below meth c T [] 0 0 → T.heap = h → Goes p.tables e below (T.setTop (entryFrame m as' maxL)) (Fin s C N Q)) : Con l Z y bytes maxL ret ws rm C N as' h Q := by
  refine MetFree.of_bodySF hp hisR ?_
  intro p e s m args below meth c s₁ Bd hml hP hK
  obtain ⟨rfl, hZ, hh⟩ := hP
  exact body p e s m below meth c s₁ Bd.exec Bd.bytes hml (findClass_of_methodNamed Bd.named) (name_of_methodNamed Bd.named Bd.method).1 hZ Bd.returns (BodyLoose.notSynchronized Bd) (Stand.of_body Bd) (by rw [← hh, Bd.state]; rfl)
variable {y : MethodName} {bytes : ByteArray} {maxL : Nat} {ret : Option FieldType} {rm : Room} {as' : Array Value} {own : String} {index W : Nat} {argsL : List Value}
/-- a static call by the callee's contract -/
theorem g_callS (X : Stand p l e R s m args below meth c T locs cells slots) (hx : p.tables.exec = Jvm.exec) (hZ : Z.Warmed39 s.vm) (hown : s.vm.findClass own = some m.cls) (hml : Ls.size = c.maxLocals) (eT : T.heap = h)
    (wl : (Jvm.Cond.methodLink own index y).before a0 Z = true) (wt : (Jvm.Cond.static y).before a0 Z = true) (wz : (Jvm.Cond.initialized y.cls).before a0 Z = true) (wc : (Jvm.Cond.code y bytes maxL ret).before a0 Z = true)
    (hM : Con l Z y bytes maxL ret [] rm rm.cells rm.slots as' h Q) (argsL : List Value) (has : argsL.toArray = as') {S : List Value} (st : List Value) (hS : S = argsL.reverse ++ st) (hlen : ∀ sig, parseMethodDescriptor y.desc = some sig → argsL.length = sig.parameters.length)
    (hd : decode c.code pc = .ok (.invokestatic index, 3)) (hy : y.cls ≠ "java/lang/invoke/MethodHandle" ∧ y.cls ≠ "java/lang/invoke/VarHandle") (W : Nat) (hf : rm.frames + 1 ≤ R.frames) (hl : W + (maxL + 11) + rm.locals ≤ R.locals) (hW : (st.map fun v => v.category).sum ≤ W) (hc : cells + rm.cells ≤ R.cells) (hs : slots + rm.slots ≤ R.slots)
    (k : ∀ v T' L, Stand p l e R s m args below meth c T' (locs ++ L) (cells + rm.cells) (slots + rm.slots) → Q v T'.heap L → Goes p.tables e below (T'.setTop (mkF m (pc + 3) Ls (v.toList ++ st))) P) :
    Goes p.tables e below (T.setTop (mkF m pc Ls S)) P := by
  subst hS
  obtain ⟨v, vm₁, ⟨T', L', k', n'⟩, -, X', ⟨L, hQ, e1, e2, e3⟩, st'⟩ := Jvm.LawKit.callS X hx (y := y) hown (mvT hZ wl) (mvT hZ wt) (mvT hZ wz) (mvT hZ wc) hy (backOf (W := W) hM hZ wc wz hf hl) (g := mkF m pc Ls (argsL.reverse ++ st)) rfl hml (argsL := argsL) (rest := st) hlen rfl (by show 2 * 0 + _ ≤ _; omega) hd (fun _ _ => ⟨has, eT, hc, hs⟩)
  dsimp only [Pt.U, Pt.locs, Pt.cells, Pt.slots] at X' e1 e2 e3 st' hQ
  subst e1 e2 e3
  exact (k v T' L X' hQ).of st'
/-- a constructor by its contract -/
theorem g_callI (X : Stand p l e R s m args below meth c T locs cells slots) (hx : p.tables.exec = Jvm.exec) (hZ : Z.Warmed39 s.vm) (hown : s.vm.findClass own = some m.cls) (hml : Ls.size = c.maxLocals) (eT : T.heap = h) (hn : y.name = "<init>")
    (wl : (Jvm.Cond.methodLink own index y).before a0 Z = true) (wt : (Jvm.Cond.instanceMethod y).before a0 Z = true) (wz : (Jvm.Cond.initialized y.cls).before a0 Z = true) (wc : (Jvm.Cond.code y bytes maxL none).before a0 Z = true)
    (hM : Con l Z y bytes maxL none [] rm rm.cells rm.slots as' h Q) (a : Addr) (argsL : List Value) (has : (.ref a :: argsL).toArray = as') {S : List Value} (st : List Value) (hS : S = argsL.reverse ++ .ref a :: st) (hlen : ∀ sig, parseMethodDescriptor y.desc = some sig → argsL.length = sig.parameters.length)
    (hd : decode c.code pc = .ok (.invokespecial index, 3)) (hy : y.cls ≠ "java/lang/invoke/MethodHandle" ∧ y.cls ≠ "java/lang/invoke/VarHandle") (W : Nat) (hf : rm.frames + 1 ≤ R.frames) (hl : W + (maxL + 11) + rm.locals ≤ R.locals) (hW : (st.map fun v => v.category).sum ≤ W) (hc : cells + rm.cells ≤ R.cells) (hs : slots + rm.slots ≤ R.slots)
    (k : ∀ v T' L, Stand p l e R s m args below meth c T' (locs ++ L) (cells + rm.cells) (slots + rm.slots) → Q v T'.heap L → Goes p.tables e below (T'.setTop (mkF m (pc + 3) Ls (v.toList ++ st))) P) :
    Goes p.tables e below (T.setTop (mkF m pc Ls S)) P := by
  subst hS
  obtain ⟨v, vm₁, ⟨T', L', k', n'⟩, -, X', ⟨L, hQ, e1, e2, e3⟩, st'⟩ := X.specialBack hx (y := y) hn hown (mvT hZ wl) (mvT hZ wt) (mvT hZ wc) hy (backOf (W := W) hM hZ wc wz hf hl) (g := mkF m pc Ls (argsL.reverse ++ .ref a :: st)) rfl hml (Steps.refl _) (a := a) (argsL := argsL) (rest := st) hlen rfl (by show 2 * 0 + _ ≤ _; omega) hd (fun _ _ => ⟨has, eT, hc, hs⟩)
  dsimp only [Pt.U, Pt.locs, Pt.cells, Pt.slots] at X' e1 e2 e3 st' hQ
  subst e1 e2 e3
  exact (k v T' L X' hQ).tr st'
/-- an instance method by its contract -/
theorem g_callV (X : Stand p l e R s m args below meth c T locs cells slots) (hx : p.tables.exec = Jvm.exec) (hZ : Z.Warmed39 s.vm) (hown : s.vm.findClass own = some m.cls) (hml : Ls.size = c.maxLocals) (eT : T.heap = h) {K : String}
    (wl : (Jvm.Cond.methodLink own index y).before a0 Z = true) (wd : (Jvm.Cond.declares y).before a0 Z = true) (wv : (Jvm.Cond.selects K y y).before a0 Z = true) (wt : (Jvm.Cond.instanceMethod y).before a0 Z = true) (wz : (Jvm.Cond.initialized y.cls).before a0 Z = true) (wc : (Jvm.Cond.code y bytes maxL ret).before a0 Z = true)
    {a : Addr} (E : Exa Z h a K) (hM : Con l Z y bytes maxL ret [] rm rm.cells rm.slots as' h Q) (argsL : List Value) (has : (.ref a :: argsL).toArray = as') {S : List Value} (st : List Value) (hS : S = argsL.reverse ++ .ref a :: st) (hlen : ∀ sig, parseMethodDescriptor y.desc = some sig → argsL.length = sig.parameters.length)
    (hd : decode c.code pc = .ok (.invokevirtual index, 3)) (hy : y.cls ≠ "java/lang/invoke/MethodHandle" ∧ y.cls ≠ "java/lang/invoke/VarHandle") (W : Nat) (hf : rm.frames + 1 ≤ R.frames) (hl : W + (maxL + 11) + rm.locals ≤ R.locals) (hW : (st.map fun v => v.category).sum ≤ W) (hc : cells + rm.cells ≤ R.cells) (hs : slots + rm.slots ≤ R.slots)
    (k : ∀ v T' L, Stand p l e R s m args below meth c T' (locs ++ L) (cells + rm.cells) (slots + rm.slots) → Q v T'.heap L → Goes p.tables e below (T'.setTop (mkF m (pc + 3) Ls (v.toList ++ st))) P) :
    Goes p.tables e below (T.setTop (mkF m pc Ls S)) P := by
  subst hS
  obtain ⟨cq, kq, qa, qb, qc⟩ := isOf hZ eT E
  obtain ⟨v, vm₁, ⟨T', L', k', n'⟩, -, X', ⟨L, hQ, e1, e2, e3⟩, st'⟩ := X.virtualBack hx (y := y) (z := y) hown (mvT hZ wl) (mvT hZ wd) (notFace_of_selects (args := #[]) (mvT hZ wv)) (mvT hZ wv) (mvT hZ wt) hy (backOf (W := W) hM hZ wc wz hf hl) qa qc (g := mkF m pc Ls (argsL.reverse ++ .ref a :: st)) rfl hml (Steps.refl _) (argsL := argsL) (rest := st) hlen rfl (by show 2 * 0 + _ ≤ _; omega) hd (fun _ _ => ⟨has, eT, hc, hs⟩)
  dsimp only [Pt.U, Pt.locs, Pt.cells, Pt.slots] at X' e1 e2 e3 st' hQ
  subst e1 e2 e3
  exact (k v T' L X' hQ).tr st'
/-! objects -/
section Objects
variable {own K O R0 nm d host : String} {index kk : Nat} {a : Addr}
theorem g_new (X : Stand p l e R s m args below meth c T locs cells slots) (hx : p.tables.exec = Jvm.exec) (hZ : Z.Warmed39 s.vm) (hown : s.vm.findClass own = some m.cls) (eT : T.heap = h) (w : (Jvm.Cond.classLink own index K).before a0 Z = true) (wi : (Jvm.Cond.instantiable K kk).before a0 Z = true) (wz : (Jvm.Cond.initialized K).before a0 Z = true)
    (hd : decode c.code pc = .ok (.new index, 3)) (hc : cells + 1 ≤ R.cells) (hl : slots + kk ≤ R.slots)
    (k : ∀ T' h' a, a = h.size → Stand p l e R s m args below meth c T' locs (cells + 1) (slots + kk) → T'.heap = h' → Ext h h' → Exa Z h' a K → (∀ {O nm d : String} {ty : FieldType}, Laid Z a0 K O nm d → parseFieldDescriptor d = some ty → Fld Z h' a O nm d (defaultValue ty)) → Goes p.tables e below (T'.setTop (mkF m (pc + 3) Ls (.ref a :: st))) P) :
    Goes p.tables e below (T.setTop (mkF m pc Ls st)) P := by
  obtain ⟨T', h', X', e', E, A, D, -, st'⟩ := newO X hx hZ hown w wi wz eT (g := mkF m pc Ls st) rfl hd hc hl
  exact (k T' h' _ rfl X' e' E A D).of st'
theorem g_init0 (X : Stand p l e R s m args below meth c T locs cells slots) (hx : p.tables.exec = Jvm.exec) (hZ : Z.Warmed39 s.vm) (hown : s.vm.findClass own = some m.cls) (hml : Ls.size = c.maxLocals) (eT : T.heap = h) (w1 : (Jvm.Cond.methodLink own index Lib.objectInit).before a0 Z = true) (w2 : (Jvm.Cond.instanceMethod Lib.objectInit).before a0 Z = true)
    (w3 : (Jvm.Cond.code Lib.objectInit ⟨#[0xb1]⟩ 1 none).before a0 Z = true) (hd : decode c.code pc = .ok (.invokespecial index, 3)) (W : Nat) (hf : 1 ≤ R.frames) (hW : (st.map fun v => v.category).sum ≤ W) (hl : W + 12 ≤ R.locals)
    (k : ∀ T', Stand p l e R s m args below meth c T' locs cells slots → T'.heap = h → Goes p.tables e below (T'.setTop (mkF m (pc + 3) Ls st)) P) : Goes p.tables e below (T.setTop (mkF m pc Ls (.ref a :: st))) P := by
  obtain ⟨T', X', e', st'⟩ := initO X hx hZ hown w1 w2 w3 eT (g := mkF m pc Ls (.ref a :: st)) rfl hml rfl hd hf (W := W) (by show 2 * 0 + _ ≤ _; omega) hl
  exact (k T' X' e').of st'
theorem g_getF (X : Stand p l e R s m args below meth c T locs cells slots) (hx : p.tables.exec = Jvm.exec) (hZ : Z.Warmed39 s.vm) (hown : s.vm.findClass own = some m.cls) (eT : T.heap = h) (w : (Jvm.Cond.fieldLink own index R0 nm d).before a0 Z = true ∨ (Jvm.Cond.fieldLinkNest own index R0 nm d host).before a0 Z = true) (via : Via Z R0 O nm d)
    {v : Value} (F : Fld Z h a O nm d v) (hd : decode c.code pc = .ok (.getfield index, 3))
    (k : ∀ T', Stand p l e R s m args below meth c T' locs cells slots → T'.heap = h → Goes p.tables e below (T'.setTop (mkF m (pc + 3) Ls (v :: st))) P) : Goes p.tables e below (T.setTop (mkF m pc Ls (.ref a :: st))) P := by
  obtain ⟨T', X', e', st'⟩ := getF X hx hZ hown w via eT F (g := mkF m pc Ls (.ref a :: st)) rfl rfl hd
  exact (k T' X' e').of st'
theorem g_getS (X : Stand p l e R s m args below meth c T locs cells slots) (hx : p.tables.exec = Jvm.exec) (hZ : Z.Warmed39 s.vm) (hown : s.vm.findClass own = some m.cls) (eT : T.heap = h) (w : (Jvm.Cond.fieldLink own index O nm d).before a0 Z = true ∨ (Jvm.Cond.fieldLinkNest own index O nm d host).before a0 Z = true)
    {v : Value} (F : Sta Z h O nm d v) (hd : decode c.code pc = .ok (.getstatic index, 3))
    (k : ∀ T', Stand p l e R s m args below meth c T' locs cells slots → T'.heap = h → Goes p.tables e below (T'.setTop (mkF m (pc + 3) Ls (v :: st))) P) : Goes p.tables e below (T.setTop (mkF m pc Ls st)) P := by
  obtain ⟨T', X', e', st'⟩ := getS2 X hx hZ hown w Via.refl eT F (g := mkF m pc Ls st) rfl hd
  exact (k T' X' e').of st'
/-- a field's store; v': what the field then holds -/
theorem g_putF (X : Stand p l e R s m args below meth c T locs cells slots) (hx : p.tables.exec = Jvm.exec) (hZ : Z.Warmed39 s.vm) (hown : s.vm.findClass own = some m.cls) (eT : T.heap = h) (w : (Jvm.Cond.fieldLink own index R0 nm d).before a0 Z = true) (via : Via Z R0 O nm d)
    {v v' old : Value} (F : Fld Z h a O nm d old) (E : Exa Z h a K) (L : (Jvm.Cond.lays K O nm d).before a0 Z = true ∨ ((Jvm.Cond.laysFinal K O nm d).before a0 Z = true ∧ own = O ∧ meth.name = "<init>")) (wi : (Jvm.Cond.instantiable K kk).before a0 Z = true) {ty : FieldType} (hty : parseFieldDescriptor d = some ty) (hn : narrow ty v = v') (hf : fits ty v' = true)
    (hd : decode c.code pc = .ok (.putfield index, 3))
    (k : ∀ T' h', Stand p l e R s m args below meth c T' (locs ++ [⟨a, Jvm.RoadKit.slotOf Z O nm d⟩]) cells slots → T'.heap = h' → Wr h h' a (Jvm.RoadKit.slotOf Z O nm d) v' → Goes p.tables e below (T'.setTop (mkF m (pc + 3) Ls st)) P) : Goes p.tables e below (T.setTop (mkF m pc Ls (v :: .ref a :: st))) P := by
  obtain ⟨T', h', X', e', W', st'⟩ := putFN X hx hZ hown w via eT F E L wi hty hn hf (g := mkF m pc Ls (v :: .ref a :: st)) rfl rfl hd
  exact (k T' h' X' e' W').of st'
end Objects
/-! arrays: the components as a list -/
def Ar (Z : State) (h : Heap) (a : Addr) (ty : FieldType) (vs : List Value) : Prop := ∃ c : Cell, Arr Z h a c ty ∧ c.slots.toList = vs ∧ vs.length < 2 ^ 31 ∧ ∀ v ∈ vs, fits ty v = true
section Arrays
variable {a b : Addr} {ty : FieldType} {vs : List Value} {h' : Heap} {ws : List Addr}
theorem Ar.lt (F : Ar Z h a ty vs) : a < h.size := by obtain ⟨c, A, -⟩ := F; exact A.lt
theorem Ar.ext (F : Ar Z h a ty vs) (E : Ext h h') : Ar Z h' a ty vs := by obtain ⟨c, A, r⟩ := F; exact ⟨c, A.ext E, r⟩
theorem Ar.other (F : Ar Z h b ty vs) {sl : Nat} {v : Value} (W : Wr h h' a sl v) (q : b ≠ a) : Ar Z h' b ty vs := by obtain ⟨c, A, r⟩ := F; exact ⟨c, A.other W q, r⟩
theorem Ar.keep (F : Ar Z h a ty vs) (K : Keep h h' ws) (q : a ∉ ws) : Ar Z h' a ty vs := by obtain ⟨c, A, r⟩ := F; exact ⟨c, ⟨K.2.1 a c A.1 q, A.2⟩, r⟩
theorem own_nat {j : Int32} {i : Nat} (hj : j.toInt = i) : j.toNatClampNeg = i ∧ ¬ j < 0 := by
  have q : ¬ j < 0 := fun q => by have := Int32.lt_iff_toInt_lt.mp q; rw [show (0 : Int32).toInt = 0 from rfl] at this; omega
  have e := nat_of q
  exact ⟨by omega, q⟩
theorem own_in {j : Int32} {i : Nat} (hj : j.toInt = i) {c : Cell} (hs : c.slots.toList = vs) (hi : i < vs.length) : ¬ (j < 0 ∨ c.slots.size ≤ j.toNatClampNeg) := by
  obtain ⟨e, q⟩ := own_nat hj
  rintro (r | r)
  · exact q r
  · rw [← Array.length_toList, hs] at r; omega
theorem own_at {j : Int32} {i : Nat} (hj : j.toInt = i) {c : Cell} (hs : c.slots.toList = vs) {v : Value} (hv : vs[i]? = some v) : c.slots[j.toNatClampNeg]? = some v := by
  rw [(own_nat hj).1, ← Array.getElem?_toList, hs]; exact hv
theorem own_lt {i : Nat} {v : Value} (hv : vs[i]? = some v) : i < vs.length := (List.getElem?_eq_some_iff.mp hv).1
theorem Ar.set {j : Nat} {v : Value} (F : Ar Z h a ty vs) (W : Wr h h' a j v) (hf : fits ty v = true) : Ar Z h' a ty (vs.set j v) := by
  obtain ⟨c, A, hs, hl, hv⟩ := F
  refine ⟨c.setSlot j v, A.same W, by rw [← hs]; simp [Cell.setSlot], by rw [List.length_set]; exact hl, fun w hw => ?_⟩
  rcases List.mem_or_eq_of_mem_set hw with q | q
  · exact hv w q
  · rw [q]; exact hf
theorem g_iaload (X : Stand p l e R s m args below meth c T locs cells slots) (hx : p.tables.exec = Jvm.exec) (hZ : Z.Warmed39 s.vm) (eT : T.heap = h) (A : Ar Z h a .int vs) {j : Int32} {i : Nat} {v : Value} (hj : j.toInt = i) (hv : vs[i]? = some v) (hd : decode c.code pc = .ok (.iaload, 1))
    (hr : Goes p.tables e below (T.setTop (mkF m (pc + 1) Ls (v :: st))) P) : Goes p.tables e below (T.setTop (mkF m pc Ls (.int j :: .ref a :: st))) P := by
  obtain ⟨cl, A, hs, hl, -⟩ := A
  exact hr.of fun _ k => X.iaload hx (by rw [eT]; exact A.1) (State.isArrayOf_alike hZ.alike A.2.1) A.2.2 (own_in hj hs (own_lt hv)) (own_at hj hs hv) (g := mkF m pc Ls (.int j :: .ref a :: st)) rfl rfl hd _ k
theorem g_laload (X : Stand p l e R s m args below meth c T locs cells slots) (hx : p.tables.exec = Jvm.exec) (hZ : Z.Warmed39 s.vm) (eT : T.heap = h) (A : Ar Z h a .long vs) {j : Int32} {i : Nat} {v : Value} (hj : j.toInt = i) (hv : vs[i]? = some v) (hd : decode c.code pc = .ok (.laload, 1))
    (hr : Goes p.tables e below (T.setTop (mkF m (pc + 1) Ls (v :: st))) P) : Goes p.tables e below (T.setTop (mkF m pc Ls (.int j :: .ref a :: st))) P := by
  obtain ⟨cl, A, hs, hl, -⟩ := A
  exact hr.of fun _ k => X.laload hx (by rw [eT]; exact A.1) (State.isArrayOf_alike hZ.alike A.2.1) A.2.2 (own_in hj hs (own_lt hv)) (own_at hj hs hv) (g := mkF m pc Ls (.int j :: .ref a :: st)) rfl rfl hd _ k
theorem g_caload (X : Stand p l e R s m args below meth c T locs cells slots) (hx : p.tables.exec = Jvm.exec) (hZ : Z.Warmed39 s.vm) (eT : T.heap = h) (A : Ar Z h a .char vs) {j : Int32} {i : Nat} {v : Value} (hj : j.toInt = i) (hv : vs[i]? = some v) (hd : decode c.code pc = .ok (.caload, 1))
    (hr : Goes p.tables e below (T.setTop (mkF m (pc + 1) Ls (v :: st))) P) : Goes p.tables e below (T.setTop (mkF m pc Ls (.int j :: .ref a :: st))) P := by
  obtain ⟨cl, A, hs, hl, -⟩ := A
  exact hr.of fun _ k => X.caload hx (by rw [eT]; exact A.1) (State.isArrayOf_alike hZ.alike A.2.1) A.2.2 (own_in hj hs (own_lt hv)) (own_at hj hs hv) (g := mkF m pc Ls (.int j :: .ref a :: st)) rfl rfl hd _ k
theorem g_saload (X : Stand p l e R s m args below meth c T locs cells slots) (hx : p.tables.exec = Jvm.exec) (hZ : Z.Warmed39 s.vm) (eT : T.heap = h) (A : Ar Z h a .short vs) {j : Int32} {i : Nat} {v : Value} (hj : j.toInt = i) (hv : vs[i]? = some v) (hd : decode c.code pc = .ok (.saload, 1))
    (hr : Goes p.tables e below (T.setTop (mkF m (pc + 1) Ls (v :: st))) P) : Goes p.tables e below (T.setTop (mkF m pc Ls (.int j :: .ref a :: st))) P := by
  obtain ⟨cl, A, hs, hl, -⟩ := A
  exact hr.of fun _ k => X.saload hx (by rw [eT]; exact A.1) (State.isArrayOf_alike hZ.alike A.2.1) A.2.2 (own_in hj hs (own_lt hv)) (own_at hj hs hv) (g := mkF m pc Ls (.int j :: .ref a :: st)) rfl rfl hd _ k
theorem g_baload (X : Stand p l e R s m args below meth c T locs cells slots) (hx : p.tables.exec = Jvm.exec) (hZ : Z.Warmed39 s.vm) (eT : T.heap = h) (A : Ar Z h a .byte vs) {j : Int32} {i : Nat} {v : Value} (hj : j.toInt = i) (hv : vs[i]? = some v) (hd : decode c.code pc = .ok (.baload, 1))
    (hr : Goes p.tables e below (T.setTop (mkF m (pc + 1) Ls (v :: st))) P) : Goes p.tables e below (T.setTop (mkF m pc Ls (.int j :: .ref a :: st))) P := by
  obtain ⟨cl, A, hs, hl, -⟩ := A
  exact hr.of fun _ k => X.baloadBytes hx (by rw [eT]; exact A.1) (State.isArrayOf_alike hZ.alike A.2.1) A.2.2 (own_in hj hs (own_lt hv)) (own_at hj hs hv) (g := mkF m pc Ls (.int j :: .ref a :: st)) rfl rfl hd _ k
theorem g_zaload (X : Stand p l e R s m args below meth c T locs cells slots) (hx : p.tables.exec = Jvm.exec) (hZ : Z.Warmed39 s.vm) (eT : T.heap = h) (A : Ar Z h a .boolean vs) {j : Int32} {i : Nat} {v : Value} (hj : j.toInt = i) (hv : vs[i]? = some v) (hd : decode c.code pc = .ok (.baload, 1))
    (hr : Goes p.tables e below (T.setTop (mkF m (pc + 1) Ls (v :: st))) P) : Goes p.tables e below (T.setTop (mkF m pc Ls (.int j :: .ref a :: st))) P := by
  obtain ⟨cl, A, hs, hl, -⟩ := A
  exact hr.of fun _ k => X.baloadBooleans hx (by rw [eT]; exact A.1) (State.isArrayOf_alike hZ.alike A.2.1) A.2.2 (own_in hj hs (own_lt hv)) (own_at hj hs hv) (g := mkF m pc Ls (.int j :: .ref a :: st)) rfl rfl hd _ k
theorem g_aaload (X : Stand p l e R s m args below meth c T locs cells slots) (hx : p.tables.exec = Jvm.exec) (hZ : Z.Warmed39 s.vm) (eT : T.heap = h) (A : Ar Z h a ty vs) (hty : ty.isReference = true) {j : Int32} {i : Nat} {v : Value} (hj : j.toInt = i) (hv : vs[i]? = some v) (hd : decode c.code pc = .ok (.aaload, 1))
    (hr : Goes p.tables e below (T.setTop (mkF m (pc + 1) Ls (v :: st))) P) : Goes p.tables e below (T.setTop (mkF m pc Ls (.int j :: .ref a :: st))) P := by
  obtain ⟨cl, A, hs, hl, -⟩ := A
  exact hr.of fun _ k => X.aaload hx (by rw [eT]; exact A.1) (State.isArrayOf_alike hZ.alike A.2.1) hty A.2.2 (own_in hj hs (own_lt hv)) (own_at hj hs hv) (g := mkF m pc Ls (.int j :: .ref a :: st)) rfl rfl hd _ k
theorem g_alen (X : Stand p l e R s m args below meth c T locs cells slots) (hx : p.tables.exec = Jvm.exec) (hZ : Z.Warmed39 s.vm) (eT : T.heap = h) (A : Ar Z h a ty vs) (z : Int32) (hz : z.toInt = vs.length) (hd : decode c.code pc = .ok (.arraylength, 1))
    (hr : Goes p.tables e below (T.setTop (mkF m (pc + 1) Ls (.int z :: st))) P) : Goes p.tables e below (T.setTop (mkF m pc Ls (.ref a :: st))) P := by
  obtain ⟨cl, A, hs, hl, -⟩ := A
  have q : cl.slots.size.toInt32 = z := by
    have e1 : cl.slots.size = vs.length := by rw [← hs, Array.length_toList]
    exact Int32.toInt_inj.mp (by rw [len_toInt (by rw [e1]; exact hl), hz, e1])
  subst q
  exact hr.of fun _ k => X.arraylength hx (cell := cl) (by rw [eT]; exact A.1) (State.isArrayOf_alike hZ.alike A.2.1) (g := mkF m pc Ls (.ref a :: st)) rfl (rest := st) rfl hd _ k
theorem g_newarr (X : Stand p l e R s m args below meth c T locs cells slots) (hx : p.tables.exec = Jvm.exec) (hZ : Z.Warmed39 s.vm) (eT : T.heap = h) {aty : ArrayType} (w : (Jvm.Cond.arrayClass (newarray.typeOf aty)).before a0 Z = true) (hd : decode c.code pc = .ok (.newarray aty, 2)) {z : Int32} {n : Nat} (hz : z.toInt = n) (cap : Nat) (hcap : n ≤ cap) (hb : cap * 8 ≤ 536870912) (hc : cells + 1 ≤ R.cells) (hl : slots + cap ≤ R.slots) {ad : String} (had : "[" ++ (newarray.typeOf aty).toString = ad) (hfit : fits (newarray.typeOf aty) (defaultValue (newarray.typeOf aty)) = true)
    (k : ∀ T' h' a, a = h.size → Stand p l e R s m args below meth c T' locs (cells + 1) (slots + cap) → T'.heap = h' → Ext h h' → Ar Z h' a (newarray.typeOf aty) (List.replicate n (defaultValue (newarray.typeOf aty))) → Exa Z h' a ad → Goes p.tables e below (T'.setTop (mkF m (pc + 2) Ls (.ref a :: st))) P) :
    Goes p.tables e below (T.setTop (mkF m pc Ls (.int z :: st))) P := by
  obtain ⟨e1, q⟩ := own_nat hz
  obtain ⟨T', h', cA, X', e', E, A, F, st'⟩ := newPE X hx hZ w eT (g := mkF m pc Ls (.int z :: st)) rfl hd rfl q (cap := cap) (by rw [e1]; exact hcap) hb hc hl had
  refine (k T' h' _ rfl X' e' E ⟨_, A, ?_, ?_, ?_⟩ F).of st'
  · simp [newA, e1]
  · rw [List.length_replicate]; have := rng32 z; omega
  · intro v hv; rw [(List.mem_replicate.mp hv).2]; exact hfit
theorem g_iastore (X : Stand p l e R s m args below meth c T locs cells slots) (hx : p.tables.exec = Jvm.exec) (hZ : Z.Warmed39 s.vm) (eT : T.heap = h) (A : Ar Z h a .int vs) {j : Int32} {x : Int32} (i : Nat) (hj : j.toInt = i) (hi : i < vs.length) (hd : decode c.code pc = .ok (.iastore, 1))
    (k : ∀ T' h', Stand p l e R s m args below meth c T' (locs ++ [⟨a, i⟩]) cells slots → T'.heap = h' → Wr h h' a i (.int x) → Ar Z h' a .int (vs.set i (.int x)) → Goes p.tables e below (T'.setTop (mkF m (pc + 1) Ls st)) P) : Goes p.tables e below (T.setTop (mkF m pc Ls (.int x :: .int j :: .ref a :: st))) P := by
  have A' := A
  obtain ⟨cl, A, hs, hl, -⟩ := A
  obtain ⟨T', h', X', e', W', st'⟩ := stI X hx hZ eT A (own_in hj hs hi) (g := mkF m pc Ls (.int x :: .int j :: .ref a :: st)) rfl rfl hd
  rw [(own_nat hj).1] at X' W'
  exact (k T' h' X' e' W' (A'.set W' rfl)).of st'
theorem g_lastore (X : Stand p l e R s m args below meth c T locs cells slots) (hx : p.tables.exec = Jvm.exec) (hZ : Z.Warmed39 s.vm) (eT : T.heap = h) (A : Ar Z h a .long vs) {j : Int32} {x : Int64} (i : Nat) (hj : j.toInt = i) (hi : i < vs.length) (hd : decode c.code pc = .ok (.lastore, 1))
    (k : ∀ T' h', Stand p l e R s m args below meth c T' (locs ++ [⟨a, i⟩]) cells slots → T'.heap = h' → Wr h h' a i (.long x) → Ar Z h' a .long (vs.set i (.long x)) → Goes p.tables e below (T'.setTop (mkF m (pc + 1) Ls st)) P) : Goes p.tables e below (T.setTop (mkF m pc Ls (.long x :: .int j :: .ref a :: st))) P := by
  have A' := A
  obtain ⟨cl, A, hs, hl, -⟩ := A
  obtain ⟨T', h', X', e', W', st'⟩ := stJ X hx hZ eT A (own_in hj hs hi) (g := mkF m pc Ls (.long x :: .int j :: .ref a :: st)) rfl rfl hd
  rw [(own_nat hj).1] at X' W'
  exact (k T' h' X' e' W' (A'.set W' rfl)).of st'
theorem g_castore (X : Stand p l e R s m args below meth c T locs cells slots) (hx : p.tables.exec = Jvm.exec) (hZ : Z.Warmed39 s.vm) (eT : T.heap = h) (A : Ar Z h a .char vs) {j x : Int32} (i : Nat) (hj : j.toInt = i) (hi : i < vs.length) (x' : Int32) (hn : nar .char x = x') (hd : decode c.code pc = .ok (.castore, 1))
    (k : ∀ T' h', Stand p l e R s m args below meth c T' (locs ++ [⟨a, i⟩]) cells slots → T'.heap = h' → Wr h h' a i (.int x') → Ar Z h' a .char (vs.set i (.int x')) → Goes p.tables e below (T'.setTop (mkF m (pc + 1) Ls st)) P) : Goes p.tables e below (T.setTop (mkF m pc Ls (.int x :: .int j :: .ref a :: st))) P := by
  have A' := A
  obtain ⟨cl, A, hs, hl, -⟩ := A
  obtain ⟨T', h', X', e', W', st'⟩ := stC X hx hZ eT A (own_in hj hs hi) (g := mkF m pc Ls (.int x :: .int j :: .ref a :: st)) rfl rfl hd
  rw [(own_nat hj).1, hn] at W'
  rw [(own_nat hj).1] at X'
  exact (k T' h' X' e' W' (A'.set W' (by rw [← hn]; exact fits_nar_char x))).of st'
theorem g_bastore (X : Stand p l e R s m args below meth c T locs cells slots) (hx : p.tables.exec = Jvm.exec) (hZ : Z.Warmed39 s.vm) (eT : T.heap = h) (A : Ar Z h a .byte vs) {j x : Int32} (i : Nat) (hj : j.toInt = i) (hi : i < vs.length) (x' : Int32) (hn : nar .byte x = x') (hd : decode c.code pc = .ok (.bastore, 1))
    (k : ∀ T' h', Stand p l e R s m args below meth c T' (locs ++ [⟨a, i⟩]) cells slots → T'.heap = h' → Wr h h' a i (.int x') → Ar Z h' a .byte (vs.set i (.int x')) → Goes p.tables e below (T'.setTop (mkF m (pc + 1) Ls st)) P) : Goes p.tables e below (T.setTop (mkF m pc Ls (.int x :: .int j :: .ref a :: st))) P := by
  have A' := A
  obtain ⟨cl, A, hs, hl, -⟩ := A
  obtain ⟨T', h', X', e', W', st'⟩ := stB X hx hZ eT A (own_in hj hs hi) (g := mkF m pc Ls (.int x :: .int j :: .ref a :: st)) rfl rfl hd
  rw [(own_nat hj).1, hn] at W'
  rw [(own_nat hj).1] at X'
  exact (k T' h' X' e' W' (A'.set W' (by rw [← hn]; exact fits_nar_byte x))).of st'
theorem g_zastore (X : Stand p l e R s m args below meth c T locs cells slots) (hx : p.tables.exec = Jvm.exec) (hZ : Z.Warmed39 s.vm) (eT : T.heap = h) (A : Ar Z h a .boolean vs) {j x : Int32} (i : Nat) (hj : j.toInt = i) (hi : i < vs.length) (x' : Int32) (hn : nar .boolean x = x') (hd : decode c.code pc = .ok (.bastore, 1))
    (k : ∀ T' h', Stand p l e R s m args below meth c T' (locs ++ [⟨a, i⟩]) cells slots → T'.heap = h' → Wr h h' a i (.int x') → Ar Z h' a .boolean (vs.set i (.int x')) → Goes p.tables e below (T'.setTop (mkF m (pc + 1) Ls st)) P) : Goes p.tables e below (T.setTop (mkF m pc Ls (.int x :: .int j :: .ref a :: st))) P := by
  have A' := A
  obtain ⟨cl, A, hs, hl, -⟩ := A
  obtain ⟨T', h', X', e', W', st'⟩ := stZ X hx hZ eT A (own_in hj hs hi) (g := mkF m pc Ls (.int x :: .int j :: .ref a :: st)) rfl rfl hd
  rw [(own_nat hj).1, hn] at W'
  rw [(own_nat hj).1] at X'
  exact (k T' h' X' e' W' (A'.set W' (by rw [← hn]; exact fits_nar_bool x))).of st'
theorem g_clone (X : Stand p l e R s m args below meth c T locs cells slots) (hx : p.tables.exec = Jvm.exec) (hZ : Z.Warmed39 s.vm) {own ad : String} {index : Nat} (hown : s.vm.findClass own = some m.cls) (hml : Ls.size = c.maxLocals) (eT : T.heap = h)
    (w1 : (Jvm.Cond.methodLink own index ⟨ad, "clone", "()Ljava/lang/Object;"⟩).before a0 Z = true) (w2 : (Jvm.Cond.sameMethod ad "java/lang/Object" "clone" "()Ljava/lang/Object;").before a0 Z = true) (w3 : (Jvm.Cond.native ⟨"java/lang/Object", "clone", "()Ljava/lang/Object;"⟩).before a0 Z = true)
    (w4 : (Jvm.Cond.instanceMethod ⟨"java/lang/Object", "clone", "()Ljava/lang/Object;"⟩).before a0 Z = true) (w5 : (Jvm.Cond.selects ad ⟨ad, "clone", "()Ljava/lang/Object;"⟩ ⟨"java/lang/Object", "clone", "()Ljava/lang/Object;"⟩).before a0 Z = true) (w6 : (Jvm.Cond.castable ad "java/lang/Cloneable").before a0 Z = true)
    (A : Ar Z h a ty vs) (E : Exa Z h a ad) (hd : decode c.code pc = .ok (.invokevirtual index, 3)) (W cap : Nat) (hf : 1 ≤ R.frames) (hW : (st.map fun v => v.category).sum ≤ W) (hl : W + 14 ≤ R.locals) (hcap : vs.length ≤ cap) (hc : cells + 1 ≤ R.cells) (hsl : slots + cap ≤ R.slots)
    (k : ∀ T' h' b, b = h.size → Stand p l e R s m args below meth c T' locs (cells + 1) (slots + cap) → T'.heap = h' → Ext h h' → Ar Z h' b ty vs → Exa Z h' b ad → Goes p.tables e below (T'.setTop (mkF m (pc + 3) Ls (.ref b :: st))) P) :
    Goes p.tables e below (T.setTop (mkF m pc Ls (.ref a :: st))) P := by
  obtain ⟨cl, A, hs, hln, hft⟩ := A
  have hsz : cl.slots.size = vs.length := by rw [← hs, Array.length_toList]
  obtain ⟨T', h', X', e', Ex, A', E', st'⟩ := cloneA X hx hZ hown w1 w2 w3 w4 w5 w6 eT A E (fitC_of A (fun i hi v hv => hft v (by rw [← hs]; exact Array.mem_toList_iff.mpr (Array.mem_of_getElem? hv)))) (g := mkF m pc Ls (.ref a :: st)) rfl hml rfl hd hf (W := W) (cap := cap) (by show 2 * 0 + _ ≤ _; omega) hl (by rw [hsz]; exact hcap) hc hsl
  exact (k T' h' _ rfl X' e' Ex ⟨_, A', hs, hln, hft⟩ E').of st'
theorem g_cast (X : Stand p l e R s m args below meth c T locs cells slots) (hx : p.tables.exec = Jvm.exec) (hZ : Z.Warmed39 s.vm) {own K : String} {index : Nat} (hown : s.vm.findClass own = some m.cls) (eT : T.heap = h) (w : (Jvm.Cond.classLink own index K).before a0 Z = true) (F : Ins Z h a K true) (hd : decode c.code pc = .ok (.checkcast index, 3))
    (k : ∀ T', Stand p l e R s m args below meth c T' locs cells slots → T'.heap = h → Goes p.tables e below (T'.setTop (mkF m (pc + 3) Ls (.ref a :: st))) P) : Goes p.tables e below (T.setTop (mkF m pc Ls (.ref a :: st))) P := by
  obtain ⟨T', X', e', st'⟩ := castY X hx hZ hown w eT F (g := mkF m pc Ls (.ref a :: st)) rfl rfl hd
  exact (k T' X' e').of st'
theorem Ar.toV (F : Ar Z h a ty vs) (d : Value) : ∃ k, Arv Z h a k ty (Int32.ofNat vs.length) vs d := by
  obtain ⟨cl, A, hs, hl, hf⟩ := F
  have e1 : cl.slots.size = vs.length := by rw [← hs, Array.length_toList]
  obtain ⟨e2, q⟩ := own_nat (j := Int32.ofNat vs.length) (i := vs.length) (Int32.toInt_ofNat_of_lt (by omega))
  refine ⟨cl.cls, cl, A, rfl, by rw [e2, e1], q, fun i hi => ?_, fun i hi => ?_⟩
  · rw [← Array.getElem?_toList, hs, List.getD_eq_getElem?_getD, List.getElem?_eq_getElem (by omega)]; rfl
  · rw [List.getD_eq_getElem?_getD, List.getElem?_eq_getElem (by omega)]; exact hf _ (List.getElem_mem _)
theorem Ar.ofV {k : ClassId} {z : Int32} {d : Value} (F : Arv Z h a k ty z vs d) (hl : vs.length = z.toNatClampNeg) (hb : vs.length < 2 ^ 31) : Ar Z h a ty vs := by
  obtain ⟨cl, A, -, hs, -, H, G⟩ := F
  have e : cl.slots.toList = vs := by
    apply List.ext_getElem?
    intro i
    by_cases hi : i < cl.slots.size
    · rw [Array.getElem?_toList, H i hi, List.getD_eq_getElem?_getD, List.getElem?_eq_getElem (by omega)]; rfl
    · rw [List.getElem?_eq_none (by rw [Array.length_toList]; omega), List.getElem?_eq_none (by omega)]
  refine ⟨cl, A, e, hb, fun v hv => ?_⟩
  obtain ⟨i, hi, rfl⟩ := List.getElem_of_mem hv
  have q := G i (by omega)
  rwa [List.getD_eq_getElem?_getD, List.getElem?_eq_getElem hi] at q
theorem own_rangeTake (vs : List Value) (d : Value) (n : Nat) (hn : n ≤ vs.length) : (List.range n).map (fun i => vs.getD (0 + i) d) = vs.take n := by
  apply List.ext_getElem
  · simp; omega
  · intro i h1 h2
    simp at h1 h2
    simp [List.getElem?_eq_getElem (show i < vs.length by omega)]
theorem g_acopy (X : Stand p l e R s m args below meth c T locs cells slots) (hx : p.tables.exec = Jvm.exec) (hZ : Z.Warmed39 s.vm) {own : String} {index : Nat} (hown : s.vm.findClass own = some m.cls) (hml : Ls.size = c.maxLocals) (eT : T.heap = h)
    (w1 : (Jvm.Cond.methodLink own index Jvm.Stand.acN).before a0 Z = true) (w2 : (Jvm.Cond.native Jvm.Stand.acN).before a0 Z = true) (w3 : (Jvm.Cond.static Jvm.Stand.acN).before a0 Z = true) (w4 : (Jvm.Cond.initialized "java/lang/System").before a0 Z = true)
    {vd : List Value} (A : Ar Z h a ty vs) (B : Ar Z h b ty vd) (hp : refKind ty = false) {nn : Int32} {n : Nat} (hn : nn.toInt = n) (h1 : n ≤ vs.length) (h2 : n ≤ vd.length) {n0 : Nat} (N : Fr n0 locs) (ge : n0 ≤ b) (hd : decode c.code pc = .ok (.invokestatic index, 3))
    (W : Nat) (hf : 1 ≤ R.frames) (hW : (st.map fun v => v.category).sum ≤ W) (hlo : W + (nativeFrameWords "java/lang/System" "arraycopy" 5 + 11) ≤ R.locals)
    (k : ∀ T' h' L, Stand p l e R s m args below meth c T' L cells slots → T'.heap = h' → Fr n0 L → Keep h h' [b] → Ar Z h' b ty (vs.take n ++ vd.drop n) → Goes p.tables e below (T'.setTop (mkF m (pc + 3) Ls st)) P) :
    Goes p.tables e below (T.setTop (mkF m pc Ls (.int nn :: .int 0 :: .ref b :: .int 0 :: .ref a :: st))) P := by
  obtain ⟨k1, A1⟩ := A.toV .null
  obtain ⟨k2, B1⟩ := B.toV .null
  obtain ⟨en, qn⟩ := own_nat hn
  have lv : vs.length < 2 ^ 31 := by obtain ⟨_, _, _, q, _⟩ := A; exact q
  have ld : vd.length < 2 ^ 31 := by obtain ⟨_, _, _, q, _⟩ := B; exact q
  have ev : (Int32.ofNat vs.length).toNatClampNeg = vs.length := (own_nat (Int32.toInt_ofNat_of_lt (by omega))).1
  have ed : (Int32.ofNat vd.length).toNatClampNeg = vd.length := (own_nat (Int32.toInt_ofNat_of_lt (by omega))).1
  have e0 : (0 : Int32).toNatClampNeg = 0 := rfl
  obtain ⟨T', h', L, X', e', N', K', B', st'⟩ := cpA X hx hZ hown w1 w2 w3 w4 eT A1 B1 (sp := 0) (dp := 0) (nn := nn) (Or.inl ⟨rfl, hp⟩) (by decide) (by decide) qn (by rw [e0, en, ev]; omega) (by rw [e0, en, ed]; omega) rfl (by rw [e0, en]; omega) N ge (g := mkF m pc Ls (.int nn :: .int 0 :: .ref b :: .int 0 :: .ref a :: st)) rfl hml rfl hd hf (W := W) (by show 2 * 0 + _ ≤ _; omega) hlo
  rw [e0, en, own_rangeTake vs _ n h1, List.take_zero, List.nil_append, Nat.zero_add] at B'
  have hlen : (vs.take n ++ vd.drop n).length = vd.length := by rw [List.length_append, List.length_take, List.length_drop]; omega
  exact (k T' h' L X' e' N' K' (Ar.ofV B' (by rw [hlen, ed]) (by rw [hlen]; exact ld))).of st'
end Arrays
theorem own_nst {a : Addr} {K : String} (E : Exa Z h a K) : ∀ c : Cell, h[a]? = some c → c.vm.isStatics = false := fun c hc => by
  obtain ⟨cell, k, h1, -, -, h4, -⟩ := E
  cases h1.symm.trans hc
  exact h4
theorem own_stakeep {h' : Heap} {K n d : String} {v : Value} {ws : List Addr} (F : Sta Z h K n d v) (hK : Keep h h' ws) (q : ∀ x ∈ ws, ∀ c : Cell, h[x]? = some c → c.vm.isStatics = false) : Sta Z h' K n d v := by
  obtain ⟨cf, i, k, f, sa, cell, h1, h2, h3, h4, h5, h6, h7⟩ := F
  exact ⟨cf, i, k, f, sa, cell, h1, h2, h3, h4, hK.2.1 sa cell h5 (fun hm => by rw [q sa hm cell h5] at h6; cases h6), h6, h7⟩
/-! words on statics -/
section Words
variable {first : State} {o : Option Outcome} {idx : List Nat} {ta tb : Term}
theorem own_eqR {y : Addr} (h : (Jvm.Cond.eq ta tb).value args first o s idx = some true) (hb : tb.eval args first o idx s = some (.ref y)) : ta.eval args first o idx s = some (.ref y) := by
  obtain ⟨x, z, ha, hb', k1, k2⟩ := cmp_v (Or.inl h)
  cases hb.symm.trans hb'
  have e := gotT (eq_R ha hb k2.2 rfl) h
  rw [ha, e]
theorem own_eqI {y : Int32} (h : (Jvm.Cond.eq ta tb).value args first o s idx = some true) (hb : tb.eval args first o idx s = some (.int y)) : ta.eval args first o idx s = some (.int y) := by
  obtain ⟨x, z, ha, hb', k1, k2⟩ := cmp_v (Or.inl h)
  cases hb.symm.trans hb'
  obtain ⟨w, rfl⟩ := k2
  simp [Jvm.Cond.value, ha, hb] at h
  rw [ha, h]
end Words
end Walk
end Jvm.OwnW
namespace Jvm.Pilot.@@N@@
open Jvm Jvm.ClassFile Sem Op Lib Jvm.Free Jvm.Stand Jvm.LawKit Jvm.RoadKit Bundle Jvm.OwnW Jvm.Pilot.@@N@@.Jvm.D
def bL (n : Int32) (x0 x1 x2 x3 x4 : Int64) : List Int64 := if n = 0 then [] else if n = (1 : Int32) then [x0] else if n = (2 : Int32) then [x0, x1] else if n = (3 : Int32) then [x0, x1, x2] else if n = (4 : Int32) then [x0, x1, x2, x3] else [x0, x1, x2, x3, x4]
def ordL : List Int64 → Bool
  | [] => true
  | [_] => true
  | x :: y :: r => !decide (y < x) && ordL (y :: r)
def ordV (xs : List Int64) : Int32 := if ordL xs = true then 1 else 0
theorem own_ordStep (xs : List Int64) (j : Nat) (x y : Int64) (hx : xs[j]? = some x) (hy : xs[j + 1]? = some y) : ordL (xs.drop j) = (!decide (y < x) && ordL (xs.drop (j + 1))) := by
  obtain ⟨hj, ex⟩ := List.getElem?_eq_some_iff.mp hx
  obtain ⟨hj', ey⟩ := List.getElem?_eq_some_iff.mp hy
  rw [List.drop_eq_getElem_cons hj, List.drop_eq_getElem_cons hj', ex, ey]
  rfl
theorem own_ordEnd (xs : List Int64) (j : Nat) (h : xs.length ≤ j + 1) : ordL (xs.drop j) = true := by
  have l : (xs.drop j).length ≤ 1 := by rw [List.length_drop]; omega
  match xs.drop j, l with
  | [], _ => rfl
  | [_], _ => rfl
theorem own_m1 {i : Int32} {j : Nat} (h : i.toInt = (j + 1 : Nat)) : (i - 1).toInt = j := by
  have a := c_isub i 1
  have k : (1 : Int32).toInt = 1 := by decide
  have r := rng32 i
  have r2 := rng32 (i - 1)
  rw [k] at a
  omega
theorem own_p1 {i : Int32} {j : Nat} (h : i.toInt = (j : Nat)) (hj : j + 1 < 2 ^ 31) : (i + 1).toInt = (j + 1 : Nat) := by
  have a := c_iadd i 1
  have k : (1 : Int32).toInt = 1 := by decide
  have r := rng32 i
  have r2 := rng32 (i + 1)
  rw [k] at a
  omega
theorem d1_0 : decode method_3_code 0 = .ok (.iload_n 0, 1) := by decide +kernel
theorem d1_1 : decode method_3_code 1 = .ok (.ifCond .ne 7, 3) := by decide +kernel
theorem d1_4 : decode method_3_code 4 = .ok (.iconst 0, 1) := by decide +kernel
theorem d1_5 : decode method_3_code 5 = .ok (.newarray .long, 2) := by decide +kernel
theorem d1_7 : decode method_3_code 7 = .ok (.areturn, 1) := by decide +kernel
theorem d1_8 : decode method_3_code 8 = .ok (.iload_n 0, 1) := by decide +kernel
theorem d1_9 : decode method_3_code 9 = .ok (.iconst 1, 1) := by decide +kernel
theorem d1_10 : decode method_3_code 10 = .ok (.if_icmp .ne 11, 3) := by decide +kernel
theorem d1_13 : decode method_3_code 13 = .ok (.iconst 1, 1) := by decide +kernel
theorem d1_14 : decode method_3_code 14 = .ok (.newarray .long, 2) := by decide +kernel
theorem d1_16 : decode method_3_code 16 = .ok (.dup, 1) := by decide +kernel
theorem d1_17 : decode method_3_code 17 = .ok (.iconst 0, 1) := by decide +kernel
theorem d1_18 : decode method_3_code 18 = .ok (.lload_n 1, 1) := by decide +kernel
theorem d1_19 : decode method_3_code 19 = .ok (.lastore, 1) := by decide +kernel
theorem d1_20 : decode method_3_code 20 = .ok (.areturn, 1) := by decide +kernel
theorem d1_21 : decode method_3_code 21 = .ok (.iload_n 0, 1) := by decide +kernel
theorem d1_22 : decode method_3_code 22 = .ok (.iconst 2, 1) := by decide +kernel
theorem d1_23 : decode method_3_code 23 = .ok (.if_icmp .ne 15, 3) := by decide +kernel
theorem d1_26 : decode method_3_code 26 = .ok (.iconst 2, 1) := by decide +kernel
theorem d1_27 : decode method_3_code 27 = .ok (.newarray .long, 2) := by decide +kernel
theorem d1_29 : decode method_3_code 29 = .ok (.dup, 1) := by decide +kernel
theorem d1_30 : decode method_3_code 30 = .ok (.iconst 0, 1) := by decide +kernel
theorem d1_31 : decode method_3_code 31 = .ok (.lload_n 1, 1) := by decide +kernel
theorem d1_32 : decode method_3_code 32 = .ok (.lastore, 1) := by decide +kernel
theorem d1_33 : decode method_3_code 33 = .ok (.dup, 1) := by decide +kernel
theorem d1_34 : decode method_3_code 34 = .ok (.iconst 1, 1) := by decide +kernel
theorem d1_35 : decode method_3_code 35 = .ok (.lload_n 3, 1) := by decide +kernel
theorem d1_36 : decode method_3_code 36 = .ok (.lastore, 1) := by decide +kernel
theorem d1_37 : decode method_3_code 37 = .ok (.areturn, 1) := by decide +kernel
theorem d1_38 : decode method_3_code 38 = .ok (.iload_n 0, 1) := by decide +kernel
theorem d1_39 : decode method_3_code 39 = .ok (.iconst 3, 1) := by decide +kernel
theorem d1_40 : decode method_3_code 40 = .ok (.if_icmp .ne 20, 3) := by decide +kernel
theorem d1_43 : decode method_3_code 43 = .ok (.iconst 3, 1) := by decide +kernel
theorem d1_44 : decode method_3_code 44 = .ok (.newarray .long, 2) := by decide +kernel
theorem d1_46 : decode method_3_code 46 = .ok (.dup, 1) := by decide +kernel
theorem d1_47 : decode method_3_code 47 = .ok (.iconst 0, 1) := by decide +kernel
theorem d1_48 : decode method_3_code 48 = .ok (.lload_n 1, 1) := by decide +kernel
theorem d1_49 : decode method_3_code 49 = .ok (.lastore, 1) := by decide +kernel
theorem d1_50 : decode method_3_code 50 = .ok (.dup, 1) := by decide +kernel
theorem d1_51 : decode method_3_code 51 = .ok (.iconst 1, 1) := by decide +kernel
theorem d1_52 : decode method_3_code 52 = .ok (.lload_n 3, 1) := by decide +kernel
theorem d1_53 : decode method_3_code 53 = .ok (.lastore, 1) := by decide +kernel
theorem d1_54 : decode method_3_code 54 = .ok (.dup, 1) := by decide +kernel
theorem d1_55 : decode method_3_code 55 = .ok (.iconst 2, 1) := by decide +kernel
theorem d1_56 : decode method_3_code 56 = .ok (.lload 5, 2) := by decide +kernel
theorem d1_58 : decode method_3_code 58 = .ok (.lastore, 1) := by decide +kernel
theorem d1_59 : decode method_3_code 59 = .ok (.areturn, 1) := by decide +kernel
theorem d1_60 : decode method_3_code 60 = .ok (.iload_n 0, 1) := by decide +kernel
theorem d1_61 : decode method_3_code 61 = .ok (.iconst 4, 1) := by decide +kernel
theorem d1_62 : decode method_3_code 62 = .ok (.if_icmp .ne 25, 3) := by decide +kernel
theorem d1_65 : decode method_3_code 65 = .ok (.iconst 4, 1) := by decide +kernel
theorem d1_66 : decode method_3_code 66 = .ok (.newarray .long, 2) := by decide +kernel
theorem d1_68 : decode method_3_code 68 = .ok (.dup, 1) := by decide +kernel
theorem d1_69 : decode method_3_code 69 = .ok (.iconst 0, 1) := by decide +kernel
theorem d1_70 : decode method_3_code 70 = .ok (.lload_n 1, 1) := by decide +kernel
theorem d1_71 : decode method_3_code 71 = .ok (.lastore, 1) := by decide +kernel
theorem d1_72 : decode method_3_code 72 = .ok (.dup, 1) := by decide +kernel
theorem d1_73 : decode method_3_code 73 = .ok (.iconst 1, 1) := by decide +kernel
theorem d1_74 : decode method_3_code 74 = .ok (.lload_n 3, 1) := by decide +kernel
theorem d1_75 : decode method_3_code 75 = .ok (.lastore, 1) := by decide +kernel
theorem d1_76 : decode method_3_code 76 = .ok (.dup, 1) := by decide +kernel
theorem d1_77 : decode method_3_code 77 = .ok (.iconst 2, 1) := by decide +kernel
theorem d1_78 : decode method_3_code 78 = .ok (.lload 5, 2) := by decide +kernel
theorem d1_80 : decode method_3_code 80 = .ok (.lastore, 1) := by decide +kernel
theorem d1_81 : decode method_3_code 81 = .ok (.dup, 1) := by decide +kernel
theorem d1_82 : decode method_3_code 82 = .ok (.iconst 3, 1) := by decide +kernel
theorem d1_83 : decode method_3_code 83 = .ok (.lload 7, 2) := by decide +kernel
theorem d1_85 : decode method_3_code 85 = .ok (.lastore, 1) := by decide +kernel
theorem d1_86 : decode method_3_code 86 = .ok (.areturn, 1) := by decide +kernel
theorem d1_87 : decode method_3_code 87 = .ok (.iconst 5, 1) := by decide +kernel
theorem d1_88 : decode method_3_code 88 = .ok (.newarray .long, 2) := by decide +kernel
theorem d1_90 : decode method_3_code 90 = .ok (.dup, 1) := by decide +kernel
theorem d1_91 : decode method_3_code 91 = .ok (.iconst 0, 1) := by decide +kernel
theorem d1_92 : decode method_3_code 92 = .ok (.lload_n 1, 1) := by decide +kernel
theorem d1_93 : decode method_3_code 93 = .ok (.lastore, 1) := by decide +kernel
theorem d1_94 : decode method_3_code 94 = .ok (.dup, 1) := by decide +kernel
theorem d1_95 : decode method_3_code 95 = .ok (.iconst 1, 1) := by decide +kernel
theorem d1_96 : decode method_3_code 96 = .ok (.lload_n 3, 1) := by decide +kernel
theorem d1_97 : decode method_3_code 97 = .ok (.lastore, 1) := by decide +kernel
theorem d1_98 : decode method_3_code 98 = .ok (.dup, 1) := by decide +kernel
theorem d1_99 : decode method_3_code 99 = .ok (.iconst 2, 1) := by decide +kernel
theorem d1_100 : decode method_3_code 100 = .ok (.lload 5, 2) := by decide +kernel
theorem d1_102 : decode method_3_code 102 = .ok (.lastore, 1) := by decide +kernel
theorem d1_103 : decode method_3_code 103 = .ok (.dup, 1) := by decide +kernel
theorem d1_104 : decode method_3_code 104 = .ok (.iconst 3, 1) := by decide +kernel
theorem d1_105 : decode method_3_code 105 = .ok (.lload 7, 2) := by decide +kernel
theorem d1_107 : decode method_3_code 107 = .ok (.lastore, 1) := by decide +kernel
theorem d1_108 : decode method_3_code 108 = .ok (.dup, 1) := by decide +kernel
theorem d1_109 : decode method_3_code 109 = .ok (.iconst 4, 1) := by decide +kernel
theorem d1_110 : decode method_3_code 110 = .ok (.lload 9, 2) := by decide +kernel
theorem d1_112 : decode method_3_code 112 = .ok (.lastore, 1) := by decide +kernel
theorem d1_113 : decode method_3_code 113 = .ok (.areturn, 1) := by decide +kernel
theorem pd_1 : parseMethodDescriptor "(IJJJJJ)[J" = some ⟨[.int, .long, .long, .long, .long, .long], some (.array .long)⟩ := by decide +kernel
theorem ef_1 (m : MethodId) (p0 : Int32) (p1 : Int64) (p2 : Int64) (p3 : Int64) (p4 : Int64) (p5 : Int64) : entryFrame m #[(.int p0), (.long p1), (.long p2), (.long p3), (.long p4), (.long p5)] 11 = mkF m 0 #[.val (.int p0), .val (.long p1), .second, .val (.long p2), .second, .val (.long p3), .second, .val (.long p4), .second, .val (.long p5), .second] [] := by first | (simp [entryFrame, mkF, argsToLocals, Value.category]; done) | rfl
set_option maxRecDepth 65536 in
set_option maxHeartbeats 40000000 in
theorem rmB (l : Launch) (Z : State) (a0 : Array Value) (hw : ∀ d ∈ tables_1, d.before a0 Z = true) (p0 : Int32) (p1 : Int64) (p2 : Int64) (p3 : Int64) (p4 : Int64) (p5 : Int64) (h0 : Heap) (n0 : Nat) (Z0 : n0 ≤ h0.size) :
    Con l Z (⟨"com/example/drongo/drongo/event/RotaryEventInOrderPinLaw", "build", "(IJJJJJ)[J"⟩ : MethodName) method_3_code 11 (some (.array .long)) [] ({ frames := 0, cells := 1, slots := 5, locals := 0 } : Room) 1 5 #[(.int p0), (.long p1), (.long p2), (.long p3), (.long p4), (.long p5)] h0 (fun v h L => ∃ a, v = some (.ref a) ∧ n0 ≤ a ∧ Fr n0 L ∧ Keep h0 h [] ∧ Ar Z h a .long (List.map Value.long (bL p0 p1 p2 p3 p4 p5))) := by
  refine Con.body (plainFor_of_name (by first | (simp [plainName, overriddenIn]; done) | decide +kernel)) ?_
  intro p e s m below meth c T0 hx hby hml hown hnm hZ hret hk X0 e0
  refine Goes.cast (ef_1 m p0 p1 p2 p3 p4 p5) ?_
  have N0 := Fr.nil n0
  have K0 : Keep h0 h0 [] := Keep.refl _ _
  show Goes p.tables e below (T0.setTop (mkF m 0 #[.val (.int p0), .val (.long p1), .second, .val (.long p2), .second, .val (.long p3), .second, .val (.long p4), .second, .val (.long p5), .second] [])) _
  refine g_iloadN X0 hx (hb hby d1_0) rfl ?_
  show Goes p.tables e below (T0.setTop (mkF m 1 #[.val (.int p0), .val (.long p1), .second, .val (.long p2), .second, .val (.long p3), .second, .val (.long p4), .second, .val (.long p5), .second] [(.int p0)])) _
  refine g_if_ne X0 hx (hb hby d1_1) (by decide) (pc' := 8) (by decide) (fun c1 => ?_) (fun c1 => ?_)
  · skip
    show Goes p.tables e below (T0.setTop (mkF m 8 #[.val (.int p0), .val (.long p1), .second, .val (.long p2), .second, .val (.long p3), .second, .val (.long p4), .second, .val (.long p5), .second] [])) _
    refine g_iloadN X0 hx (hb hby d1_8) rfl ?_
    show Goes p.tables e below (T0.setTop (mkF m 9 #[.val (.int p0), .val (.long p1), .second, .val (.long p2), .second, .val (.long p3), .second, .val (.long p4), .second, .val (.long p5), .second] [(.int p0)])) _
    refine g_iconst X0 hx (1 : Int32) (hb hby d1_9) rfl ?_
    show Goes p.tables e below (T0.setTop (mkF m 10 #[.val (.int p0), .val (.long p1), .second, .val (.long p2), .second, .val (.long p3), .second, .val (.long p4), .second, .val (.long p5), .second] [(.int (1 : Int32)), (.int p0)])) _
    refine g_icmp_ne X0 hx (hb hby d1_10) (by decide) (pc' := 21) (by decide) (fun c10 => ?_) (fun c10 => ?_)
    · skip
      show Goes p.tables e below (T0.setTop (mkF m 21 #[.val (.int p0), .val (.long p1), .second, .val (.long p2), .second, .val (.long p3), .second, .val (.long p4), .second, .val (.long p5), .second] [])) _
      refine g_iloadN X0 hx (hb hby d1_21) rfl ?_
      show Goes p.tables e below (T0.setTop (mkF m 22 #[.val (.int p0), .val (.long p1), .second, .val (.long p2), .second, .val (.long p3), .second, .val (.long p4), .second, .val (.long p5), .second] [(.int p0)])) _
      refine g_iconst X0 hx (2 : Int32) (hb hby d1_22) rfl ?_
      show Goes p.tables e below (T0.setTop (mkF m 23 #[.val (.int p0), .val (.long p1), .second, .val (.long p2), .second, .val (.long p3), .second, .val (.long p4), .second, .val (.long p5), .second] [(.int (2 : Int32)), (.int p0)])) _
      refine g_icmp_ne X0 hx (hb hby d1_23) (by decide) (pc' := 38) (by decide) (fun c23 => ?_) (fun c23 => ?_)
      · skip
        show Goes p.tables e below (T0.setTop (mkF m 38 #[.val (.int p0), .val (.long p1), .second, .val (.long p2), .second, .val (.long p3), .second, .val (.long p4), .second, .val (.long p5), .second] [])) _
        refine g_iloadN X0 hx (hb hby d1_38) rfl ?_
        show Goes p.tables e below (T0.setTop (mkF m 39 #[.val (.int p0), .val (.long p1), .second, .val (.long p2), .second, .val (.long p3), .second, .val (.long p4), .second, .val (.long p5), .second] [(.int p0)])) _
        refine g_iconst X0 hx (3 : Int32) (hb hby d1_39) rfl ?_
        show Goes p.tables e below (T0.setTop (mkF m 40 #[.val (.int p0), .val (.long p1), .second, .val (.long p2), .second, .val (.long p3), .second, .val (.long p4), .second, .val (.long p5), .second] [(.int (3 : Int32)), (.int p0)])) _
        refine g_icmp_ne X0 hx (hb hby d1_40) (by decide) (pc' := 60) (by decide) (fun c40 => ?_) (fun c40 => ?_)
        · skip
          show Goes p.tables e below (T0.setTop (mkF m 60 #[.val (.int p0), .val (.long p1), .second, .val (.long p2), .second, .val (.long p3), .second, .val (.long p4), .second, .val (.long p5), .second] [])) _
          refine g_iloadN X0 hx (hb hby d1_60) rfl ?_
          show Goes p.tables e below (T0.setTop (mkF m 61 #[.val (.int p0), .val (.long p1), .second, .val (.long p2), .second, .val (.long p3), .second, .val (.long p4), .second, .val (.long p5), .second] [(.int p0)])) _
          refine g_iconst X0 hx (4 : Int32) (hb hby d1_61) rfl ?_
          show Goes p.tables e below (T0.setTop (mkF m 62 #[.val (.int p0), .val (.long p1), .second, .val (.long p2), .second, .val (.long p3), .second, .val (.long p4), .second, .val (.long p5), .second] [(.int (4 : Int32)), (.int p0)])) _
          refine g_icmp_ne X0 hx (hb hby d1_62) (by decide) (pc' := 87) (by decide) (fun c62 => ?_) (fun c62 => ?_)
          · skip
            show Goes p.tables e below (T0.setTop (mkF m 87 #[.val (.int p0), .val (.long p1), .second, .val (.long p2), .second, .val (.long p3), .second, .val (.long p4), .second, .val (.long p5), .second] [])) _
            refine g_iconst X0 hx (5 : Int32) (hb hby d1_87) rfl ?_
            show Goes p.tables e below (T0.setTop (mkF m 88 #[.val (.int p0), .val (.long p1), .second, .val (.long p2), .second, .val (.long p3), .second, .val (.long p4), .second, .val (.long p5), .second] [(.int (5 : Int32))])) _
            refine g_newarr X0 hx hZ e0 (hw _ (List.mem_of_getElem? (i := 4) rfl)) (hb hby d1_88) (n := 5) (by decide) 5 (by omega) (by decide) (by decide) (by decide) (ad := "[J") (by decide) rfl (fun T1 h1 a1 ga1 X1 e1 Ex1 Aa1 Ea1 => ?_)
            have ge2 : n0 ≤ a1 := by rw [ga1]; exact Z0
            have ge3 : h0.size ≤ a1 := by rw [ga1]; exact K0.1
            have Z4 : n0 ≤ h1.size := Nat.le_trans Z0 Ex1.1
            have K5 : Keep h0 h1 [] := Keep.ext K0 Ex1
            have f6 : Ar Z h1 a1 .long [(.long (0 : Int64)), (.long (0 : Int64)), (.long (0 : Int64)), (.long (0 : Int64)), (.long (0 : Int64))] := Aa1
            show Goes p.tables e below (T1.setTop (mkF m 90 #[.val (.int p0), .val (.long p1), .second, .val (.long p2), .second, .val (.long p3), .second, .val (.long p4), .second, .val (.long p5), .second] [(.ref a1)])) _
            refine g_dup X1 hx (hb hby d1_90) rfl ?_
            show Goes p.tables e below (T1.setTop (mkF m 91 #[.val (.int p0), .val (.long p1), .second, .val (.long p2), .second, .val (.long p3), .second, .val (.long p4), .second, .val (.long p5), .second] [(.ref a1), (.ref a1)])) _
            refine g_iconst X1 hx (0 : Int32) (hb hby d1_91) rfl ?_
            show Goes p.tables e below (T1.setTop (mkF m 92 #[.val (.int p0), .val (.long p1), .second, .val (.long p2), .second, .val (.long p3), .second, .val (.long p4), .second, .val (.long p5), .second] [(.int (0 : Int32)), (.ref a1), (.ref a1)])) _
            refine g_lloadN X1 hx (hb hby d1_92) rfl ?_
            show Goes p.tables e below (T1.setTop (mkF m 93 #[.val (.int p0), .val (.long p1), .second, .val (.long p2), .second, .val (.long p3), .second, .val (.long p4), .second, .val (.long p5), .second] [(.long p1), (.int (0 : Int32)), (.ref a1), (.ref a1)])) _
            refine g_lastore X1 hx hZ e1 f6 0 (by decide) (by show 0 < 5; decide) (hb hby d1_93) (fun T7 h7 X7 e7 W7 A7 => ?_)
            have f8 : Exa Z h7 a1 "[J" := Exa.wr W7 Ea1
            have f9 : Ar Z h7 a1 .long [(.long p1), (.long (0 : Int64)), (.long (0 : Int64)), (.long (0 : Int64)), (.long (0 : Int64))] := A7
            have N10 := Fr.snoc X7 N0 ge2
            have Z11 : n0 ≤ h7.size := by rw [W7.size]; exact Z4
            have K12 : Keep h0 h7 [] := Keep.wr K5 W7 (Or.inr ge3)
            show Goes p.tables e below (T7.setTop (mkF m 94 #[.val (.int p0), .val (.long p1), .second, .val (.long p2), .second, .val (.long p3), .second, .val (.long p4), .second, .val (.long p5), .second] [(.ref a1)])) _
            refine g_dup X7 hx (hb hby d1_94) rfl ?_
            show Goes p.tables e below (T7.setTop (mkF m 95 #[.val (.int p0), .val (.long p1), .second, .val (.long p2), .second, .val (.long p3), .second, .val (.long p4), .second, .val (.long p5), .second] [(.ref a1), (.ref a1)])) _
            refine g_iconst X7 hx (1 : Int32) (hb hby d1_95) rfl ?_
            show Goes p.tables e below (T7.setTop (mkF m 96 #[.val (.int p0), .val (.long p1), .second, .val (.long p2), .second, .val (.long p3), .second, .val (.long p4), .second, .val (.long p5), .second] [(.int (1 : Int32)), (.ref a1), (.ref a1)])) _
            refine g_lloadN X7 hx (hb hby d1_96) rfl ?_
            show Goes p.tables e below (T7.setTop (mkF m 97 #[.val (.int p0), .val (.long p1), .second, .val (.long p2), .second, .val (.long p3), .second, .val (.long p4), .second, .val (.long p5), .second] [(.long p2), (.int (1 : Int32)), (.ref a1), (.ref a1)])) _
            refine g_lastore X7 hx hZ e7 f9 1 (by decide) (by show 1 < 5; decide) (hb hby d1_97) (fun T13 h13 X13 e13 W13 A13 => ?_)
            have f14 : Exa Z h13 a1 "[J" := Exa.wr W13 f8
            have f15 : Ar Z h13 a1 .long [(.long p1), (.long p2), (.long (0 : Int64)), (.long (0 : Int64)), (.long (0 : Int64))] := A13
            have N16 := Fr.snoc X13 N10 ge2
            have Z17 : n0 ≤ h13.size := by rw [W13.size]; exact Z11
            have K18 : Keep h0 h13 [] := Keep.wr K12 W13 (Or.inr ge3)
            show Goes p.tables e below (T13.setTop (mkF m 98 #[.val (.int p0), .val (.long p1), .second, .val (.long p2), .second, .val (.long p3), .second, .val (.long p4), .second, .val (.long p5), .second] [(.ref a1)])) _
            refine g_dup X13 hx (hb hby d1_98) rfl ?_
            show Goes p.tables e below (T13.setTop (mkF m 99 #[.val (.int p0), .val (.long p1), .second, .val (.long p2), .second, .val (.long p3), .second, .val (.long p4), .second, .val (.long p5), .second] [(.ref a1), (.ref a1)])) _
            refine g_iconst X13 hx (2 : Int32) (hb hby d1_99) rfl ?_
            show Goes p.tables e below (T13.setTop (mkF m 100 #[.val (.int p0), .val (.long p1), .second, .val (.long p2), .second, .val (.long p3), .second, .val (.long p4), .second, .val (.long p5), .second] [(.int (2 : Int32)), (.ref a1), (.ref a1)])) _
            refine g_lload X13 hx (hb hby d1_100) rfl ?_
            show Goes p.tables e below (T13.setTop (mkF m 102 #[.val (.int p0), .val (.long p1), .second, .val (.long p2), .second, .val (.long p3), .second, .val (.long p4), .second, .val (.long p5), .second] [(.long p3), (.int (2 : Int32)), (.ref a1), (.ref a1)])) _
            refine g_lastore X13 hx hZ e13 f15 2 (by decide) (by show 2 < 5; decide) (hb hby d1_102) (fun T19 h19 X19 e19 W19 A19 => ?_)
            have f20 : Exa Z h19 a1 "[J" := Exa.wr W19 f14
            have f21 : Ar Z h19 a1 .long [(.long p1), (.long p2), (.long p3), (.long (0 : Int64)), (.long (0 : Int64))] := A19
            have N22 := Fr.snoc X19 N16 ge2
            have Z23 : n0 ≤ h19.size := by rw [W19.size]; exact Z17
            have K24 : Keep h0 h19 [] := Keep.wr K18 W19 (Or.inr ge3)
            show Goes p.tables e below (T19.setTop (mkF m 103 #[.val (.int p0), .val (.long p1), .second, .val (.long p2), .second, .val (.long p3), .second, .val (.long p4), .second, .val (.long p5), .second] [(.ref a1)])) _
            refine g_dup X19 hx (hb hby d1_103) rfl ?_
            show Goes p.tables e below (T19.setTop (mkF m 104 #[.val (.int p0), .val (.long p1), .second, .val (.long p2), .second, .val (.long p3), .second, .val (.long p4), .second, .val (.long p5), .second] [(.ref a1), (.ref a1)])) _
            refine g_iconst X19 hx (3 : Int32) (hb hby d1_104) rfl ?_
            show Goes p.tables e below (T19.setTop (mkF m 105 #[.val (.int p0), .val (.long p1), .second, .val (.long p2), .second, .val (.long p3), .second, .val (.long p4), .second, .val (.long p5), .second] [(.int (3 : Int32)), (.ref a1), (.ref a1)])) _
            refine g_lload X19 hx (hb hby d1_105) rfl ?_
            show Goes p.tables e below (T19.setTop (mkF m 107 #[.val (.int p0), .val (.long p1), .second, .val (.long p2), .second, .val (.long p3), .second, .val (.long p4), .second, .val (.long p5), .second] [(.long p4), (.int (3 : Int32)), (.ref a1), (.ref a1)])) _
            refine g_lastore X19 hx hZ e19 f21 3 (by decide) (by show 3 < 5; decide) (hb hby d1_107) (fun T25 h25 X25 e25 W25 A25 => ?_)
            have f26 : Exa Z h25 a1 "[J" := Exa.wr W25 f20
            have f27 : Ar Z h25 a1 .long [(.long p1), (.long p2), (.long p3), (.long p4), (.long (0 : Int64))] := A25
            have N28 := Fr.snoc X25 N22 ge2
            have Z29 : n0 ≤ h25.size := by rw [W25.size]; exact Z23
            have K30 : Keep h0 h25 [] := Keep.wr K24 W25 (Or.inr ge3)
            show Goes p.tables e below (T25.setTop (mkF m 108 #[.val (.int p0), .val (.long p1), .second, .val (.long p2), .second, .val (.long p3), .second, .val (.long p4), .second, .val (.long p5), .second] [(.ref a1)])) _
            refine g_dup X25 hx (hb hby d1_108) rfl ?_
            show Goes p.tables e below (T25.setTop (mkF m 109 #[.val (.int p0), .val (.long p1), .second, .val (.long p2), .second, .val (.long p3), .second, .val (.long p4), .second, .val (.long p5), .second] [(.ref a1), (.ref a1)])) _
            refine g_iconst X25 hx (4 : Int32) (hb hby d1_109) rfl ?_
            show Goes p.tables e below (T25.setTop (mkF m 110 #[.val (.int p0), .val (.long p1), .second, .val (.long p2), .second, .val (.long p3), .second, .val (.long p4), .second, .val (.long p5), .second] [(.int (4 : Int32)), (.ref a1), (.ref a1)])) _
            refine g_lload X25 hx (hb hby d1_110) rfl ?_
            show Goes p.tables e below (T25.setTop (mkF m 112 #[.val (.int p0), .val (.long p1), .second, .val (.long p2), .second, .val (.long p3), .second, .val (.long p4), .second, .val (.long p5), .second] [(.long p5), (.int (4 : Int32)), (.ref a1), (.ref a1)])) _
            refine g_lastore X25 hx hZ e25 f27 4 (by decide) (by show 4 < 5; decide) (hb hby d1_112) (fun T31 h31 X31 e31 W31 A31 => ?_)
            have f32 : Exa Z h31 a1 "[J" := Exa.wr W31 f26
            have f33 : Ar Z h31 a1 .long [(.long p1), (.long p2), (.long p3), (.long p4), (.long p5)] := A31
            have N34 := Fr.snoc X31 N28 ge2
            have Z35 : n0 ≤ h31.size := by rw [W31.size]; exact Z29
            have K36 : Keep h0 h31 [] := Keep.wr K30 W31 (Or.inr ge3)
            show Goes p.tables e below (T31.setTop (mkF m 113 #[.val (.int p0), .val (.long p1), .second, .val (.long p2), .second, .val (.long p3), .second, .val (.long p4), .second, .val (.long p5), .second] [(.ref a1)])) _
            exact g_retA X31 hx hret hk rfl rfl (hb hby d1_113) (by decide) (by decide) (by rw [e31]; exact ⟨a1, rfl, ge2, N34, K36, by rw [bL, if_neg c1, if_neg c10, if_neg c23, if_neg c40, if_neg c62]; exact f33⟩)
          · skip
            show Goes p.tables e below (T0.setTop (mkF m 65 #[.val (.int p0), .val (.long p1), .second, .val (.long p2), .second, .val (.long p3), .second, .val (.long p4), .second, .val (.long p5), .second] [])) _
            refine g_iconst X0 hx (4 : Int32) (hb hby d1_65) rfl ?_
            show Goes p.tables e below (T0.setTop (mkF m 66 #[.val (.int p0), .val (.long p1), .second, .val (.long p2), .second, .val (.long p3), .second, .val (.long p4), .second, .val (.long p5), .second] [(.int (4 : Int32))])) _
            refine g_newarr X0 hx hZ e0 (hw _ (List.mem_of_getElem? (i := 4) rfl)) (hb hby d1_66) (n := 4) (by decide) 4 (by omega) (by decide) (by decide) (by decide) (ad := "[J") (by decide) rfl (fun T37 h37 a37 ga37 X37 e37 Ex37 Aa37 Ea37 => ?_)
            have ge38 : n0 ≤ a37 := by rw [ga37]; exact Z0
            have ge39 : h0.size ≤ a37 := by rw [ga37]; exact K0.1
            have Z40 : n0 ≤ h37.size := Nat.le_trans Z0 Ex37.1
            have K41 : Keep h0 h37 [] := Keep.ext K0 Ex37
            have f42 : Ar Z h37 a37 .long [(.long (0 : Int64)), (.long (0 : Int64)), (.long (0 : Int64)), (.long (0 : Int64))] := Aa37
            show Goes p.tables e below (T37.setTop (mkF m 68 #[.val (.int p0), .val (.long p1), .second, .val (.long p2), .second, .val (.long p3), .second, .val (.long p4), .second, .val (.long p5), .second] [(.ref a37)])) _
            refine g_dup X37 hx (hb hby d1_68) rfl ?_
            show Goes p.tables e below (T37.setTop (mkF m 69 #[.val (.int p0), .val (.long p1), .second, .val (.long p2), .second, .val (.long p3), .second, .val (.long p4), .second, .val (.long p5), .second] [(.ref a37), (.ref a37)])) _
            refine g_iconst X37 hx (0 : Int32) (hb hby d1_69) rfl ?_
            show Goes p.tables e below (T37.setTop (mkF m 70 #[.val (.int p0), .val (.long p1), .second, .val (.long p2), .second, .val (.long p3), .second, .val (.long p4), .second, .val (.long p5), .second] [(.int (0 : Int32)), (.ref a37), (.ref a37)])) _
            refine g_lloadN X37 hx (hb hby d1_70) rfl ?_
            show Goes p.tables e below (T37.setTop (mkF m 71 #[.val (.int p0), .val (.long p1), .second, .val (.long p2), .second, .val (.long p3), .second, .val (.long p4), .second, .val (.long p5), .second] [(.long p1), (.int (0 : Int32)), (.ref a37), (.ref a37)])) _
            refine g_lastore X37 hx hZ e37 f42 0 (by decide) (by show 0 < 4; decide) (hb hby d1_71) (fun T43 h43 X43 e43 W43 A43 => ?_)
            have f44 : Exa Z h43 a37 "[J" := Exa.wr W43 Ea37
            have f45 : Ar Z h43 a37 .long [(.long p1), (.long (0 : Int64)), (.long (0 : Int64)), (.long (0 : Int64))] := A43
            have N46 := Fr.snoc X43 N0 ge38
            have Z47 : n0 ≤ h43.size := by rw [W43.size]; exact Z40
            have K48 : Keep h0 h43 [] := Keep.wr K41 W43 (Or.inr ge39)
            show Goes p.tables e below (T43.setTop (mkF m 72 #[.val (.int p0), .val (.long p1), .second, .val (.long p2), .second, .val (.long p3), .second, .val (.long p4), .second, .val (.long p5), .second] [(.ref a37)])) _
            refine g_dup X43 hx (hb hby d1_72) rfl ?_
            show Goes p.tables e below (T43.setTop (mkF m 73 #[.val (.int p0), .val (.long p1), .second, .val (.long p2), .second, .val (.long p3), .second, .val (.long p4), .second, .val (.long p5), .second] [(.ref a37), (.ref a37)])) _
            refine g_iconst X43 hx (1 : Int32) (hb hby d1_73) rfl ?_
            show Goes p.tables e below (T43.setTop (mkF m 74 #[.val (.int p0), .val (.long p1), .second, .val (.long p2), .second, .val (.long p3), .second, .val (.long p4), .second, .val (.long p5), .second] [(.int (1 : Int32)), (.ref a37), (.ref a37)])) _
            refine g_lloadN X43 hx (hb hby d1_74) rfl ?_
            show Goes p.tables e below (T43.setTop (mkF m 75 #[.val (.int p0), .val (.long p1), .second, .val (.long p2), .second, .val (.long p3), .second, .val (.long p4), .second, .val (.long p5), .second] [(.long p2), (.int (1 : Int32)), (.ref a37), (.ref a37)])) _
            refine g_lastore X43 hx hZ e43 f45 1 (by decide) (by show 1 < 4; decide) (hb hby d1_75) (fun T49 h49 X49 e49 W49 A49 => ?_)
            have f50 : Exa Z h49 a37 "[J" := Exa.wr W49 f44
            have f51 : Ar Z h49 a37 .long [(.long p1), (.long p2), (.long (0 : Int64)), (.long (0 : Int64))] := A49
            have N52 := Fr.snoc X49 N46 ge38
            have Z53 : n0 ≤ h49.size := by rw [W49.size]; exact Z47
            have K54 : Keep h0 h49 [] := Keep.wr K48 W49 (Or.inr ge39)
            show Goes p.tables e below (T49.setTop (mkF m 76 #[.val (.int p0), .val (.long p1), .second, .val (.long p2), .second, .val (.long p3), .second, .val (.long p4), .second, .val (.long p5), .second] [(.ref a37)])) _
            refine g_dup X49 hx (hb hby d1_76) rfl ?_
            show Goes p.tables e below (T49.setTop (mkF m 77 #[.val (.int p0), .val (.long p1), .second, .val (.long p2), .second, .val (.long p3), .second, .val (.long p4), .second, .val (.long p5), .second] [(.ref a37), (.ref a37)])) _
            refine g_iconst X49 hx (2 : Int32) (hb hby d1_77) rfl ?_
            show Goes p.tables e below (T49.setTop (mkF m 78 #[.val (.int p0), .val (.long p1), .second, .val (.long p2), .second, .val (.long p3), .second, .val (.long p4), .second, .val (.long p5), .second] [(.int (2 : Int32)), (.ref a37), (.ref a37)])) _
            refine g_lload X49 hx (hb hby d1_78) rfl ?_
            show Goes p.tables e below (T49.setTop (mkF m 80 #[.val (.int p0), .val (.long p1), .second, .val (.long p2), .second, .val (.long p3), .second, .val (.long p4), .second, .val (.long p5), .second] [(.long p3), (.int (2 : Int32)), (.ref a37), (.ref a37)])) _
            refine g_lastore X49 hx hZ e49 f51 2 (by decide) (by show 2 < 4; decide) (hb hby d1_80) (fun T55 h55 X55 e55 W55 A55 => ?_)
            have f56 : Exa Z h55 a37 "[J" := Exa.wr W55 f50
            have f57 : Ar Z h55 a37 .long [(.long p1), (.long p2), (.long p3), (.long (0 : Int64))] := A55
            have N58 := Fr.snoc X55 N52 ge38
            have Z59 : n0 ≤ h55.size := by rw [W55.size]; exact Z53
            have K60 : Keep h0 h55 [] := Keep.wr K54 W55 (Or.inr ge39)
            show Goes p.tables e below (T55.setTop (mkF m 81 #[.val (.int p0), .val (.long p1), .second, .val (.long p2), .second, .val (.long p3), .second, .val (.long p4), .second, .val (.long p5), .second] [(.ref a37)])) _
            refine g_dup X55 hx (hb hby d1_81) rfl ?_
            show Goes p.tables e below (T55.setTop (mkF m 82 #[.val (.int p0), .val (.long p1), .second, .val (.long p2), .second, .val (.long p3), .second, .val (.long p4), .second, .val (.long p5), .second] [(.ref a37), (.ref a37)])) _
            refine g_iconst X55 hx (3 : Int32) (hb hby d1_82) rfl ?_
            show Goes p.tables e below (T55.setTop (mkF m 83 #[.val (.int p0), .val (.long p1), .second, .val (.long p2), .second, .val (.long p3), .second, .val (.long p4), .second, .val (.long p5), .second] [(.int (3 : Int32)), (.ref a37), (.ref a37)])) _
            refine g_lload X55 hx (hb hby d1_83) rfl ?_
            show Goes p.tables e below (T55.setTop (mkF m 85 #[.val (.int p0), .val (.long p1), .second, .val (.long p2), .second, .val (.long p3), .second, .val (.long p4), .second, .val (.long p5), .second] [(.long p4), (.int (3 : Int32)), (.ref a37), (.ref a37)])) _
            refine g_lastore X55 hx hZ e55 f57 3 (by decide) (by show 3 < 4; decide) (hb hby d1_85) (fun T61 h61 X61 e61 W61 A61 => ?_)
            have f62 : Exa Z h61 a37 "[J" := Exa.wr W61 f56
            have f63 : Ar Z h61 a37 .long [(.long p1), (.long p2), (.long p3), (.long p4)] := A61
            have N64 := Fr.snoc X61 N58 ge38
            have Z65 : n0 ≤ h61.size := by rw [W61.size]; exact Z59
            have K66 : Keep h0 h61 [] := Keep.wr K60 W61 (Or.inr ge39)
            show Goes p.tables e below (T61.setTop (mkF m 86 #[.val (.int p0), .val (.long p1), .second, .val (.long p2), .second, .val (.long p3), .second, .val (.long p4), .second, .val (.long p5), .second] [(.ref a37)])) _
            exact g_retA X61 hx hret hk rfl rfl (hb hby d1_86) (by decide) (by decide) (by rw [e61]; exact ⟨a37, rfl, ge38, N64, K66, by rw [bL, if_neg c1, if_neg c10, if_neg c23, if_neg c40, if_pos c62]; exact f63⟩)
        · skip
          show Goes p.tables e below (T0.setTop (mkF m 43 #[.val (.int p0), .val (.long p1), .second, .val (.long p2), .second, .val (.long p3), .second, .val (.long p4), .second, .val (.long p5), .second] [])) _
          refine g_iconst X0 hx (3 : Int32) (hb hby d1_43) rfl ?_
          show Goes p.tables e below (T0.setTop (mkF m 44 #[.val (.int p0), .val (.long p1), .second, .val (.long p2), .second, .val (.long p3), .second, .val (.long p4), .second, .val (.long p5), .second] [(.int (3 : Int32))])) _
          refine g_newarr X0 hx hZ e0 (hw _ (List.mem_of_getElem? (i := 4) rfl)) (hb hby d1_44) (n := 3) (by decide) 3 (by omega) (by decide) (by decide) (by decide) (ad := "[J") (by decide) rfl (fun T67 h67 a67 ga67 X67 e67 Ex67 Aa67 Ea67 => ?_)
          have ge68 : n0 ≤ a67 := by rw [ga67]; exact Z0
          have ge69 : h0.size ≤ a67 := by rw [ga67]; exact K0.1
          have Z70 : n0 ≤ h67.size := Nat.le_trans Z0 Ex67.1
          have K71 : Keep h0 h67 [] := Keep.ext K0 Ex67
          have f72 : Ar Z h67 a67 .long [(.long (0 : Int64)), (.long (0 : Int64)), (.long (0 : Int64))] := Aa67
          show Goes p.tables e below (T67.setTop (mkF m 46 #[.val (.int p0), .val (.long p1), .second, .val (.long p2), .second, .val (.long p3), .second, .val (.long p4), .second, .val (.long p5), .second] [(.ref a67)])) _
          refine g_dup X67 hx (hb hby d1_46) rfl ?_
          show Goes p.tables e below (T67.setTop (mkF m 47 #[.val (.int p0), .val (.long p1), .second, .val (.long p2), .second, .val (.long p3), .second, .val (.long p4), .second, .val (.long p5), .second] [(.ref a67), (.ref a67)])) _
          refine g_iconst X67 hx (0 : Int32) (hb hby d1_47) rfl ?_
          show Goes p.tables e below (T67.setTop (mkF m 48 #[.val (.int p0), .val (.long p1), .second, .val (.long p2), .second, .val (.long p3), .second, .val (.long p4), .second, .val (.long p5), .second] [(.int (0 : Int32)), (.ref a67), (.ref a67)])) _
          refine g_lloadN X67 hx (hb hby d1_48) rfl ?_
          show Goes p.tables e below (T67.setTop (mkF m 49 #[.val (.int p0), .val (.long p1), .second, .val (.long p2), .second, .val (.long p3), .second, .val (.long p4), .second, .val (.long p5), .second] [(.long p1), (.int (0 : Int32)), (.ref a67), (.ref a67)])) _
          refine g_lastore X67 hx hZ e67 f72 0 (by decide) (by show 0 < 3; decide) (hb hby d1_49) (fun T73 h73 X73 e73 W73 A73 => ?_)
          have f74 : Exa Z h73 a67 "[J" := Exa.wr W73 Ea67
          have f75 : Ar Z h73 a67 .long [(.long p1), (.long (0 : Int64)), (.long (0 : Int64))] := A73
          have N76 := Fr.snoc X73 N0 ge68
          have Z77 : n0 ≤ h73.size := by rw [W73.size]; exact Z70
          have K78 : Keep h0 h73 [] := Keep.wr K71 W73 (Or.inr ge69)
          show Goes p.tables e below (T73.setTop (mkF m 50 #[.val (.int p0), .val (.long p1), .second, .val (.long p2), .second, .val (.long p3), .second, .val (.long p4), .second, .val (.long p5), .second] [(.ref a67)])) _
          refine g_dup X73 hx (hb hby d1_50) rfl ?_
          show Goes p.tables e below (T73.setTop (mkF m 51 #[.val (.int p0), .val (.long p1), .second, .val (.long p2), .second, .val (.long p3), .second, .val (.long p4), .second, .val (.long p5), .second] [(.ref a67), (.ref a67)])) _
          refine g_iconst X73 hx (1 : Int32) (hb hby d1_51) rfl ?_
          show Goes p.tables e below (T73.setTop (mkF m 52 #[.val (.int p0), .val (.long p1), .second, .val (.long p2), .second, .val (.long p3), .second, .val (.long p4), .second, .val (.long p5), .second] [(.int (1 : Int32)), (.ref a67), (.ref a67)])) _
          refine g_lloadN X73 hx (hb hby d1_52) rfl ?_
          show Goes p.tables e below (T73.setTop (mkF m 53 #[.val (.int p0), .val (.long p1), .second, .val (.long p2), .second, .val (.long p3), .second, .val (.long p4), .second, .val (.long p5), .second] [(.long p2), (.int (1 : Int32)), (.ref a67), (.ref a67)])) _
          refine g_lastore X73 hx hZ e73 f75 1 (by decide) (by show 1 < 3; decide) (hb hby d1_53) (fun T79 h79 X79 e79 W79 A79 => ?_)
          have f80 : Exa Z h79 a67 "[J" := Exa.wr W79 f74
          have f81 : Ar Z h79 a67 .long [(.long p1), (.long p2), (.long (0 : Int64))] := A79
          have N82 := Fr.snoc X79 N76 ge68
          have Z83 : n0 ≤ h79.size := by rw [W79.size]; exact Z77
          have K84 : Keep h0 h79 [] := Keep.wr K78 W79 (Or.inr ge69)
          show Goes p.tables e below (T79.setTop (mkF m 54 #[.val (.int p0), .val (.long p1), .second, .val (.long p2), .second, .val (.long p3), .second, .val (.long p4), .second, .val (.long p5), .second] [(.ref a67)])) _
          refine g_dup X79 hx (hb hby d1_54) rfl ?_
          show Goes p.tables e below (T79.setTop (mkF m 55 #[.val (.int p0), .val (.long p1), .second, .val (.long p2), .second, .val (.long p3), .second, .val (.long p4), .second, .val (.long p5), .second] [(.ref a67), (.ref a67)])) _
          refine g_iconst X79 hx (2 : Int32) (hb hby d1_55) rfl ?_
          show Goes p.tables e below (T79.setTop (mkF m 56 #[.val (.int p0), .val (.long p1), .second, .val (.long p2), .second, .val (.long p3), .second, .val (.long p4), .second, .val (.long p5), .second] [(.int (2 : Int32)), (.ref a67), (.ref a67)])) _
          refine g_lload X79 hx (hb hby d1_56) rfl ?_
          show Goes p.tables e below (T79.setTop (mkF m 58 #[.val (.int p0), .val (.long p1), .second, .val (.long p2), .second, .val (.long p3), .second, .val (.long p4), .second, .val (.long p5), .second] [(.long p3), (.int (2 : Int32)), (.ref a67), (.ref a67)])) _
          refine g_lastore X79 hx hZ e79 f81 2 (by decide) (by show 2 < 3; decide) (hb hby d1_58) (fun T85 h85 X85 e85 W85 A85 => ?_)
          have f86 : Exa Z h85 a67 "[J" := Exa.wr W85 f80
          have f87 : Ar Z h85 a67 .long [(.long p1), (.long p2), (.long p3)] := A85
          have N88 := Fr.snoc X85 N82 ge68
          have Z89 : n0 ≤ h85.size := by rw [W85.size]; exact Z83
          have K90 : Keep h0 h85 [] := Keep.wr K84 W85 (Or.inr ge69)
          show Goes p.tables e below (T85.setTop (mkF m 59 #[.val (.int p0), .val (.long p1), .second, .val (.long p2), .second, .val (.long p3), .second, .val (.long p4), .second, .val (.long p5), .second] [(.ref a67)])) _
          exact g_retA X85 hx hret hk rfl rfl (hb hby d1_59) (by decide) (by decide) (by rw [e85]; exact ⟨a67, rfl, ge68, N88, K90, by rw [bL, if_neg c1, if_neg c10, if_neg c23, if_pos c40]; exact f87⟩)
      · skip
        show Goes p.tables e below (T0.setTop (mkF m 26 #[.val (.int p0), .val (.long p1), .second, .val (.long p2), .second, .val (.long p3), .second, .val (.long p4), .second, .val (.long p5), .second] [])) _
        refine g_iconst X0 hx (2 : Int32) (hb hby d1_26) rfl ?_
        show Goes p.tables e below (T0.setTop (mkF m 27 #[.val (.int p0), .val (.long p1), .second, .val (.long p2), .second, .val (.long p3), .second, .val (.long p4), .second, .val (.long p5), .second] [(.int (2 : Int32))])) _
        refine g_newarr X0 hx hZ e0 (hw _ (List.mem_of_getElem? (i := 4) rfl)) (hb hby d1_27) (n := 2) (by decide) 2 (by omega) (by decide) (by decide) (by decide) (ad := "[J") (by decide) rfl (fun T91 h91 a91 ga91 X91 e91 Ex91 Aa91 Ea91 => ?_)
        have ge92 : n0 ≤ a91 := by rw [ga91]; exact Z0
        have ge93 : h0.size ≤ a91 := by rw [ga91]; exact K0.1
        have Z94 : n0 ≤ h91.size := Nat.le_trans Z0 Ex91.1
        have K95 : Keep h0 h91 [] := Keep.ext K0 Ex91
        have f96 : Ar Z h91 a91 .long [(.long (0 : Int64)), (.long (0 : Int64))] := Aa91
        show Goes p.tables e below (T91.setTop (mkF m 29 #[.val (.int p0), .val (.long p1), .second, .val (.long p2), .second, .val (.long p3), .second, .val (.long p4), .second, .val (.long p5), .second] [(.ref a91)])) _
        refine g_dup X91 hx (hb hby d1_29) rfl ?_
        show Goes p.tables e below (T91.setTop (mkF m 30 #[.val (.int p0), .val (.long p1), .second, .val (.long p2), .second, .val (.long p3), .second, .val (.long p4), .second, .val (.long p5), .second] [(.ref a91), (.ref a91)])) _
        refine g_iconst X91 hx (0 : Int32) (hb hby d1_30) rfl ?_
        show Goes p.tables e below (T91.setTop (mkF m 31 #[.val (.int p0), .val (.long p1), .second, .val (.long p2), .second, .val (.long p3), .second, .val (.long p4), .second, .val (.long p5), .second] [(.int (0 : Int32)), (.ref a91), (.ref a91)])) _
        refine g_lloadN X91 hx (hb hby d1_31) rfl ?_
        show Goes p.tables e below (T91.setTop (mkF m 32 #[.val (.int p0), .val (.long p1), .second, .val (.long p2), .second, .val (.long p3), .second, .val (.long p4), .second, .val (.long p5), .second] [(.long p1), (.int (0 : Int32)), (.ref a91), (.ref a91)])) _
        refine g_lastore X91 hx hZ e91 f96 0 (by decide) (by show 0 < 2; decide) (hb hby d1_32) (fun T97 h97 X97 e97 W97 A97 => ?_)
        have f98 : Exa Z h97 a91 "[J" := Exa.wr W97 Ea91
        have f99 : Ar Z h97 a91 .long [(.long p1), (.long (0 : Int64))] := A97
        have N100 := Fr.snoc X97 N0 ge92
        have Z101 : n0 ≤ h97.size := by rw [W97.size]; exact Z94
        have K102 : Keep h0 h97 [] := Keep.wr K95 W97 (Or.inr ge93)
        show Goes p.tables e below (T97.setTop (mkF m 33 #[.val (.int p0), .val (.long p1), .second, .val (.long p2), .second, .val (.long p3), .second, .val (.long p4), .second, .val (.long p5), .second] [(.ref a91)])) _
        refine g_dup X97 hx (hb hby d1_33) rfl ?_
        show Goes p.tables e below (T97.setTop (mkF m 34 #[.val (.int p0), .val (.long p1), .second, .val (.long p2), .second, .val (.long p3), .second, .val (.long p4), .second, .val (.long p5), .second] [(.ref a91), (.ref a91)])) _
        refine g_iconst X97 hx (1 : Int32) (hb hby d1_34) rfl ?_
        show Goes p.tables e below (T97.setTop (mkF m 35 #[.val (.int p0), .val (.long p1), .second, .val (.long p2), .second, .val (.long p3), .second, .val (.long p4), .second, .val (.long p5), .second] [(.int (1 : Int32)), (.ref a91), (.ref a91)])) _
        refine g_lloadN X97 hx (hb hby d1_35) rfl ?_
        show Goes p.tables e below (T97.setTop (mkF m 36 #[.val (.int p0), .val (.long p1), .second, .val (.long p2), .second, .val (.long p3), .second, .val (.long p4), .second, .val (.long p5), .second] [(.long p2), (.int (1 : Int32)), (.ref a91), (.ref a91)])) _
        refine g_lastore X97 hx hZ e97 f99 1 (by decide) (by show 1 < 2; decide) (hb hby d1_36) (fun T103 h103 X103 e103 W103 A103 => ?_)
        have f104 : Exa Z h103 a91 "[J" := Exa.wr W103 f98
        have f105 : Ar Z h103 a91 .long [(.long p1), (.long p2)] := A103
        have N106 := Fr.snoc X103 N100 ge92
        have Z107 : n0 ≤ h103.size := by rw [W103.size]; exact Z101
        have K108 : Keep h0 h103 [] := Keep.wr K102 W103 (Or.inr ge93)
        show Goes p.tables e below (T103.setTop (mkF m 37 #[.val (.int p0), .val (.long p1), .second, .val (.long p2), .second, .val (.long p3), .second, .val (.long p4), .second, .val (.long p5), .second] [(.ref a91)])) _
        exact g_retA X103 hx hret hk rfl rfl (hb hby d1_37) (by decide) (by decide) (by rw [e103]; exact ⟨a91, rfl, ge92, N106, K108, by rw [bL, if_neg c1, if_neg c10, if_pos c23]; exact f105⟩)
    · skip
      show Goes p.tables e below (T0.setTop (mkF m 13 #[.val (.int p0), .val (.long p1), .second, .val (.long p2), .second, .val (.long p3), .second, .val (.long p4), .second, .val (.long p5), .second] [])) _
      refine g_iconst X0 hx (1 : Int32) (hb hby d1_13) rfl ?_
      show Goes p.tables e below (T0.setTop (mkF m 14 #[.val (.int p0), .val (.long p1), .second, .val (.long p2), .second, .val (.long p3), .second, .val (.long p4), .second, .val (.long p5), .second] [(.int (1 : Int32))])) _
      refine g_newarr X0 hx hZ e0 (hw _ (List.mem_of_getElem? (i := 4) rfl)) (hb hby d1_14) (n := 1) (by decide) 1 (by omega) (by decide) (by decide) (by decide) (ad := "[J") (by decide) rfl (fun T109 h109 a109 ga109 X109 e109 Ex109 Aa109 Ea109 => ?_)
      have ge110 : n0 ≤ a109 := by rw [ga109]; exact Z0
      have ge111 : h0.size ≤ a109 := by rw [ga109]; exact K0.1
      have Z112 : n0 ≤ h109.size := Nat.le_trans Z0 Ex109.1
      have K113 : Keep h0 h109 [] := Keep.ext K0 Ex109
      have f114 : Ar Z h109 a109 .long [(.long (0 : Int64))] := Aa109
      show Goes p.tables e below (T109.setTop (mkF m 16 #[.val (.int p0), .val (.long p1), .second, .val (.long p2), .second, .val (.long p3), .second, .val (.long p4), .second, .val (.long p5), .second] [(.ref a109)])) _
      refine g_dup X109 hx (hb hby d1_16) rfl ?_
      show Goes p.tables e below (T109.setTop (mkF m 17 #[.val (.int p0), .val (.long p1), .second, .val (.long p2), .second, .val (.long p3), .second, .val (.long p4), .second, .val (.long p5), .second] [(.ref a109), (.ref a109)])) _
      refine g_iconst X109 hx (0 : Int32) (hb hby d1_17) rfl ?_
      show Goes p.tables e below (T109.setTop (mkF m 18 #[.val (.int p0), .val (.long p1), .second, .val (.long p2), .second, .val (.long p3), .second, .val (.long p4), .second, .val (.long p5), .second] [(.int (0 : Int32)), (.ref a109), (.ref a109)])) _
      refine g_lloadN X109 hx (hb hby d1_18) rfl ?_
      show Goes p.tables e below (T109.setTop (mkF m 19 #[.val (.int p0), .val (.long p1), .second, .val (.long p2), .second, .val (.long p3), .second, .val (.long p4), .second, .val (.long p5), .second] [(.long p1), (.int (0 : Int32)), (.ref a109), (.ref a109)])) _
      refine g_lastore X109 hx hZ e109 f114 0 (by decide) (by show 0 < 1; decide) (hb hby d1_19) (fun T115 h115 X115 e115 W115 A115 => ?_)
      have f116 : Exa Z h115 a109 "[J" := Exa.wr W115 Ea109
      have f117 : Ar Z h115 a109 .long [(.long p1)] := A115
      have N118 := Fr.snoc X115 N0 ge110
      have Z119 : n0 ≤ h115.size := by rw [W115.size]; exact Z112
      have K120 : Keep h0 h115 [] := Keep.wr K113 W115 (Or.inr ge111)
      show Goes p.tables e below (T115.setTop (mkF m 20 #[.val (.int p0), .val (.long p1), .second, .val (.long p2), .second, .val (.long p3), .second, .val (.long p4), .second, .val (.long p5), .second] [(.ref a109)])) _
      exact g_retA X115 hx hret hk rfl rfl (hb hby d1_20) (by decide) (by decide) (by rw [e115]; exact ⟨a109, rfl, ge110, N118, K120, by rw [bL, if_neg c1, if_pos c10]; exact f117⟩)
  · skip
    show Goes p.tables e below (T0.setTop (mkF m 4 #[.val (.int p0), .val (.long p1), .second, .val (.long p2), .second, .val (.long p3), .second, .val (.long p4), .second, .val (.long p5), .second] [])) _
    refine g_iconst X0 hx (0 : Int32) (hb hby d1_4) rfl ?_
    show Goes p.tables e below (T0.setTop (mkF m 5 #[.val (.int p0), .val (.long p1), .second, .val (.long p2), .second, .val (.long p3), .second, .val (.long p4), .second, .val (.long p5), .second] [(.int (0 : Int32))])) _
    refine g_newarr X0 hx hZ e0 (hw _ (List.mem_of_getElem? (i := 4) rfl)) (hb hby d1_5) (n := 0) (by decide) 0 (by omega) (by decide) (by decide) (by decide) (ad := "[J") (by decide) rfl (fun T121 h121 a121 ga121 X121 e121 Ex121 Aa121 Ea121 => ?_)
    have ge122 : n0 ≤ a121 := by rw [ga121]; exact Z0
    have ge123 : h0.size ≤ a121 := by rw [ga121]; exact K0.1
    have Z124 : n0 ≤ h121.size := Nat.le_trans Z0 Ex121.1
    have K125 : Keep h0 h121 [] := Keep.ext K0 Ex121
    have f126 : Ar Z h121 a121 .long [] := Aa121
    show Goes p.tables e below (T121.setTop (mkF m 7 #[.val (.int p0), .val (.long p1), .second, .val (.long p2), .second, .val (.long p3), .second, .val (.long p4), .second, .val (.long p5), .second] [(.ref a121)])) _
    exact g_retA X121 hx hret hk rfl rfl (hb hby d1_7) (by decide) (by decide) (by rw [e121]; exact ⟨a121, rfl, ge122, N0, K125, by rw [bL, if_pos c1]; exact f126⟩)
theorem d2_0 : decode prog_17_method_2_code 0 = .ok (.iconst 1, 1) := by decide +kernel
theorem d2_1 : decode prog_17_method_2_code 1 = .ok (.istore_n 1, 1) := by decide +kernel
theorem d2_2 : decode prog_17_method_2_code 2 = .ok (.iload_n 1, 1) := by decide +kernel
theorem d2_3 : decode prog_17_method_2_code 3 = .ok (.aload_n 0, 1) := by decide +kernel
theorem d2_4 : decode prog_17_method_2_code 4 = .ok (.arraylength, 1) := by decide +kernel
theorem d2_5 : decode prog_17_method_2_code 5 = .ok (.if_icmp .ge 23, 3) := by decide +kernel
theorem d2_8 : decode prog_17_method_2_code 8 = .ok (.aload_n 0, 1) := by decide +kernel
theorem d2_9 : decode prog_17_method_2_code 9 = .ok (.iload_n 1, 1) := by decide +kernel
theorem d2_10 : decode prog_17_method_2_code 10 = .ok (.laload, 1) := by decide +kernel
theorem d2_11 : decode prog_17_method_2_code 11 = .ok (.aload_n 0, 1) := by decide +kernel
theorem d2_12 : decode prog_17_method_2_code 12 = .ok (.iload_n 1, 1) := by decide +kernel
theorem d2_13 : decode prog_17_method_2_code 13 = .ok (.iconst 1, 1) := by decide +kernel
theorem d2_14 : decode prog_17_method_2_code 14 = .ok (.isub, 1) := by decide +kernel
theorem d2_15 : decode prog_17_method_2_code 15 = .ok (.laload, 1) := by decide +kernel
theorem d2_16 : decode prog_17_method_2_code 16 = .ok (.lcmp, 1) := by decide +kernel
theorem d2_17 : decode prog_17_method_2_code 17 = .ok (.ifCond .ge 5, 3) := by decide +kernel
theorem d2_20 : decode prog_17_method_2_code 20 = .ok (.iconst 0, 1) := by decide +kernel
theorem d2_21 : decode prog_17_method_2_code 21 = .ok (.ireturn, 1) := by decide +kernel
theorem d2_22 : decode prog_17_method_2_code 22 = .ok (.iinc 1 1, 3) := by decide +kernel
theorem d2_25 : decode prog_17_method_2_code 25 = .ok (.goto (-23), 3) := by decide +kernel
theorem d2_28 : decode prog_17_method_2_code 28 = .ok (.iconst 1, 1) := by decide +kernel
theorem d2_29 : decode prog_17_method_2_code 29 = .ok (.ireturn, 1) := by decide +kernel
theorem pd_2 : parseMethodDescriptor "([J)Z" = some ⟨[(.array .long)], some .boolean⟩ := by decide +kernel
theorem ef_2 (m : MethodId) (p0 : Addr) : entryFrame m #[(.ref p0)] 2 = mkF m 0 #[.val (.ref p0), .unset] [] := by first | (simp [entryFrame, mkF, argsToLocals, Value.category]; done) | rfl
set_option maxRecDepth 65536 in
set_option maxHeartbeats 40000000 in
theorem rmO (l : Launch) (Z : State) (a0 : Array Value) (hw : ∀ d ∈ tables_1, d.before a0 Z = true) (p0 : Addr) (h0 : Heap) (n0 : Nat) (xs : List Int64) (A0 : Ar Z h0 p0 .long (List.map Value.long xs)) :
    Con l Z (⟨"com/example/drongo/drongo/event/RotaryEvent", "inOrder", "([J)Z"⟩ : MethodName) prog_17_method_2_code 2 (some .boolean) [] ({ frames := 0, cells := 0, slots := 0, locals := 0 } : Room) 0 0 #[(.ref p0)] h0 (fun v h L => v = some (.int (ordV xs)) ∧ h = h0 ∧ L = []) := by
  refine Con.body (plainFor_of_name (by first | (simp [plainName, overriddenIn]; done) | decide +kernel)) ?_
  intro p e s m below meth c T0 hx hby hml hown hnm hZ hret hk X0 e0
  refine Goes.cast (ef_2 m p0) ?_
  show Goes p.tables e below (T0.setTop (mkF m 0 #[.val (.ref p0), .unset] [])) _
  refine g_iconst X0 hx (1 : Int32) (hb hby d2_0) rfl ?_
  show Goes p.tables e below (T0.setTop (mkF m 1 #[.val (.ref p0), .unset] [(.int (1 : Int32))])) _
  refine g_istoreN X0 hx (hb hby d2_1) (l' := #[.val (.ref p0), .val (.int (1 : Int32))]) rfl ?_
  have hlen : xs.length < 2 ^ 31 := by obtain ⟨_, _, _, q, _⟩ := A0; rwa [List.length_map] at q
  have hz : (Int32.ofNat xs.length).toInt = xs.length := Int32.toInt_ofNat_of_lt (by omega)
  have loop : ∀ n j : Nat, ∀ i : Int32, xs.length - j = n → i.toInt = (j + 1 : Nat) → ordL xs = ordL (xs.drop j) → Goes p.tables e below (T0.setTop (mkF m 2 #[.val (.ref p0), .val (.int i)] [])) (Fin s 0 0 (fun v h L => v = some (.int (ordV xs)) ∧ h = h0 ∧ L = [])) := by
    intro n
    induction n using Nat.strongRecOn with
    | _ n ih =>
      intro j i hn hi hinv
      show Goes p.tables e below (T0.setTop (mkF m 2 #[.val (.ref p0), .val (.int i)] [])) _
      refine g_iloadN X0 hx (hb hby d2_2) rfl ?_
      show Goes p.tables e below (T0.setTop (mkF m 3 #[.val (.ref p0), .val (.int i)] [(.int i)])) _
      refine g_aloadN X0 hx (hb hby d2_3) rfl rfl ?_
      show Goes p.tables e below (T0.setTop (mkF m 4 #[.val (.ref p0), .val (.int i)] [(.ref p0), (.int i)])) _
      refine g_alen X0 hx hZ e0 A0 (Int32.ofNat xs.length) (by rw [List.length_map]; exact hz) (hb hby d2_4) ?_
      show Goes p.tables e below (T0.setTop (mkF m 5 #[.val (.ref p0), .val (.int i)] [(.int (Int32.ofNat xs.length)), (.int i)])) _
      refine g_icmp_ge X0 hx (hb hby d2_5) (by decide) (pc' := 28) (by decide) (fun c5 => ?_) (fun c5 => ?_)
      · skip
        show Goes p.tables e below (T0.setTop (mkF m 28 #[.val (.ref p0), .val (.int i)] [])) _
        refine g_iconst X0 hx (1 : Int32) (hb hby d2_28) rfl ?_
        show Goes p.tables e below (T0.setTop (mkF m 29 #[.val (.ref p0), .val (.int i)] [(.int (1 : Int32))])) _
        exact g_retZ X0 hx (hz := (by decide)) hret hk (hb hby d2_29) (by decide) (by decide) ⟨by rw [ordV, hinv, own_ordEnd xs j (by have q : ¬ i.toInt < _ := fun z => c5 (Int32.lt_iff_toInt_lt.mpr z); rw [hi, hz] at q; omega)]; rfl, e0, rfl⟩
      · skip
        show Goes p.tables e below (T0.setTop (mkF m 8 #[.val (.ref p0), .val (.int i)] [])) _
        have hj1 : j + 1 < xs.length := by have q := Int32.lt_iff_toInt_lt.mp c5; rw [hi, hz] at q; omega
        obtain ⟨y, hy⟩ : ∃ y, xs[j + 1]? = some y := ⟨_, List.getElem?_eq_getElem hj1⟩
        obtain ⟨x, hx'⟩ : ∃ x, xs[j]? = some x := ⟨_, List.getElem?_eq_getElem (show j < xs.length by omega)⟩
        have hst := own_ordStep xs j x y hx' hy
        show Goes p.tables e below (T0.setTop (mkF m 8 #[.val (.ref p0), .val (.int i)] [])) _
        refine g_aloadN X0 hx (hb hby d2_8) rfl rfl ?_
        show Goes p.tables e below (T0.setTop (mkF m 9 #[.val (.ref p0), .val (.int i)] [(.ref p0)])) _
        refine g_iloadN X0 hx (hb hby d2_9) rfl ?_
        show Goes p.tables e below (T0.setTop (mkF m 10 #[.val (.ref p0), .val (.int i)] [(.int i), (.ref p0)])) _
        refine g_laload X0 hx hZ e0 A0 (i := (j + 1)) (v := (.long y)) hi (by rw [List.getElem?_map, hy]; rfl) (hb hby d2_10) ?_
        show Goes p.tables e below (T0.setTop (mkF m 11 #[.val (.ref p0), .val (.int i)] [(.long y)])) _
        refine g_aloadN X0 hx (hb hby d2_11) rfl rfl ?_
        show Goes p.tables e below (T0.setTop (mkF m 12 #[.val (.ref p0), .val (.int i)] [(.ref p0), (.long y)])) _
        refine g_iloadN X0 hx (hb hby d2_12) rfl ?_
        show Goes p.tables e below (T0.setTop (mkF m 13 #[.val (.ref p0), .val (.int i)] [(.int i), (.ref p0), (.long y)])) _
        refine g_iconst X0 hx (1 : Int32) (hb hby d2_13) rfl ?_
        show Goes p.tables e below (T0.setTop (mkF m 14 #[.val (.ref p0), .val (.int i)] [(.int (1 : Int32)), (.int i), (.ref p0), (.long y)])) _
        refine g_isub X0 hx (hb hby d2_14) ?_
        show Goes p.tables e below (T0.setTop (mkF m 15 #[.val (.ref p0), .val (.int i)] [(.int (i - (1 : Int32))), (.ref p0), (.long y)])) _
        refine g_laload X0 hx hZ e0 A0 (i := j) (v := (.long x)) (own_m1 hi) (by rw [List.getElem?_map, hx']; rfl) (hb hby d2_15) ?_
        show Goes p.tables e below (T0.setTop (mkF m 16 #[.val (.ref p0), .val (.int i)] [(.long x), (.long y)])) _
        refine g_lcmp X0 hx (hb hby d2_16) ?_
        show Goes p.tables e below (T0.setTop (mkF m 17 #[.val (.ref p0), .val (.int i)] [(.int (XT.cmpL y x))])) _
        refine g_lif_ge X0 hx (hb hby d2_17) (by decide) (pc' := 22) (by decide) (fun c17 => ?_) (fun c17 => ?_)
        · skip
          show Goes p.tables e below (T0.setTop (mkF m 22 #[.val (.ref p0), .val (.int i)] [])) _
          refine g_iinc X0 hx (1 : Int32) (hb hby d2_22) rfl rfl (l' := #[.val (.ref p0), .val (.int (i + (1 : Int32)))]) rfl ?_
          show Goes p.tables e below (T0.setTop (mkF m 25 #[.val (.ref p0), .val (.int (i + (1 : Int32)))] [])) _
          refine g_goto X0 hx (hb hby d2_25) (by decide) (pc' := 2) (by decide) ?_
          exact ih (xs.length - (j + 1)) (by omega) (j + 1) _ rfl (own_p1 hi (by omega)) (by rw [hinv, hst, decide_eq_false c17]; rfl)
        · skip
          show Goes p.tables e below (T0.setTop (mkF m 20 #[.val (.ref p0), .val (.int i)] [])) _
          refine g_iconst X0 hx (0 : Int32) (hb hby d2_20) rfl ?_
          show Goes p.tables e below (T0.setTop (mkF m 21 #[.val (.ref p0), .val (.int i)] [(.int (0 : Int32))])) _
          exact g_retZ X0 hx (hz := (by decide)) hret hk (hb hby d2_21) (by decide) (by decide) ⟨by rw [ordV, hinv, hst, decide_eq_true c17]; rfl, e0, rfl⟩
  exact loop _ 0 1 rfl (by decide) rfl
set_option maxRecDepth 65536 in
theorem own_plain (n : Int32) (x0 x1 x2 x3 x4 : Int64) (hn : n = 0 ∨ n = 1 ∨ n = 2 ∨ n = 3 ∨ n = 4 ∨ n = 5) : ordV (bL n x0 x1 x2 x3 x4) = (if n < (2 : Int32) then (if n < (3 : Int32) then (if n < (4 : Int32) then (if n < (5 : Int32) then (1 : Int32) else (if x4 < x3 then (0 : Int32) else (1 : Int32))) else (if x3 < x2 then (0 : Int32) else (if n < (5 : Int32) then (1 : Int32) else (if x4 < x3 then (0 : Int32) else (1 : Int32))))) else (if x2 < x1 then (0 : Int32) else (if n < (4 : Int32) then (if n < (5 : Int32) then (1 : Int32) else (if x4 < x3 then (0 : Int32) else (1 : Int32))) else (if x3 < x2 then (0 : Int32) else (if n < (5 : Int32) then (1 : Int32) else (if x4 < x3 then (0 : Int32) else (1 : Int32))))))) else (if x1 < x0 then (0 : Int32) else (if n < (3 : Int32) then (if n < (4 : Int32) then (if n < (5 : Int32) then (1 : Int32) else (if x4 < x3 then (0 : Int32) else (1 : Int32))) else (if x3 < x2 then (0 : Int32) else (if n < (5 : Int32) then (1 : Int32) else (if x4 < x3 then (0 : Int32) else (1 : Int32))))) else (if x2 < x1 then (0 : Int32) else (if n < (4 : Int32) then (if n < (5 : Int32) then (1 : Int32) else (if x4 < x3 then (0 : Int32) else (1 : Int32))) else (if x3 < x2 then (0 : Int32) else (if n < (5 : Int32) then (1 : Int32) else (if x4 < x3 then (0 : Int32) else (1 : Int32))))))))) := by
  rcases hn with rfl | rfl | rfl | rfl | rfl | rfl
  · rfl
  · rfl
  · by_cases h1 : x1 < x0 <;> simp [ordV, bL, ordL, h1]
  · by_cases h1 : x1 < x0 <;> by_cases h2 : x2 < x1 <;> simp [ordV, bL, ordL, h1, h2]
  · by_cases h1 : x1 < x0 <;> by_cases h2 : x2 < x1 <;> by_cases h3 : x3 < x2 <;> simp [ordV, bL, ordL, h1, h2, h3]
  · by_cases h1 : x1 < x0 <;> by_cases h2 : x2 < x1 <;> by_cases h3 : x3 < x2 <;> by_cases h4 : x4 < x3 <;> simp [ordV, bL, ordL, h1, h2, h3, h4]
theorem own_n (k : Int32) : ∀ v : Int32, v = (k &&& (7 : Int32)) % (6 : Int32) → v = 0 ∨ v = 1 ∨ v = 2 ∨ v = 3 ∨ v = 4 ∨ v = 5 := by
  intro v hv
  have a := (c_and k 7 (by decide)).1
  have q := (c_irem (k &&& 7) 6 6 (by decide)).1 a
  rw [← hv] at q
  have z : v.toInt = 0 ∨ v.toInt = 1 ∨ v.toInt = 2 ∨ v.toInt = 3 ∨ v.toInt = 4 ∨ v.toInt = 5 := by omega
  rcases z with z | z | z | z | z | z
  · exact Or.inl (Int32.toInt_inj.mp z)
  · exact Or.inr (Or.inl (Int32.toInt_inj.mp z))
  · exact Or.inr (Or.inr (Or.inl (Int32.toInt_inj.mp z)))
  · exact Or.inr (Or.inr (Or.inr (Or.inl (Int32.toInt_inj.mp z))))
  · exact Or.inr (Or.inr (Or.inr (Or.inr (Or.inl (Int32.toInt_inj.mp z)))))
  · exact Or.inr (Or.inr (Or.inr (Or.inr (Or.inr (Int32.toInt_inj.mp z)))))
theorem ef_0 (m : MethodId) (p0 : Int64) (p1 : Int64) (p2 : Int64) (p3 : Int64) (p4 : Int64) (p5 : Int32) : entryFrame m #[(.long p0), (.long p1), (.long p2), (.long p3), (.long p4), (.int p5)] maxLocals = mkF m 0 #[.val (.long p0), .second, .val (.long p1), .second, .val (.long p2), .second, .val (.long p3), .second, .val (.long p4), .second, .val (.int p5), .unset, .unset, .unset, .unset, .unset, .unset, .unset, .unset, .unset, .unset, .unset, .unset, .unset] [] := by first | (simp [entryFrame, mkF, argsToLocals, Value.category, maxLocals]; done) | rfl
set_option maxRecDepth 65536 in
set_option maxHeartbeats 40000000 in
theorem law (l : Launch) (Z : State) (a0 : Array Value) (hw : ∀ d ∈ tables_1, d.before a0 Z = true) (ws : List Jvm.Cond) (p0 : Int64) (p1 : Int64) (p2 : Int64) (p3 : Int64) (p4 : Int64) (p5 : Int32) (h0 : Heap)  :
    Con l Z x code maxLocals ret ws room_1 16 128 #[(.long p0), (.long p1), (.long p2), (.long p3), (.long p4), (.int p5)] h0 (fun v h L => v = some (.int 1) ∧ Fr h0.size L) := by
  refine Con.body (plainFor_of_name (by first | (simp [plainName, overriddenIn, x]; done) | decide +kernel)) ?_
  intro p e s m below meth c T0 hx hby hml hown hnm hZ hret hk X0 e0
  refine Goes.cast (ef_0 m p0 p1 p2 p3 p4 p5) ?_
  have N0 := Fr.nil h0.size
  have Z0 : h0.size ≤ h0.size := Nat.le_refl _
  show Goes p.tables e below (T0.setTop (mkF m 0 #[.val (.long p0), .second, .val (.long p1), .second, .val (.long p2), .second, .val (.long p3), .second, .val (.long p4), .second, .val (.int p5), .unset, .unset, .unset, .unset, .unset, .unset, .unset, .unset, .unset, .unset, .unset, .unset, .unset] [])) _
  refine g_iload X0 hx (hb hby at_0) rfl ?_
  show Goes p.tables e below (T0.setTop (mkF m 2 #[.val (.long p0), .second, .val (.long p1), .second, .val (.long p2), .second, .val (.long p3), .second, .val (.long p4), .second, .val (.int p5), .unset, .unset, .unset, .unset, .unset, .unset, .unset, .unset, .unset, .unset, .unset, .unset, .unset] [(.int p5)])) _
  refine g_bipush X0 hx (7 : Int32) (hb hby at_2) (by decide) ?_
  show Goes p.tables e below (T0.setTop (mkF m 4 #[.val (.long p0), .second, .val (.long p1), .second, .val (.long p2), .second, .val (.long p3), .second, .val (.long p4), .second, .val (.int p5), .unset, .unset, .unset, .unset, .unset, .unset, .unset, .unset, .unset, .unset, .unset, .unset, .unset] [(.int (7 : Int32)), (.int p5)])) _
  refine g_iand X0 hx (hb hby at_4) ?_
  show Goes p.tables e below (T0.setTop (mkF m 5 #[.val (.long p0), .second, .val (.long p1), .second, .val (.long p2), .second, .val (.long p3), .second, .val (.long p4), .second, .val (.int p5), .unset, .unset, .unset, .unset, .unset, .unset, .unset, .unset, .unset, .unset, .unset, .unset, .unset] [(.int (p5 &&& (7 : Int32)))])) _
  refine g_bipush X0 hx (6 : Int32) (hb hby at_5) (by decide) ?_
  show Goes p.tables e below (T0.setTop (mkF m 7 #[.val (.long p0), .second, .val (.long p1), .second, .val (.long p2), .second, .val (.long p3), .second, .val (.long p4), .second, .val (.int p5), .unset, .unset, .unset, .unset, .unset, .unset, .unset, .unset, .unset, .unset, .unset, .unset, .unset] [(.int (6 : Int32)), (.int (p5 &&& (7 : Int32)))])) _
  refine g_irem X0 hx (hb hby at_7) (by decide) ?_
  show Goes p.tables e below (T0.setTop (mkF m 8 #[.val (.long p0), .second, .val (.long p1), .second, .val (.long p2), .second, .val (.long p3), .second, .val (.long p4), .second, .val (.int p5), .unset, .unset, .unset, .unset, .unset, .unset, .unset, .unset, .unset, .unset, .unset, .unset, .unset] [(.int ((p5 &&& (7 : Int32)) % (6 : Int32)))])) _
  obtain ⟨vn, hvn⟩ : ∃ z : Int32, z = ((p5 &&& (7 : Int32)) % (6 : Int32)) := ⟨_, rfl⟩
  refine g_nameI hvn ?_
  show Goes p.tables e below (T0.setTop (mkF m 8 #[.val (.long p0), .second, .val (.long p1), .second, .val (.long p2), .second, .val (.long p3), .second, .val (.long p4), .second, .val (.int p5), .unset, .unset, .unset, .unset, .unset, .unset, .unset, .unset, .unset, .unset, .unset, .unset, .unset] [(.int vn)])) _
  refine g_istore X0 hx (hb hby at_8) (l' := #[.val (.long p0), .second, .val (.long p1), .second, .val (.long p2), .second, .val (.long p3), .second, .val (.long p4), .second, .val (.int p5), .val (.int vn), .unset, .unset, .unset, .unset, .unset, .unset, .unset, .unset, .unset, .unset, .unset, .unset]) rfl ?_
  show Goes p.tables e below (T0.setTop (mkF m 10 #[.val (.long p0), .second, .val (.long p1), .second, .val (.long p2), .second, .val (.long p3), .second, .val (.long p4), .second, .val (.int p5), .val (.int vn), .unset, .unset, .unset, .unset, .unset, .unset, .unset, .unset, .unset, .unset, .unset, .unset] [])) _
  refine g_lloadN X0 hx (hb hby at_10) rfl ?_
  show Goes p.tables e below (T0.setTop (mkF m 11 #[.val (.long p0), .second, .val (.long p1), .second, .val (.long p2), .second, .val (.long p3), .second, .val (.long p4), .second, .val (.int p5), .val (.int vn), .unset, .unset, .unset, .unset, .unset, .unset, .unset, .unset, .unset, .unset, .unset, .unset] [(.long p0)])) _
  refine g_lstore X0 hx (hb hby at_11) (l' := #[.val (.long p0), .second, .val (.long p1), .second, .val (.long p2), .second, .val (.long p3), .second, .val (.long p4), .second, .val (.int p5), .val (.int vn), .val (.long p0), .second, .unset, .unset, .unset, .unset, .unset, .unset, .unset, .unset, .unset, .unset]) rfl ?_
  show Goes p.tables e below (T0.setTop (mkF m 13 #[.val (.long p0), .second, .val (.long p1), .second, .val (.long p2), .second, .val (.long p3), .second, .val (.long p4), .second, .val (.int p5), .val (.int vn), .val (.long p0), .second, .unset, .unset, .unset, .unset, .unset, .unset, .unset, .unset, .unset, .unset] [])) _
  refine g_iload X0 hx (hb hby at_13) rfl ?_
  show Goes p.tables e below (T0.setTop (mkF m 15 #[.val (.long p0), .second, .val (.long p1), .second, .val (.long p2), .second, .val (.long p3), .second, .val (.long p4), .second, .val (.int p5), .val (.int vn), .val (.long p0), .second, .unset, .unset, .unset, .unset, .unset, .unset, .unset, .unset, .unset, .unset] [(.int p5)])) _
  refine g_iconst X0 hx (3 : Int32) (hb hby at_15) rfl ?_
  show Goes p.tables e below (T0.setTop (mkF m 16 #[.val (.long p0), .second, .val (.long p1), .second, .val (.long p2), .second, .val (.long p3), .second, .val (.long p4), .second, .val (.int p5), .val (.int vn), .val (.long p0), .second, .unset, .unset, .unset, .unset, .unset, .unset, .unset, .unset, .unset, .unset] [(.int (3 : Int32)), (.int p5)])) _
  refine g_iushr X0 hx (hb hby at_16) ?_
  show Goes p.tables e below (T0.setTop (mkF m 17 #[.val (.long p0), .second, .val (.long p1), .second, .val (.long p2), .second, .val (.long p3), .second, .val (.long p4), .second, .val (.int p5), .val (.int vn), .val (.long p0), .second, .unset, .unset, .unset, .unset, .unset, .unset, .unset, .unset, .unset, .unset] [(.int (XT.ushr p5 (3 : Int32)))])) _
  refine g_iconst X0 hx (1 : Int32) (hb hby at_17) rfl ?_
  show Goes p.tables e below (T0.setTop (mkF m 18 #[.val (.long p0), .second, .val (.long p1), .second, .val (.long p2), .second, .val (.long p3), .second, .val (.long p4), .second, .val (.int p5), .val (.int vn), .val (.long p0), .second, .unset, .unset, .unset, .unset, .unset, .unset, .unset, .unset, .unset, .unset] [(.int (1 : Int32)), (.int (XT.ushr p5 (3 : Int32)))])) _
  refine g_iand X0 hx (hb hby at_18) ?_
  show Goes p.tables e below (T0.setTop (mkF m 19 #[.val (.long p0), .second, .val (.long p1), .second, .val (.long p2), .second, .val (.long p3), .second, .val (.long p4), .second, .val (.int p5), .val (.int vn), .val (.long p0), .second, .unset, .unset, .unset, .unset, .unset, .unset, .unset, .unset, .unset, .unset] [(.int ((XT.ushr p5 (3 : Int32)) &&& (1 : Int32)))])) _
  obtain ⟨v1, hv1⟩ : ∃ z : Int64, z = (if ((XT.ushr p5 (3 : Int32)) &&& (1 : Int32)) = 0 then p1 else p0) := ⟨_, rfl⟩
  refine Goes.join (S' := T0.setTop (mkF m 28 #[.val (.long p0), .second, .val (.long p1), .second, .val (.long p2), .second, .val (.long p3), .second, .val (.long p4), .second, .val (.int p5), .val (.int vn), .val (.long p0), .second, .unset, .unset, .unset, .unset, .unset, .unset, .unset, .unset, .unset, .unset] [(.long v1)])) (fun J => ?_) ?_
  · skip
    refine g_if_eq X0 hx (hb hby at_19) (by decide) (pc' := 27) (by decide) (fun c19 => ?_) (fun c19 => ?_)
    · skip
      show Goes p.tables e below (T0.setTop (mkF m 27 #[.val (.long p0), .second, .val (.long p1), .second, .val (.long p2), .second, .val (.long p3), .second, .val (.long p4), .second, .val (.int p5), .val (.int vn), .val (.long p0), .second, .unset, .unset, .unset, .unset, .unset, .unset, .unset, .unset, .unset, .unset] [])) _
      refine g_lloadN X0 hx (hb hby at_27) rfl ?_
      rw [show v1 = (p1) from by rw [hv1, if_pos c19]] at J
      exact J
    · skip
      show Goes p.tables e below (T0.setTop (mkF m 22 #[.val (.long p0), .second, .val (.long p1), .second, .val (.long p2), .second, .val (.long p3), .second, .val (.long p4), .second, .val (.int p5), .val (.int vn), .val (.long p0), .second, .unset, .unset, .unset, .unset, .unset, .unset, .unset, .unset, .unset, .unset] [])) _
      refine g_lload X0 hx (hb hby at_22) rfl ?_
      show Goes p.tables e below (T0.setTop (mkF m 24 #[.val (.long p0), .second, .val (.long p1), .second, .val (.long p2), .second, .val (.long p3), .second, .val (.long p4), .second, .val (.int p5), .val (.int vn), .val (.long p0), .second, .unset, .unset, .unset, .unset, .unset, .unset, .unset, .unset, .unset, .unset] [(.long p0)])) _
      refine g_goto X0 hx (hb hby at_24) (by decide) (pc' := 28) (by decide) ?_
      rw [show v1 = (p0) from by rw [hv1, if_neg c19]] at J
      exact J
  show Goes p.tables e below (T0.setTop (mkF m 28 #[.val (.long p0), .second, .val (.long p1), .second, .val (.long p2), .second, .val (.long p3), .second, .val (.long p4), .second, .val (.int p5), .val (.int vn), .val (.long p0), .second, .unset, .unset, .unset, .unset, .unset, .unset, .unset, .unset, .unset, .unset] [(.long v1)])) _
  refine g_lstore X0 hx (hb hby at_28) (l' := #[.val (.long p0), .second, .val (.long p1), .second, .val (.long p2), .second, .val (.long p3), .second, .val (.long p4), .second, .val (.int p5), .val (.int vn), .val (.long p0), .second, .val (.long v1), .second, .unset, .unset, .unset, .unset, .unset, .unset, .unset, .unset]) rfl ?_
  show Goes p.tables e below (T0.setTop (mkF m 30 #[.val (.long p0), .second, .val (.long p1), .second, .val (.long p2), .second, .val (.long p3), .second, .val (.long p4), .second, .val (.int p5), .val (.int vn), .val (.long p0), .second, .val (.long v1), .second, .unset, .unset, .unset, .unset, .unset, .unset, .unset, .unset] [])) _
  refine g_iload X0 hx (hb hby at_30) rfl ?_
  show Goes p.tables e below (T0.setTop (mkF m 32 #[.val (.long p0), .second, .val (.long p1), .second, .val (.long p2), .second, .val (.long p3), .second, .val (.long p4), .second, .val (.int p5), .val (.int vn), .val (.long p0), .second, .val (.long v1), .second, .unset, .unset, .unset, .unset, .unset, .unset, .unset, .unset] [(.int p5)])) _
  refine g_iconst X0 hx (4 : Int32) (hb hby at_32) rfl ?_
  show Goes p.tables e below (T0.setTop (mkF m 33 #[.val (.long p0), .second, .val (.long p1), .second, .val (.long p2), .second, .val (.long p3), .second, .val (.long p4), .second, .val (.int p5), .val (.int vn), .val (.long p0), .second, .val (.long v1), .second, .unset, .unset, .unset, .unset, .unset, .unset, .unset, .unset] [(.int (4 : Int32)), (.int p5)])) _
  refine g_iushr X0 hx (hb hby at_33) ?_
  show Goes p.tables e below (T0.setTop (mkF m 34 #[.val (.long p0), .second, .val (.long p1), .second, .val (.long p2), .second, .val (.long p3), .second, .val (.long p4), .second, .val (.int p5), .val (.int vn), .val (.long p0), .second, .val (.long v1), .second, .unset, .unset, .unset, .unset, .unset, .unset, .unset, .unset] [(.int (XT.ushr p5 (4 : Int32)))])) _
  refine g_iconst X0 hx (1 : Int32) (hb hby at_34) rfl ?_
  show Goes p.tables e below (T0.setTop (mkF m 35 #[.val (.long p0), .second, .val (.long p1), .second, .val (.long p2), .second, .val (.long p3), .second, .val (.long p4), .second, .val (.int p5), .val (.int vn), .val (.long p0), .second, .val (.long v1), .second, .unset, .unset, .unset, .unset, .unset, .unset, .unset, .unset] [(.int (1 : Int32)), (.int (XT.ushr p5 (4 : Int32)))])) _
  refine g_iand X0 hx (hb hby at_35) ?_
  show Goes p.tables e below (T0.setTop (mkF m 36 #[.val (.long p0), .second, .val (.long p1), .second, .val (.long p2), .second, .val (.long p3), .second, .val (.long p4), .second, .val (.int p5), .val (.int vn), .val (.long p0), .second, .val (.long v1), .second, .unset, .unset, .unset, .unset, .unset, .unset, .unset, .unset] [(.int ((XT.ushr p5 (4 : Int32)) &&& (1 : Int32)))])) _
  obtain ⟨v2, hv2⟩ : ∃ z : Int64, z = (if ((XT.ushr p5 (4 : Int32)) &&& (1 : Int32)) = 0 then p2 else v1) := ⟨_, rfl⟩
  refine Goes.join (S' := T0.setTop (mkF m 46 #[.val (.long p0), .second, .val (.long p1), .second, .val (.long p2), .second, .val (.long p3), .second, .val (.long p4), .second, .val (.int p5), .val (.int vn), .val (.long p0), .second, .val (.long v1), .second, .unset, .unset, .unset, .unset, .unset, .unset, .unset, .unset] [(.long v2)])) (fun J => ?_) ?_
  · skip
    refine g_if_eq X0 hx (hb hby at_36) (by decide) (pc' := 44) (by decide) (fun c36 => ?_) (fun c36 => ?_)
    · skip
      show Goes p.tables e below (T0.setTop (mkF m 44 #[.val (.long p0), .second, .val (.long p1), .second, .val (.long p2), .second, .val (.long p3), .second, .val (.long p4), .second, .val (.int p5), .val (.int vn), .val (.long p0), .second, .val (.long v1), .second, .unset, .unset, .unset, .unset, .unset, .unset, .unset, .unset] [])) _
      refine g_lload X0 hx (hb hby at_44) rfl ?_
      rw [show v2 = (p2) from by rw [hv2, if_pos c36]] at J
      exact J
    · skip
      show Goes p.tables e below (T0.setTop (mkF m 39 #[.val (.long p0), .second, .val (.long p1), .second, .val (.long p2), .second, .val (.long p3), .second, .val (.long p4), .second, .val (.int p5), .val (.int vn), .val (.long p0), .second, .val (.long v1), .second, .unset, .unset, .unset, .unset, .unset, .unset, .unset, .unset] [])) _
      refine g_lload X0 hx (hb hby at_39) rfl ?_
      show Goes p.tables e below (T0.setTop (mkF m 41 #[.val (.long p0), .second, .val (.long p1), .second, .val (.long p2), .second, .val (.long p3), .second, .val (.long p4), .second, .val (.int p5), .val (.int vn), .val (.long p0), .second, .val (.long v1), .second, .unset, .unset, .unset, .unset, .unset, .unset, .unset, .unset] [(.long v1)])) _
      refine g_goto X0 hx (hb hby at_41) (by decide) (pc' := 46) (by decide) ?_
      rw [show v2 = (v1) from by rw [hv2, if_neg c36]] at J
      exact J
  show Goes p.tables e below (T0.setTop (mkF m 46 #[.val (.long p0), .second, .val (.long p1), .second, .val (.long p2), .second, .val (.long p3), .second, .val (.long p4), .second, .val (.int p5), .val (.int vn), .val (.long p0), .second, .val (.long v1), .second, .unset, .unset, .unset, .unset, .unset, .unset, .unset, .unset] [(.long v2)])) _
  refine g_lstore X0 hx (hb hby at_46) (l' := #[.val (.long p0), .second, .val (.long p1), .second, .val (.long p2), .second, .val (.long p3), .second, .val (.long p4), .second, .val (.int p5), .val (.int vn), .val (.long p0), .second, .val (.long v1), .second, .val (.long v2), .second, .unset, .unset, .unset, .unset, .unset, .unset]) rfl ?_
  show Goes p.tables e below (T0.setTop (mkF m 48 #[.val (.long p0), .second, .val (.long p1), .second, .val (.long p2), .second, .val (.long p3), .second, .val (.long p4), .second, .val (.int p5), .val (.int vn), .val (.long p0), .second, .val (.long v1), .second, .val (.long v2), .second, .unset, .unset, .unset, .unset, .unset, .unset] [])) _
  refine g_iload X0 hx (hb hby at_48) rfl ?_
  show Goes p.tables e below (T0.setTop (mkF m 50 #[.val (.long p0), .second, .val (.long p1), .second, .val (.long p2), .second, .val (.long p3), .second, .val (.long p4), .second, .val (.int p5), .val (.int vn), .val (.long p0), .second, .val (.long v1), .second, .val (.long v2), .second, .unset, .unset, .unset, .unset, .unset, .unset] [(.int p5)])) _
  refine g_iconst X0 hx (5 : Int32) (hb hby at_50) rfl ?_
  show Goes p.tables e below (T0.setTop (mkF m 51 #[.val (.long p0), .second, .val (.long p1), .second, .val (.long p2), .second, .val (.long p3), .second, .val (.long p4), .second, .val (.int p5), .val (.int vn), .val (.long p0), .second, .val (.long v1), .second, .val (.long v2), .second, .unset, .unset, .unset, .unset, .unset, .unset] [(.int (5 : Int32)), (.int p5)])) _
  refine g_iushr X0 hx (hb hby at_51) ?_
  show Goes p.tables e below (T0.setTop (mkF m 52 #[.val (.long p0), .second, .val (.long p1), .second, .val (.long p2), .second, .val (.long p3), .second, .val (.long p4), .second, .val (.int p5), .val (.int vn), .val (.long p0), .second, .val (.long v1), .second, .val (.long v2), .second, .unset, .unset, .unset, .unset, .unset, .unset] [(.int (XT.ushr p5 (5 : Int32)))])) _
  refine g_iconst X0 hx (1 : Int32) (hb hby at_52) rfl ?_
  show Goes p.tables e below (T0.setTop (mkF m 53 #[.val (.long p0), .second, .val (.long p1), .second, .val (.long p2), .second, .val (.long p3), .second, .val (.long p4), .second, .val (.int p5), .val (.int vn), .val (.long p0), .second, .val (.long v1), .second, .val (.long v2), .second, .unset, .unset, .unset, .unset, .unset, .unset] [(.int (1 : Int32)), (.int (XT.ushr p5 (5 : Int32)))])) _
  refine g_iand X0 hx (hb hby at_53) ?_
  show Goes p.tables e below (T0.setTop (mkF m 54 #[.val (.long p0), .second, .val (.long p1), .second, .val (.long p2), .second, .val (.long p3), .second, .val (.long p4), .second, .val (.int p5), .val (.int vn), .val (.long p0), .second, .val (.long v1), .second, .val (.long v2), .second, .unset, .unset, .unset, .unset, .unset, .unset] [(.int ((XT.ushr p5 (5 : Int32)) &&& (1 : Int32)))])) _
  obtain ⟨v3, hv3⟩ : ∃ z : Int64, z = (if ((XT.ushr p5 (5 : Int32)) &&& (1 : Int32)) = 0 then p3 else v2) := ⟨_, rfl⟩
  refine Goes.join (S' := T0.setTop (mkF m 64 #[.val (.long p0), .second, .val (.long p1), .second, .val (.long p2), .second, .val (.long p3), .second, .val (.long p4), .second, .val (.int p5), .val (.int vn), .val (.long p0), .second, .val (.long v1), .second, .val (.long v2), .second, .unset, .unset, .unset, .unset, .unset, .unset] [(.long v3)])) (fun J => ?_) ?_
  · skip
    refine g_if_eq X0 hx (hb hby at_54) (by decide) (pc' := 62) (by decide) (fun c54 => ?_) (fun c54 => ?_)
    · skip
      show Goes p.tables e below (T0.setTop (mkF m 62 #[.val (.long p0), .second, .val (.long p1), .second, .val (.long p2), .second, .val (.long p3), .second, .val (.long p4), .second, .val (.int p5), .val (.int vn), .val (.long p0), .second, .val (.long v1), .second, .val (.long v2), .second, .unset, .unset, .unset, .unset, .unset, .unset] [])) _
      refine g_lload X0 hx (hb hby at_62) rfl ?_
      rw [show v3 = (p3) from by rw [hv3, if_pos c54]] at J
      exact J
    · skip
      show Goes p.tables e below (T0.setTop (mkF m 57 #[.val (.long p0), .second, .val (.long p1), .second, .val (.long p2), .second, .val (.long p3), .second, .val (.long p4), .second, .val (.int p5), .val (.int vn), .val (.long p0), .second, .val (.long v1), .second, .val (.long v2), .second, .unset, .unset, .unset, .unset, .unset, .unset] [])) _
      refine g_lload X0 hx (hb hby at_57) rfl ?_
      show Goes p.tables e below (T0.setTop (mkF m 59 #[.val (.long p0), .second, .val (.long p1), .second, .val (.long p2), .second, .val (.long p3), .second, .val (.long p4), .second, .val (.int p5), .val (.int vn), .val (.long p0), .second, .val (.long v1), .second, .val (.long v2), .second, .unset, .unset, .unset, .unset, .unset, .unset] [(.long v2)])) _
      refine g_goto X0 hx (hb hby at_59) (by decide) (pc' := 64) (by decide) ?_
      rw [show v3 = (v2) from by rw [hv3, if_neg c54]] at J
      exact J
  show Goes p.tables e below (T0.setTop (mkF m 64 #[.val (.long p0), .second, .val (.long p1), .second, .val (.long p2), .second, .val (.long p3), .second, .val (.long p4), .second, .val (.int p5), .val (.int vn), .val (.long p0), .second, .val (.long v1), .second, .val (.long v2), .second, .unset, .unset, .unset, .unset, .unset, .unset] [(.long v3)])) _
  refine g_lstore X0 hx (hb hby at_64) (l' := #[.val (.long p0), .second, .val (.long p1), .second, .val (.long p2), .second, .val (.long p3), .second, .val (.long p4), .second, .val (.int p5), .val (.int vn), .val (.long p0), .second, .val (.long v1), .second, .val (.long v2), .second, .val (.long v3), .second, .unset, .unset, .unset, .unset]) rfl ?_
  show Goes p.tables e below (T0.setTop (mkF m 66 #[.val (.long p0), .second, .val (.long p1), .second, .val (.long p2), .second, .val (.long p3), .second, .val (.long p4), .second, .val (.int p5), .val (.int vn), .val (.long p0), .second, .val (.long v1), .second, .val (.long v2), .second, .val (.long v3), .second, .unset, .unset, .unset, .unset] [])) _
  refine g_iload X0 hx (hb hby at_66) rfl ?_
  show Goes p.tables e below (T0.setTop (mkF m 68 #[.val (.long p0), .second, .val (.long p1), .second, .val (.long p2), .second, .val (.long p3), .second, .val (.long p4), .second, .val (.int p5), .val (.int vn), .val (.long p0), .second, .val (.long v1), .second, .val (.long v2), .second, .val (.long v3), .second, .unset, .unset, .unset, .unset] [(.int p5)])) _
  refine g_bipush X0 hx (6 : Int32) (hb hby at_68) (by decide) ?_
  show Goes p.tables e below (T0.setTop (mkF m 70 #[.val (.long p0), .second, .val (.long p1), .second, .val (.long p2), .second, .val (.long p3), .second, .val (.long p4), .second, .val (.int p5), .val (.int vn), .val (.long p0), .second, .val (.long v1), .second, .val (.long v2), .second, .val (.long v3), .second, .unset, .unset, .unset, .unset] [(.int (6 : Int32)), (.int p5)])) _
  refine g_iushr X0 hx (hb hby at_70) ?_
  show Goes p.tables e below (T0.setTop (mkF m 71 #[.val (.long p0), .second, .val (.long p1), .second, .val (.long p2), .second, .val (.long p3), .second, .val (.long p4), .second, .val (.int p5), .val (.int vn), .val (.long p0), .second, .val (.long v1), .second, .val (.long v2), .second, .val (.long v3), .second, .unset, .unset, .unset, .unset] [(.int (XT.ushr p5 (6 : Int32)))])) _
  refine g_iconst X0 hx (1 : Int32) (hb hby at_71) rfl ?_
  show Goes p.tables e below (T0.setTop (mkF m 72 #[.val (.long p0), .second, .val (.long p1), .second, .val (.long p2), .second, .val (.long p3), .second, .val (.long p4), .second, .val (.int p5), .val (.int vn), .val (.long p0), .second, .val (.long v1), .second, .val (.long v2), .second, .val (.long v3), .second, .unset, .unset, .unset, .unset] [(.int (1 : Int32)), (.int (XT.ushr p5 (6 : Int32)))])) _
  refine g_iand X0 hx (hb hby at_72) ?_
  show Goes p.tables e below (T0.setTop (mkF m 73 #[.val (.long p0), .second, .val (.long p1), .second, .val (.long p2), .second, .val (.long p3), .second, .val (.long p4), .second, .val (.int p5), .val (.int vn), .val (.long p0), .second, .val (.long v1), .second, .val (.long v2), .second, .val (.long v3), .second, .unset, .unset, .unset, .unset] [(.int ((XT.ushr p5 (6 : Int32)) &&& (1 : Int32)))])) _
  obtain ⟨v4, hv4⟩ : ∃ z : Int64, z = (if ((XT.ushr p5 (6 : Int32)) &&& (1 : Int32)) = 0 then p4 else v3) := ⟨_, rfl⟩
  refine Goes.join (S' := T0.setTop (mkF m 83 #[.val (.long p0), .second, .val (.long p1), .second, .val (.long p2), .second, .val (.long p3), .second, .val (.long p4), .second, .val (.int p5), .val (.int vn), .val (.long p0), .second, .val (.long v1), .second, .val (.long v2), .second, .val (.long v3), .second, .unset, .unset, .unset, .unset] [(.long v4)])) (fun J => ?_) ?_
  · skip
    refine g_if_eq X0 hx (hb hby at_73) (by decide) (pc' := 81) (by decide) (fun c73 => ?_) (fun c73 => ?_)
    · skip
      show Goes p.tables e below (T0.setTop (mkF m 81 #[.val (.long p0), .second, .val (.long p1), .second, .val (.long p2), .second, .val (.long p3), .second, .val (.long p4), .second, .val (.int p5), .val (.int vn), .val (.long p0), .second, .val (.long v1), .second, .val (.long v2), .second, .val (.long v3), .second, .unset, .unset, .unset, .unset] [])) _
      refine g_lload X0 hx (hb hby at_81) rfl ?_
      rw [show v4 = (p4) from by rw [hv4, if_pos c73]] at J
      exact J
    · skip
      show Goes p.tables e below (T0.setTop (mkF m 76 #[.val (.long p0), .second, .val (.long p1), .second, .val (.long p2), .second, .val (.long p3), .second, .val (.long p4), .second, .val (.int p5), .val (.int vn), .val (.long p0), .second, .val (.long v1), .second, .val (.long v2), .second, .val (.long v3), .second, .unset, .unset, .unset, .unset] [])) _
      refine g_lload X0 hx (hb hby at_76) rfl ?_
      show Goes p.tables e below (T0.setTop (mkF m 78 #[.val (.long p0), .second, .val (.long p1), .second, .val (.long p2), .second, .val (.long p3), .second, .val (.long p4), .second, .val (.int p5), .val (.int vn), .val (.long p0), .second, .val (.long v1), .second, .val (.long v2), .second, .val (.long v3), .second, .unset, .unset, .unset, .unset] [(.long v3)])) _
      refine g_goto X0 hx (hb hby at_78) (by decide) (pc' := 83) (by decide) ?_
      rw [show v4 = (v3) from by rw [hv4, if_neg c73]] at J
      exact J
  show Goes p.tables e below (T0.setTop (mkF m 83 #[.val (.long p0), .second, .val (.long p1), .second, .val (.long p2), .second, .val (.long p3), .second, .val (.long p4), .second, .val (.int p5), .val (.int vn), .val (.long p0), .second, .val (.long v1), .second, .val (.long v2), .second, .val (.long v3), .second, .unset, .unset, .unset, .unset] [(.long v4)])) _
  refine g_lstore X0 hx (hb hby at_83) (l' := #[.val (.long p0), .second, .val (.long p1), .second, .val (.long p2), .second, .val (.long p3), .second, .val (.long p4), .second, .val (.int p5), .val (.int vn), .val (.long p0), .second, .val (.long v1), .second, .val (.long v2), .second, .val (.long v3), .second, .val (.long v4), .second, .unset, .unset]) rfl ?_
  show Goes p.tables e below (T0.setTop (mkF m 85 #[.val (.long p0), .second, .val (.long p1), .second, .val (.long p2), .second, .val (.long p3), .second, .val (.long p4), .second, .val (.int p5), .val (.int vn), .val (.long p0), .second, .val (.long v1), .second, .val (.long v2), .second, .val (.long v3), .second, .val (.long v4), .second, .unset, .unset] [])) _
  refine g_iload X0 hx (hb hby at_85) rfl ?_
  show Goes p.tables e below (T0.setTop (mkF m 87 #[.val (.long p0), .second, .val (.long p1), .second, .val (.long p2), .second, .val (.long p3), .second, .val (.long p4), .second, .val (.int p5), .val (.int vn), .val (.long p0), .second, .val (.long v1), .second, .val (.long v2), .second, .val (.long v3), .second, .val (.long v4), .second, .unset, .unset] [(.int vn)])) _
  refine g_lload X0 hx (hb hby at_87) rfl ?_
  show Goes p.tables e below (T0.setTop (mkF m 89 #[.val (.long p0), .second, .val (.long p1), .second, .val (.long p2), .second, .val (.long p3), .second, .val (.long p4), .second, .val (.int p5), .val (.int vn), .val (.long p0), .second, .val (.long v1), .second, .val (.long v2), .second, .val (.long v3), .second, .val (.long v4), .second, .unset, .unset] [(.long p0), (.int vn)])) _
  refine g_lload X0 hx (hb hby at_89) rfl ?_
  show Goes p.tables e below (T0.setTop (mkF m 91 #[.val (.long p0), .second, .val (.long p1), .second, .val (.long p2), .second, .val (.long p3), .second, .val (.long p4), .second, .val (.int p5), .val (.int vn), .val (.long p0), .second, .val (.long v1), .second, .val (.long v2), .second, .val (.long v3), .second, .val (.long v4), .second, .unset, .unset] [(.long v1), (.long p0), (.int vn)])) _
  refine g_lload X0 hx (hb hby at_91) rfl ?_
  show Goes p.tables e below (T0.setTop (mkF m 93 #[.val (.long p0), .second, .val (.long p1), .second, .val (.long p2), .second, .val (.long p3), .second, .val (.long p4), .second, .val (.int p5), .val (.int vn), .val (.long p0), .second, .val (.long v1), .second, .val (.long v2), .second, .val (.long v3), .second, .val (.long v4), .second, .unset, .unset] [(.long v2), (.long v1), (.long p0), (.int vn)])) _
  refine g_lload X0 hx (hb hby at_93) rfl ?_
  show Goes p.tables e below (T0.setTop (mkF m 95 #[.val (.long p0), .second, .val (.long p1), .second, .val (.long p2), .second, .val (.long p3), .second, .val (.long p4), .second, .val (.int p5), .val (.int vn), .val (.long p0), .second, .val (.long v1), .second, .val (.long v2), .second, .val (.long v3), .second, .val (.long v4), .second, .unset, .unset] [(.long v3), (.long v2), (.long v1), (.long p0), (.int vn)])) _
  refine g_lload X0 hx (hb hby at_95) rfl ?_
  show Goes p.tables e below (T0.setTop (mkF m 97 #[.val (.long p0), .second, .val (.long p1), .second, .val (.long p2), .second, .val (.long p3), .second, .val (.long p4), .second, .val (.int p5), .val (.int vn), .val (.long p0), .second, .val (.long v1), .second, .val (.long v2), .second, .val (.long v3), .second, .val (.long v4), .second, .unset, .unset] [(.long v4), (.long v3), (.long v2), (.long v1), (.long p0), (.int vn)])) _
  refine g_callS X0 hx hZ hown (by rw [hml]; rfl) e0 (hw _ (List.mem_of_getElem? (i := 0) rfl)) (hw _ (List.mem_of_getElem? (i := 1) rfl)) (hw _ (List.mem_of_getElem? (i := 2) rfl)) (hw _ (List.mem_of_getElem? (i := 3) rfl)) (rmB l Z a0 hw vn p0 v1 v2 v3 v4 h0 h0.size Z0) [(.int vn), (.long p0), (.long v1), (.long v2), (.long v3), (.long v4)] rfl [] rfl (lenOf pd_1 rfl) (hb hby at_97) (by decide) 0 (by decide) (by decide) (by first | decide | exact Nat.le_refl _) (by decide) (by decide) (fun v T5 L5 X5 hQ5 => ?_)
  obtain ⟨a5, rfl, ga5, Na5, Ka5, Aa5⟩ := hQ5
  have N6 := Fr.app N0 Na5
  have Z7 : h0.size ≤ T5.heap.size := Nat.le_trans Z0 Ka5.1
  show Goes p.tables e below (T5.setTop (mkF m 100 #[.val (.long p0), .second, .val (.long p1), .second, .val (.long p2), .second, .val (.long p3), .second, .val (.long p4), .second, .val (.int p5), .val (.int vn), .val (.long p0), .second, .val (.long v1), .second, .val (.long v2), .second, .val (.long v3), .second, .val (.long v4), .second, .unset, .unset] [(.ref a5)])) _
  refine g_astore X5 hx (hb hby at_100) rfl (l' := #[.val (.long p0), .second, .val (.long p1), .second, .val (.long p2), .second, .val (.long p3), .second, .val (.long p4), .second, .val (.int p5), .val (.int vn), .val (.long p0), .second, .val (.long v1), .second, .val (.long v2), .second, .val (.long v3), .second, .val (.long v4), .second, .val (.ref a5), .unset]) rfl ?_
  show Goes p.tables e below (T5.setTop (mkF m 102 #[.val (.long p0), .second, .val (.long p1), .second, .val (.long p2), .second, .val (.long p3), .second, .val (.long p4), .second, .val (.int p5), .val (.int vn), .val (.long p0), .second, .val (.long v1), .second, .val (.long v2), .second, .val (.long v3), .second, .val (.long v4), .second, .val (.ref a5), .unset] [])) _
  refine g_iload X5 hx (hb hby at_102) rfl ?_
  show Goes p.tables e below (T5.setTop (mkF m 104 #[.val (.long p0), .second, .val (.long p1), .second, .val (.long p2), .second, .val (.long p3), .second, .val (.long p4), .second, .val (.int p5), .val (.int vn), .val (.long p0), .second, .val (.long v1), .second, .val (.long v2), .second, .val (.long v3), .second, .val (.long v4), .second, .val (.ref a5), .unset] [(.int vn)])) _
  refine g_iconst X5 hx (2 : Int32) (hb hby at_104) rfl ?_
  show Goes p.tables e below (T5.setTop (mkF m 105 #[.val (.long p0), .second, .val (.long p1), .second, .val (.long p2), .second, .val (.long p3), .second, .val (.long p4), .second, .val (.int p5), .val (.int vn), .val (.long p0), .second, .val (.long v1), .second, .val (.long v2), .second, .val (.long v3), .second, .val (.long v4), .second, .val (.ref a5), .unset] [(.int (2 : Int32)), (.int vn)])) _
  obtain ⟨v8, hv8⟩ : ∃ z : Int32, z = (if vn < (2 : Int32) then (if vn < (3 : Int32) then (if vn < (4 : Int32) then (if vn < (5 : Int32) then (1 : Int32) else (if v4 < v3 then (0 : Int32) else (1 : Int32))) else (if v3 < v2 then (0 : Int32) else (if vn < (5 : Int32) then (1 : Int32) else (if v4 < v3 then (0 : Int32) else (1 : Int32))))) else (if v2 < v1 then (0 : Int32) else (if vn < (4 : Int32) then (if vn < (5 : Int32) then (1 : Int32) else (if v4 < v3 then (0 : Int32) else (1 : Int32))) else (if v3 < v2 then (0 : Int32) else (if vn < (5 : Int32) then (1 : Int32) else (if v4 < v3 then (0 : Int32) else (1 : Int32))))))) else (if v1 < p0 then (0 : Int32) else (if vn < (3 : Int32) then (if vn < (4 : Int32) then (if vn < (5 : Int32) then (1 : Int32) else (if v4 < v3 then (0 : Int32) else (1 : Int32))) else (if v3 < v2 then (0 : Int32) else (if vn < (5 : Int32) then (1 : Int32) else (if v4 < v3 then (0 : Int32) else (1 : Int32))))) else (if v2 < v1 then (0 : Int32) else (if vn < (4 : Int32) then (if vn < (5 : Int32) then (1 : Int32) else (if v4 < v3 then (0 : Int32) else (1 : Int32))) else (if v3 < v2 then (0 : Int32) else (if vn < (5 : Int32) then (1 : Int32) else (if v4 < v3 then (0 : Int32) else (1 : Int32))))))))) := ⟨_, rfl⟩
  refine Goes.join (S' := T5.setTop (mkF m 163 #[.val (.long p0), .second, .val (.long p1), .second, .val (.long p2), .second, .val (.long p3), .second, .val (.long p4), .second, .val (.int p5), .val (.int vn), .val (.long p0), .second, .val (.long v1), .second, .val (.long v2), .second, .val (.long v3), .second, .val (.long v4), .second, .val (.ref a5), .unset] [(.int v8)])) (fun J => ?_) ?_
  · skip
    refine g_icmp_lt X5 hx (hb hby at_105) (by decide) (pc' := 116) (by decide) (fun c105 => ?_) (fun c105 => ?_)
    · skip
      show Goes p.tables e below (T5.setTop (mkF m 116 #[.val (.long p0), .second, .val (.long p1), .second, .val (.long p2), .second, .val (.long p3), .second, .val (.long p4), .second, .val (.int p5), .val (.int vn), .val (.long p0), .second, .val (.long v1), .second, .val (.long v2), .second, .val (.long v3), .second, .val (.long v4), .second, .val (.ref a5), .unset] [])) _
      refine g_iload X5 hx (hb hby at_116) rfl ?_
      show Goes p.tables e below (T5.setTop (mkF m 118 #[.val (.long p0), .second, .val (.long p1), .second, .val (.long p2), .second, .val (.long p3), .second, .val (.long p4), .second, .val (.int p5), .val (.int vn), .val (.long p0), .second, .val (.long v1), .second, .val (.long v2), .second, .val (.long v3), .second, .val (.long v4), .second, .val (.ref a5), .unset] [(.int vn)])) _
      refine g_iconst X5 hx (3 : Int32) (hb hby at_118) rfl ?_
      show Goes p.tables e below (T5.setTop (mkF m 119 #[.val (.long p0), .second, .val (.long p1), .second, .val (.long p2), .second, .val (.long p3), .second, .val (.long p4), .second, .val (.int p5), .val (.int vn), .val (.long p0), .second, .val (.long v1), .second, .val (.long v2), .second, .val (.long v3), .second, .val (.long v4), .second, .val (.ref a5), .unset] [(.int (3 : Int32)), (.int vn)])) _
      refine g_icmp_lt X5 hx (hb hby at_119) (by decide) (pc' := 130) (by decide) (fun c119 => ?_) (fun c119 => ?_)
      · skip
        show Goes p.tables e below (T5.setTop (mkF m 130 #[.val (.long p0), .second, .val (.long p1), .second, .val (.long p2), .second, .val (.long p3), .second, .val (.long p4), .second, .val (.int p5), .val (.int vn), .val (.long p0), .second, .val (.long v1), .second, .val (.long v2), .second, .val (.long v3), .second, .val (.long v4), .second, .val (.ref a5), .unset] [])) _
        refine g_iload X5 hx (hb hby at_130) rfl ?_
        show Goes p.tables e below (T5.setTop (mkF m 132 #[.val (.long p0), .second, .val (.long p1), .second, .val (.long p2), .second, .val (.long p3), .second, .val (.long p4), .second, .val (.int p5), .val (.int vn), .val (.long p0), .second, .val (.long v1), .second, .val (.long v2), .second, .val (.long v3), .second, .val (.long v4), .second, .val (.ref a5), .unset] [(.int vn)])) _
        refine g_iconst X5 hx (4 : Int32) (hb hby at_132) rfl ?_
        show Goes p.tables e below (T5.setTop (mkF m 133 #[.val (.long p0), .second, .val (.long p1), .second, .val (.long p2), .second, .val (.long p3), .second, .val (.long p4), .second, .val (.int p5), .val (.int vn), .val (.long p0), .second, .val (.long v1), .second, .val (.long v2), .second, .val (.long v3), .second, .val (.long v4), .second, .val (.ref a5), .unset] [(.int (4 : Int32)), (.int vn)])) _
        refine g_icmp_lt X5 hx (hb hby at_133) (by decide) (pc' := 144) (by decide) (fun c133 => ?_) (fun c133 => ?_)
        · skip
          show Goes p.tables e below (T5.setTop (mkF m 144 #[.val (.long p0), .second, .val (.long p1), .second, .val (.long p2), .second, .val (.long p3), .second, .val (.long p4), .second, .val (.int p5), .val (.int vn), .val (.long p0), .second, .val (.long v1), .second, .val (.long v2), .second, .val (.long v3), .second, .val (.long v4), .second, .val (.ref a5), .unset] [])) _
          refine g_iload X5 hx (hb hby at_144) rfl ?_
          show Goes p.tables e below (T5.setTop (mkF m 146 #[.val (.long p0), .second, .val (.long p1), .second, .val (.long p2), .second, .val (.long p3), .second, .val (.long p4), .second, .val (.int p5), .val (.int vn), .val (.long p0), .second, .val (.long v1), .second, .val (.long v2), .second, .val (.long v3), .second, .val (.long v4), .second, .val (.ref a5), .unset] [(.int vn)])) _
          refine g_iconst X5 hx (5 : Int32) (hb hby at_146) rfl ?_
          show Goes p.tables e below (T5.setTop (mkF m 147 #[.val (.long p0), .second, .val (.long p1), .second, .val (.long p2), .second, .val (.long p3), .second, .val (.long p4), .second, .val (.int p5), .val (.int vn), .val (.long p0), .second, .val (.long v1), .second, .val (.long v2), .second, .val (.long v3), .second, .val (.long v4), .second, .val (.ref a5), .unset] [(.int (5 : Int32)), (.int vn)])) _
          refine g_icmp_lt X5 hx (hb hby at_147) (by decide) (pc' := 158) (by decide) (fun c147 => ?_) (fun c147 => ?_)
          · skip
            show Goes p.tables e below (T5.setTop (mkF m 158 #[.val (.long p0), .second, .val (.long p1), .second, .val (.long p2), .second, .val (.long p3), .second, .val (.long p4), .second, .val (.int p5), .val (.int vn), .val (.long p0), .second, .val (.long v1), .second, .val (.long v2), .second, .val (.long v3), .second, .val (.long v4), .second, .val (.ref a5), .unset] [])) _
            refine g_iconst X5 hx (1 : Int32) (hb hby at_158) rfl ?_
            show Goes p.tables e below (T5.setTop (mkF m 159 #[.val (.long p0), .second, .val (.long p1), .second, .val (.long p2), .second, .val (.long p3), .second, .val (.long p4), .second, .val (.int p5), .val (.int vn), .val (.long p0), .second, .val (.long v1), .second, .val (.long v2), .second, .val (.long v3), .second, .val (.long v4), .second, .val (.ref a5), .unset] [(.int (1 : Int32))])) _
            refine g_goto X5 hx (hb hby at_159) (by decide) (pc' := 163) (by decide) ?_
            rw [show v8 = ((1 : Int32)) from by rw [hv8, if_pos c105, if_pos c119, if_pos c133, if_pos c147]] at J
            exact J
          · skip
            show Goes p.tables e below (T5.setTop (mkF m 150 #[.val (.long p0), .second, .val (.long p1), .second, .val (.long p2), .second, .val (.long p3), .second, .val (.long p4), .second, .val (.int p5), .val (.int vn), .val (.long p0), .second, .val (.long v1), .second, .val (.long v2), .second, .val (.long v3), .second, .val (.long v4), .second, .val (.ref a5), .unset] [])) _
            refine g_lload X5 hx (hb hby at_150) rfl ?_
            show Goes p.tables e below (T5.setTop (mkF m 152 #[.val (.long p0), .second, .val (.long p1), .second, .val (.long p2), .second, .val (.long p3), .second, .val (.long p4), .second, .val (.int p5), .val (.int vn), .val (.long p0), .second, .val (.long v1), .second, .val (.long v2), .second, .val (.long v3), .second, .val (.long v4), .second, .val (.ref a5), .unset] [(.long v3)])) _
            refine g_lload X5 hx (hb hby at_152) rfl ?_
            show Goes p.tables e below (T5.setTop (mkF m 154 #[.val (.long p0), .second, .val (.long p1), .second, .val (.long p2), .second, .val (.long p3), .second, .val (.long p4), .second, .val (.int p5), .val (.int vn), .val (.long p0), .second, .val (.long v1), .second, .val (.long v2), .second, .val (.long v3), .second, .val (.long v4), .second, .val (.ref a5), .unset] [(.long v4), (.long v3)])) _
            refine g_lcmp X5 hx (hb hby at_154) ?_
            show Goes p.tables e below (T5.setTop (mkF m 155 #[.val (.long p0), .second, .val (.long p1), .second, .val (.long p2), .second, .val (.long p3), .second, .val (.long p4), .second, .val (.int p5), .val (.int vn), .val (.long p0), .second, .val (.long v1), .second, .val (.long v2), .second, .val (.long v3), .second, .val (.long v4), .second, .val (.ref a5), .unset] [(.int (XT.cmpL v3 v4))])) _
            refine g_lif_gt X5 hx (hb hby at_155) (by decide) (pc' := 162) (by decide) (fun c155 => ?_) (fun c155 => ?_)
            · skip
              show Goes p.tables e below (T5.setTop (mkF m 162 #[.val (.long p0), .second, .val (.long p1), .second, .val (.long p2), .second, .val (.long p3), .second, .val (.long p4), .second, .val (.int p5), .val (.int vn), .val (.long p0), .second, .val (.long v1), .second, .val (.long v2), .second, .val (.long v3), .second, .val (.long v4), .second, .val (.ref a5), .unset] [])) _
              refine g_iconst X5 hx (0 : Int32) (hb hby at_162) rfl ?_
              rw [show v8 = ((0 : Int32)) from by rw [hv8, if_pos c105, if_pos c119, if_pos c133, if_neg c147, if_pos c155]] at J
              exact J
            · skip
              show Goes p.tables e below (T5.setTop (mkF m 158 #[.val (.long p0), .second, .val (.long p1), .second, .val (.long p2), .second, .val (.long p3), .second, .val (.long p4), .second, .val (.int p5), .val (.int vn), .val (.long p0), .second, .val (.long v1), .second, .val (.long v2), .second, .val (.long v3), .second, .val (.long v4), .second, .val (.ref a5), .unset] [])) _
              refine g_iconst X5 hx (1 : Int32) (hb hby at_158) rfl ?_
              show Goes p.tables e below (T5.setTop (mkF m 159 #[.val (.long p0), .second, .val (.long p1), .second, .val (.long p2), .second, .val (.long p3), .second, .val (.long p4), .second, .val (.int p5), .val (.int vn), .val (.long p0), .second, .val (.long v1), .second, .val (.long v2), .second, .val (.long v3), .second, .val (.long v4), .second, .val (.ref a5), .unset] [(.int (1 : Int32))])) _
              refine g_goto X5 hx (hb hby at_159) (by decide) (pc' := 163) (by decide) ?_
              rw [show v8 = ((1 : Int32)) from by rw [hv8, if_pos c105, if_pos c119, if_pos c133, if_neg c147, if_neg c155]] at J
              exact J
        · skip
          show Goes p.tables e below (T5.setTop (mkF m 136 #[.val (.long p0), .second, .val (.long p1), .second, .val (.long p2), .second, .val (.long p3), .second, .val (.long p4), .second, .val (.int p5), .val (.int vn), .val (.long p0), .second, .val (.long v1), .second, .val (.long v2), .second, .val (.long v3), .second, .val (.long v4), .second, .val (.ref a5), .unset] [])) _
          refine g_lload X5 hx (hb hby at_136) rfl ?_
          show Goes p.tables e below (T5.setTop (mkF m 138 #[.val (.long p0), .second, .val (.long p1), .second, .val (.long p2), .second, .val (.long p3), .second, .val (.long p4), .second, .val (.int p5), .val (.int vn), .val (.long p0), .second, .val (.long v1), .second, .val (.long v2), .second, .val (.long v3), .second, .val (.long v4), .second, .val (.ref a5), .unset] [(.long v2)])) _
          refine g_lload X5 hx (hb hby at_138) rfl ?_
          show Goes p.tables e below (T5.setTop (mkF m 140 #[.val (.long p0), .second, .val (.long p1), .second, .val (.long p2), .second, .val (.long p3), .second, .val (.long p4), .second, .val (.int p5), .val (.int vn), .val (.long p0), .second, .val (.long v1), .second, .val (.long v2), .second, .val (.long v3), .second, .val (.long v4), .second, .val (.ref a5), .unset] [(.long v3), (.long v2)])) _
          refine g_lcmp X5 hx (hb hby at_140) ?_
          show Goes p.tables e below (T5.setTop (mkF m 141 #[.val (.long p0), .second, .val (.long p1), .second, .val (.long p2), .second, .val (.long p3), .second, .val (.long p4), .second, .val (.int p5), .val (.int vn), .val (.long p0), .second, .val (.long v1), .second, .val (.long v2), .second, .val (.long v3), .second, .val (.long v4), .second, .val (.ref a5), .unset] [(.int (XT.cmpL v2 v3))])) _
          refine g_lif_gt X5 hx (hb hby at_141) (by decide) (pc' := 162) (by decide) (fun c141 => ?_) (fun c141 => ?_)
          · skip
            show Goes p.tables e below (T5.setTop (mkF m 162 #[.val (.long p0), .second, .val (.long p1), .second, .val (.long p2), .second, .val (.long p3), .second, .val (.long p4), .second, .val (.int p5), .val (.int vn), .val (.long p0), .second, .val (.long v1), .second, .val (.long v2), .second, .val (.long v3), .second, .val (.long v4), .second, .val (.ref a5), .unset] [])) _
            refine g_iconst X5 hx (0 : Int32) (hb hby at_162) rfl ?_
            rw [show v8 = ((0 : Int32)) from by rw [hv8, if_pos c105, if_pos c119, if_neg c133, if_pos c141]] at J
            exact J
          · skip
            show Goes p.tables e below (T5.setTop (mkF m 144 #[.val (.long p0), .second, .val (.long p1), .second, .val (.long p2), .second, .val (.long p3), .second, .val (.long p4), .second, .val (.int p5), .val (.int vn), .val (.long p0), .second, .val (.long v1), .second, .val (.long v2), .second, .val (.long v3), .second, .val (.long v4), .second, .val (.ref a5), .unset] [])) _
            refine g_iload X5 hx (hb hby at_144) rfl ?_
            show Goes p.tables e below (T5.setTop (mkF m 146 #[.val (.long p0), .second, .val (.long p1), .second, .val (.long p2), .second, .val (.long p3), .second, .val (.long p4), .second, .val (.int p5), .val (.int vn), .val (.long p0), .second, .val (.long v1), .second, .val (.long v2), .second, .val (.long v3), .second, .val (.long v4), .second, .val (.ref a5), .unset] [(.int vn)])) _
            refine g_iconst X5 hx (5 : Int32) (hb hby at_146) rfl ?_
            show Goes p.tables e below (T5.setTop (mkF m 147 #[.val (.long p0), .second, .val (.long p1), .second, .val (.long p2), .second, .val (.long p3), .second, .val (.long p4), .second, .val (.int p5), .val (.int vn), .val (.long p0), .second, .val (.long v1), .second, .val (.long v2), .second, .val (.long v3), .second, .val (.long v4), .second, .val (.ref a5), .unset] [(.int (5 : Int32)), (.int vn)])) _
            refine g_icmp_lt X5 hx (hb hby at_147) (by decide) (pc' := 158) (by decide) (fun c147 => ?_) (fun c147 => ?_)
            · skip
              show Goes p.tables e below (T5.setTop (mkF m 158 #[.val (.long p0), .second, .val (.long p1), .second, .val (.long p2), .second, .val (.long p3), .second, .val (.long p4), .second, .val (.int p5), .val (.int vn), .val (.long p0), .second, .val (.long v1), .second, .val (.long v2), .second, .val (.long v3), .second, .val (.long v4), .second, .val (.ref a5), .unset] [])) _
              refine g_iconst X5 hx (1 : Int32) (hb hby at_158) rfl ?_
              show Goes p.tables e below (T5.setTop (mkF m 159 #[.val (.long p0), .second, .val (.long p1), .second, .val (.long p2), .second, .val (.long p3), .second, .val (.long p4), .second, .val (.int p5), .val (.int vn), .val (.long p0), .second, .val (.long v1), .second, .val (.long v2), .second, .val (.long v3), .second, .val (.long v4), .second, .val (.ref a5), .unset] [(.int (1 : Int32))])) _
              refine g_goto X5 hx (hb hby at_159) (by decide) (pc' := 163) (by decide) ?_
              rw [show v8 = ((1 : Int32)) from by rw [hv8, if_pos c105, if_pos c119, if_neg c133, if_neg c141, if_pos c147]] at J
              exact J
            · skip
              show Goes p.tables e below (T5.setTop (mkF m 150 #[.val (.long p0), .second, .val (.long p1), .second, .val (.long p2), .second, .val (.long p3), .second, .val (.long p4), .second, .val (.int p5), .val (.int vn), .val (.long p0), .second, .val (.long v1), .second, .val (.long v2), .second, .val (.long v3), .second, .val (.long v4), .second, .val (.ref a5), .unset] [])) _
              refine g_lload X5 hx (hb hby at_150) rfl ?_
              show Goes p.tables e below (T5.setTop (mkF m 152 #[.val (.long p0), .second, .val (.long p1), .second, .val (.long p2), .second, .val (.long p3), .second, .val (.long p4), .second, .val (.int p5), .val (.int vn), .val (.long p0), .second, .val (.long v1), .second, .val (.long v2), .second, .val (.long v3), .second, .val (.long v4), .second, .val (.ref a5), .unset] [(.long v3)])) _
              refine g_lload X5 hx (hb hby at_152) rfl ?_
              show Goes p.tables e below (T5.setTop (mkF m 154 #[.val (.long p0), .second, .val (.long p1), .second, .val (.long p2), .second, .val (.long p3), .second, .val (.long p4), .second, .val (.int p5), .val (.int vn), .val (.long p0), .second, .val (.long v1), .second, .val (.long v2), .second, .val (.long v3), .second, .val (.long v4), .second, .val (.ref a5), .unset] [(.long v4), (.long v3)])) _
              refine g_lcmp X5 hx (hb hby at_154) ?_
              show Goes p.tables e below (T5.setTop (mkF m 155 #[.val (.long p0), .second, .val (.long p1), .second, .val (.long p2), .second, .val (.long p3), .second, .val (.long p4), .second, .val (.int p5), .val (.int vn), .val (.long p0), .second, .val (.long v1), .second, .val (.long v2), .second, .val (.long v3), .second, .val (.long v4), .second, .val (.ref a5), .unset] [(.int (XT.cmpL v3 v4))])) _
              refine g_lif_gt X5 hx (hb hby at_155) (by decide) (pc' := 162) (by decide) (fun c155 => ?_) (fun c155 => ?_)
              · skip
                show Goes p.tables e below (T5.setTop (mkF m 162 #[.val (.long p0), .second, .val (.long p1), .second, .val (.long p2), .second, .val (.long p3), .second, .val (.long p4), .second, .val (.int p5), .val (.int vn), .val (.long p0), .second, .val (.long v1), .second, .val (.long v2), .second, .val (.long v3), .second, .val (.long v4), .second, .val (.ref a5), .unset] [])) _
                refine g_iconst X5 hx (0 : Int32) (hb hby at_162) rfl ?_
                rw [show v8 = ((0 : Int32)) from by rw [hv8, if_pos c105, if_pos c119, if_neg c133, if_neg c141, if_neg c147, if_pos c155]] at J
                exact J
              · skip
                show Goes p.tables e below (T5.setTop (mkF m 158 #[.val (.long p0), .second, .val (.long p1), .second, .val (.long p2), .second, .val (.long p3), .second, .val (.long p4), .second, .val (.int p5), .val (.int vn), .val (.long p0), .second, .val (.long v1), .second, .val (.long v2), .second, .val (.long v3), .second, .val (.long v4), .second, .val (.ref a5), .unset] [])) _
                refine g_iconst X5 hx (1 : Int32) (hb hby at_158) rfl ?_
                show Goes p.tables e below (T5.setTop (mkF m 159 #[.val (.long p0), .second, .val (.long p1), .second, .val (.long p2), .second, .val (.long p3), .second, .val (.long p4), .second, .val (.int p5), .val (.int vn), .val (.long p0), .second, .val (.long v1), .second, .val (.long v2), .second, .val (.long v3), .second, .val (.long v4), .second, .val (.ref a5), .unset] [(.int (1 : Int32))])) _
                refine g_goto X5 hx (hb hby at_159) (by decide) (pc' := 163) (by decide) ?_
                rw [show v8 = ((1 : Int32)) from by rw [hv8, if_pos c105, if_pos c119, if_neg c133, if_neg c141, if_neg c147, if_neg c155]] at J
                exact J
      · skip
        show Goes p.tables e below (T5.setTop (mkF m 122 #[.val (.long p0), .second, .val (.long p1), .second, .val (.long p2), .second, .val (.long p3), .second, .val (.long p4), .second, .val (.int p5), .val (.int vn), .val (.long p0), .second, .val (.long v1), .second, .val (.long v2), .second, .val (.long v3), .second, .val (.long v4), .second, .val (.ref a5), .unset] [])) _
        refine g_lload X5 hx (hb hby at_122) rfl ?_
        show Goes p.tables e below (T5.setTop (mkF m 124 #[.val (.long p0), .second, .val (.long p1), .second, .val (.long p2), .second, .val (.long p3), .second, .val (.long p4), .second, .val (.int p5), .val (.int vn), .val (.long p0), .second, .val (.long v1), .second, .val (.long v2), .second, .val (.long v3), .second, .val (.long v4), .second, .val (.ref a5), .unset] [(.long v1)])) _
        refine g_lload X5 hx (hb hby at_124) rfl ?_
        show Goes p.tables e below (T5.setTop (mkF m 126 #[.val (.long p0), .second, .val (.long p1), .second, .val (.long p2), .second, .val (.long p3), .second, .val (.long p4), .second, .val (.int p5), .val (.int vn), .val (.long p0), .second, .val (.long v1), .second, .val (.long v2), .second, .val (.long v3), .second, .val (.long v4), .second, .val (.ref a5), .unset] [(.long v2), (.long v1)])) _
        refine g_lcmp X5 hx (hb hby at_126) ?_
        show Goes p.tables e below (T5.setTop (mkF m 127 #[.val (.long p0), .second, .val (.long p1), .second, .val (.long p2), .second, .val (.long p3), .second, .val (.long p4), .second, .val (.int p5), .val (.int vn), .val (.long p0), .second, .val (.long v1), .second, .val (.long v2), .second, .val (.long v3), .second, .val (.long v4), .second, .val (.ref a5), .unset] [(.int (XT.cmpL v1 v2))])) _
        refine g_lif_gt X5 hx (hb hby at_127) (by decide) (pc' := 162) (by decide) (fun c127 => ?_) (fun c127 => ?_)
        · skip
          show Goes p.tables e below (T5.setTop (mkF m 162 #[.val (.long p0), .second, .val (.long p1), .second, .val (.long p2), .second, .val (.long p3), .second, .val (.long p4), .second, .val (.int p5), .val (.int vn), .val (.long p0), .second, .val (.long v1), .second, .val (.long v2), .second, .val (.long v3), .second, .val (.long v4), .second, .val (.ref a5), .unset] [])) _
          refine g_iconst X5 hx (0 : Int32) (hb hby at_162) rfl ?_
          rw [show v8 = ((0 : Int32)) from by rw [hv8, if_pos c105, if_neg c119, if_pos c127]] at J
          exact J
        · skip
          show Goes p.tables e below (T5.setTop (mkF m 130 #[.val (.long p0), .second, .val (.long p1), .second, .val (.long p2), .second, .val (.long p3), .second, .val (.long p4), .second, .val (.int p5), .val (.int vn), .val (.long p0), .second, .val (.long v1), .second, .val (.long v2), .second, .val (.long v3), .second, .val (.long v4), .second, .val (.ref a5), .unset] [])) _
          refine g_iload X5 hx (hb hby at_130) rfl ?_
          show Goes p.tables e below (T5.setTop (mkF m 132 #[.val (.long p0), .second, .val (.long p1), .second, .val (.long p2), .second, .val (.long p3), .second, .val (.long p4), .second, .val (.int p5), .val (.int vn), .val (.long p0), .second, .val (.long v1), .second, .val (.long v2), .second, .val (.long v3), .second, .val (.long v4), .second, .val (.ref a5), .unset] [(.int vn)])) _
          refine g_iconst X5 hx (4 : Int32) (hb hby at_132) rfl ?_
          show Goes p.tables e below (T5.setTop (mkF m 133 #[.val (.long p0), .second, .val (.long p1), .second, .val (.long p2), .second, .val (.long p3), .second, .val (.long p4), .second, .val (.int p5), .val (.int vn), .val (.long p0), .second, .val (.long v1), .second, .val (.long v2), .second, .val (.long v3), .second, .val (.long v4), .second, .val (.ref a5), .unset] [(.int (4 : Int32)), (.int vn)])) _
          refine g_icmp_lt X5 hx (hb hby at_133) (by decide) (pc' := 144) (by decide) (fun c133 => ?_) (fun c133 => ?_)
          · skip
            show Goes p.tables e below (T5.setTop (mkF m 144 #[.val (.long p0), .second, .val (.long p1), .second, .val (.long p2), .second, .val (.long p3), .second, .val (.long p4), .second, .val (.int p5), .val (.int vn), .val (.long p0), .second, .val (.long v1), .second, .val (.long v2), .second, .val (.long v3), .second, .val (.long v4), .second, .val (.ref a5), .unset] [])) _
            refine g_iload X5 hx (hb hby at_144) rfl ?_
            show Goes p.tables e below (T5.setTop (mkF m 146 #[.val (.long p0), .second, .val (.long p1), .second, .val (.long p2), .second, .val (.long p3), .second, .val (.long p4), .second, .val (.int p5), .val (.int vn), .val (.long p0), .second, .val (.long v1), .second, .val (.long v2), .second, .val (.long v3), .second, .val (.long v4), .second, .val (.ref a5), .unset] [(.int vn)])) _
            refine g_iconst X5 hx (5 : Int32) (hb hby at_146) rfl ?_
            show Goes p.tables e below (T5.setTop (mkF m 147 #[.val (.long p0), .second, .val (.long p1), .second, .val (.long p2), .second, .val (.long p3), .second, .val (.long p4), .second, .val (.int p5), .val (.int vn), .val (.long p0), .second, .val (.long v1), .second, .val (.long v2), .second, .val (.long v3), .second, .val (.long v4), .second, .val (.ref a5), .unset] [(.int (5 : Int32)), (.int vn)])) _
            refine g_icmp_lt X5 hx (hb hby at_147) (by decide) (pc' := 158) (by decide) (fun c147 => ?_) (fun c147 => ?_)
            · skip
              show Goes p.tables e below (T5.setTop (mkF m 158 #[.val (.long p0), .second, .val (.long p1), .second, .val (.long p2), .second, .val (.long p3), .second, .val (.long p4), .second, .val (.int p5), .val (.int vn), .val (.long p0), .second, .val (.long v1), .second, .val (.long v2), .second, .val (.long v3), .second, .val (.long v4), .second, .val (.ref a5), .unset] [])) _
              refine g_iconst X5 hx (1 : Int32) (hb hby at_158) rfl ?_
              show Goes p.tables e below (T5.setTop (mkF m 159 #[.val (.long p0), .second, .val (.long p1), .second, .val (.long p2), .second, .val (.long p3), .second, .val (.long p4), .second, .val (.int p5), .val (.int vn), .val (.long p0), .second, .val (.long v1), .second, .val (.long v2), .second, .val (.long v3), .second, .val (.long v4), .second, .val (.ref a5), .unset] [(.int (1 : Int32))])) _
              refine g_goto X5 hx (hb hby at_159) (by decide) (pc' := 163) (by decide) ?_
              rw [show v8 = ((1 : Int32)) from by rw [hv8, if_pos c105, if_neg c119, if_neg c127, if_pos c133, if_pos c147]] at J
              exact J
            · skip
              show Goes p.tables e below (T5.setTop (mkF m 150 #[.val (.long p0), .second, .val (.long p1), .second, .val (.long p2), .second, .val (.long p3), .second, .val (.long p4), .second, .val (.int p5), .val (.int vn), .val (.long p0), .second, .val (.long v1), .second, .val (.long v2), .second, .val (.long v3), .second, .val (.long v4), .second, .val (.ref a5), .unset] [])) _
              refine g_lload X5 hx (hb hby at_150) rfl ?_
              show Goes p.tables e below (T5.setTop (mkF m 152 #[.val (.long p0), .second, .val (.long p1), .second, .val (.long p2), .second, .val (.long p3), .second, .val (.long p4), .second, .val (.int p5), .val (.int vn), .val (.long p0), .second, .val (.long v1), .second, .val (.long v2), .second, .val (.long v3), .second, .val (.long v4), .second, .val (.ref a5), .unset] [(.long v3)])) _
              refine g_lload X5 hx (hb hby at_152) rfl ?_
              show Goes p.tables e below (T5.setTop (mkF m 154 #[.val (.long p0), .second, .val (.long p1), .second, .val (.long p2), .second, .val (.long p3), .second, .val (.long p4), .second, .val (.int p5), .val (.int vn), .val (.long p0), .second, .val (.long v1), .second, .val (.long v2), .second, .val (.long v3), .second, .val (.long v4), .second, .val (.ref a5), .unset] [(.long v4), (.long v3)])) _
              refine g_lcmp X5 hx (hb hby at_154) ?_
              show Goes p.tables e below (T5.setTop (mkF m 155 #[.val (.long p0), .second, .val (.long p1), .second, .val (.long p2), .second, .val (.long p3), .second, .val (.long p4), .second, .val (.int p5), .val (.int vn), .val (.long p0), .second, .val (.long v1), .second, .val (.long v2), .second, .val (.long v3), .second, .val (.long v4), .second, .val (.ref a5), .unset] [(.int (XT.cmpL v3 v4))])) _
              refine g_lif_gt X5 hx (hb hby at_155) (by decide) (pc' := 162) (by decide) (fun c155 => ?_) (fun c155 => ?_)
              · skip
                show Goes p.tables e below (T5.setTop (mkF m 162 #[.val (.long p0), .second, .val (.long p1), .second, .val (.long p2), .second, .val (.long p3), .second, .val (.long p4), .second, .val (.int p5), .val (.int vn), .val (.long p0), .second, .val (.long v1), .second, .val (.long v2), .second, .val (.long v3), .second, .val (.long v4), .second, .val (.ref a5), .unset] [])) _
                refine g_iconst X5 hx (0 : Int32) (hb hby at_162) rfl ?_
                rw [show v8 = ((0 : Int32)) from by rw [hv8, if_pos c105, if_neg c119, if_neg c127, if_pos c133, if_neg c147, if_pos c155]] at J
                exact J
              · skip
                show Goes p.tables e below (T5.setTop (mkF m 158 #[.val (.long p0), .second, .val (.long p1), .second, .val (.long p2), .second, .val (.long p3), .second, .val (.long p4), .second, .val (.int p5), .val (.int vn), .val (.long p0), .second, .val (.long v1), .second, .val (.long v2), .second, .val (.long v3), .second, .val (.long v4), .second, .val (.ref a5), .unset] [])) _
                refine g_iconst X5 hx (1 : Int32) (hb hby at_158) rfl ?_
                show Goes p.tables e below (T5.setTop (mkF m 159 #[.val (.long p0), .second, .val (.long p1), .second, .val (.long p2), .second, .val (.long p3), .second, .val (.long p4), .second, .val (.int p5), .val (.int vn), .val (.long p0), .second, .val (.long v1), .second, .val (.long v2), .second, .val (.long v3), .second, .val (.long v4), .second, .val (.ref a5), .unset] [(.int (1 : Int32))])) _
                refine g_goto X5 hx (hb hby at_159) (by decide) (pc' := 163) (by decide) ?_
                rw [show v8 = ((1 : Int32)) from by rw [hv8, if_pos c105, if_neg c119, if_neg c127, if_pos c133, if_neg c147, if_neg c155]] at J
                exact J
          · skip
            show Goes p.tables e below (T5.setTop (mkF m 136 #[.val (.long p0), .second, .val (.long p1), .second, .val (.long p2), .second, .val (.long p3), .second, .val (.long p4), .second, .val (.int p5), .val (.int vn), .val (.long p0), .second, .val (.long v1), .second, .val (.long v2), .second, .val (.long v3), .second, .val (.long v4), .second, .val (.ref a5), .unset] [])) _
            refine g_lload X5 hx (hb hby at_136) rfl ?_
            show Goes p.tables e below (T5.setTop (mkF m 138 #[.val (.long p0), .second, .val (.long p1), .second, .val (.long p2), .second, .val (.long p3), .second, .val (.long p4), .second, .val (.int p5), .val (.int vn), .val (.long p0), .second, .val (.long v1), .second, .val (.long v2), .second, .val (.long v3), .second, .val (.long v4), .second, .val (.ref a5), .unset] [(.long v2)])) _
            refine g_lload X5 hx (hb hby at_138) rfl ?_
            show Goes p.tables e below (T5.setTop (mkF m 140 #[.val (.long p0), .second, .val (.long p1), .second, .val (.long p2), .second, .val (.long p3), .second, .val (.long p4), .second, .val (.int p5), .val (.int vn), .val (.long p0), .second, .val (.long v1), .second, .val (.long v2), .second, .val (.long v3), .second, .val (.long v4), .second, .val (.ref a5), .unset] [(.long v3), (.long v2)])) _
            refine g_lcmp X5 hx (hb hby at_140) ?_
            show Goes p.tables e below (T5.setTop (mkF m 141 #[.val (.long p0), .second, .val (.long p1), .second, .val (.long p2), .second, .val (.long p3), .second, .val (.long p4), .second, .val (.int p5), .val (.int vn), .val (.long p0), .second, .val (.long v1), .second, .val (.long v2), .second, .val (.long v3), .second, .val (.long v4), .second, .val (.ref a5), .unset] [(.int (XT.cmpL v2 v3))])) _
            refine g_lif_gt X5 hx (hb hby at_141) (by decide) (pc' := 162) (by decide) (fun c141 => ?_) (fun c141 => ?_)
            · skip
              show Goes p.tables e below (T5.setTop (mkF m 162 #[.val (.long p0), .second, .val (.long p1), .second, .val (.long p2), .second, .val (.long p3), .second, .val (.long p4), .second, .val (.int p5), .val (.int vn), .val (.long p0), .second, .val (.long v1), .second, .val (.long v2), .second, .val (.long v3), .second, .val (.long v4), .second, .val (.ref a5), .unset] [])) _
              refine g_iconst X5 hx (0 : Int32) (hb hby at_162) rfl ?_
              rw [show v8 = ((0 : Int32)) from by rw [hv8, if_pos c105, if_neg c119, if_neg c127, if_neg c133, if_pos c141]] at J
              exact J
            · skip
              show Goes p.tables e below (T5.setTop (mkF m 144 #[.val (.long p0), .second, .val (.long p1), .second, .val (.long p2), .second, .val (.long p3), .second, .val (.long p4), .second, .val (.int p5), .val (.int vn), .val (.long p0), .second, .val (.long v1), .second, .val (.long v2), .second, .val (.long v3), .second, .val (.long v4), .second, .val (.ref a5), .unset] [])) _
              refine g_iload X5 hx (hb hby at_144) rfl ?_
              show Goes p.tables e below (T5.setTop (mkF m 146 #[.val (.long p0), .second, .val (.long p1), .second, .val (.long p2), .second, .val (.long p3), .second, .val (.long p4), .second, .val (.int p5), .val (.int vn), .val (.long p0), .second, .val (.long v1), .second, .val (.long v2), .second, .val (.long v3), .second, .val (.long v4), .second, .val (.ref a5), .unset] [(.int vn)])) _
              refine g_iconst X5 hx (5 : Int32) (hb hby at_146) rfl ?_
              show Goes p.tables e below (T5.setTop (mkF m 147 #[.val (.long p0), .second, .val (.long p1), .second, .val (.long p2), .second, .val (.long p3), .second, .val (.long p4), .second, .val (.int p5), .val (.int vn), .val (.long p0), .second, .val (.long v1), .second, .val (.long v2), .second, .val (.long v3), .second, .val (.long v4), .second, .val (.ref a5), .unset] [(.int (5 : Int32)), (.int vn)])) _
              refine g_icmp_lt X5 hx (hb hby at_147) (by decide) (pc' := 158) (by decide) (fun c147 => ?_) (fun c147 => ?_)
              · skip
                show Goes p.tables e below (T5.setTop (mkF m 158 #[.val (.long p0), .second, .val (.long p1), .second, .val (.long p2), .second, .val (.long p3), .second, .val (.long p4), .second, .val (.int p5), .val (.int vn), .val (.long p0), .second, .val (.long v1), .second, .val (.long v2), .second, .val (.long v3), .second, .val (.long v4), .second, .val (.ref a5), .unset] [])) _
                refine g_iconst X5 hx (1 : Int32) (hb hby at_158) rfl ?_
                show Goes p.tables e below (T5.setTop (mkF m 159 #[.val (.long p0), .second, .val (.long p1), .second, .val (.long p2), .second, .val (.long p3), .second, .val (.long p4), .second, .val (.int p5), .val (.int vn), .val (.long p0), .second, .val (.long v1), .second, .val (.long v2), .second, .val (.long v3), .second, .val (.long v4), .second, .val (.ref a5), .unset] [(.int (1 : Int32))])) _
                refine g_goto X5 hx (hb hby at_159) (by decide) (pc' := 163) (by decide) ?_
                rw [show v8 = ((1 : Int32)) from by rw [hv8, if_pos c105, if_neg c119, if_neg c127, if_neg c133, if_neg c141, if_pos c147]] at J
                exact J
              · skip
                show Goes p.tables e below (T5.setTop (mkF m 150 #[.val (.long p0), .second, .val (.long p1), .second, .val (.long p2), .second, .val (.long p3), .second, .val (.long p4), .second, .val (.int p5), .val (.int vn), .val (.long p0), .second, .val (.long v1), .second, .val (.long v2), .second, .val (.long v3), .second, .val (.long v4), .second, .val (.ref a5), .unset] [])) _
                refine g_lload X5 hx (hb hby at_150) rfl ?_
                show Goes p.tables e below (T5.setTop (mkF m 152 #[.val (.long p0), .second, .val (.long p1), .second, .val (.long p2), .second, .val (.long p3), .second, .val (.long p4), .second, .val (.int p5), .val (.int vn), .val (.long p0), .second, .val (.long v1), .second, .val (.long v2), .second, .val (.long v3), .second, .val (.long v4), .second, .val (.ref a5), .unset] [(.long v3)])) _
                refine g_lload X5 hx (hb hby at_152) rfl ?_
                show Goes p.tables e below (T5.setTop (mkF m 154 #[.val (.long p0), .second, .val (.long p1), .second, .val (.long p2), .second, .val (.long p3), .second, .val (.long p4), .second, .val (.int p5), .val (.int vn), .val (.long p0), .second, .val (.long v1), .second, .val (.long v2), .second, .val (.long v3), .second, .val (.long v4), .second, .val (.ref a5), .unset] [(.long v4), (.long v3)])) _
                refine g_lcmp X5 hx (hb hby at_154) ?_
                show Goes p.tables e below (T5.setTop (mkF m 155 #[.val (.long p0), .second, .val (.long p1), .second, .val (.long p2), .second, .val (.long p3), .second, .val (.long p4), .second, .val (.int p5), .val (.int vn), .val (.long p0), .second, .val (.long v1), .second, .val (.long v2), .second, .val (.long v3), .second, .val (.long v4), .second, .val (.ref a5), .unset] [(.int (XT.cmpL v3 v4))])) _
                refine g_lif_gt X5 hx (hb hby at_155) (by decide) (pc' := 162) (by decide) (fun c155 => ?_) (fun c155 => ?_)
                · skip
                  show Goes p.tables e below (T5.setTop (mkF m 162 #[.val (.long p0), .second, .val (.long p1), .second, .val (.long p2), .second, .val (.long p3), .second, .val (.long p4), .second, .val (.int p5), .val (.int vn), .val (.long p0), .second, .val (.long v1), .second, .val (.long v2), .second, .val (.long v3), .second, .val (.long v4), .second, .val (.ref a5), .unset] [])) _
                  refine g_iconst X5 hx (0 : Int32) (hb hby at_162) rfl ?_
                  rw [show v8 = ((0 : Int32)) from by rw [hv8, if_pos c105, if_neg c119, if_neg c127, if_neg c133, if_neg c141, if_neg c147, if_pos c155]] at J
                  exact J
                · skip
                  show Goes p.tables e below (T5.setTop (mkF m 158 #[.val (.long p0), .second, .val (.long p1), .second, .val (.long p2), .second, .val (.long p3), .second, .val (.long p4), .second, .val (.int p5), .val (.int vn), .val (.long p0), .second, .val (.long v1), .second, .val (.long v2), .second, .val (.long v3), .second, .val (.long v4), .second, .val (.ref a5), .unset] [])) _
                  refine g_iconst X5 hx (1 : Int32) (hb hby at_158) rfl ?_
                  show Goes p.tables e below (T5.setTop (mkF m 159 #[.val (.long p0), .second, .val (.long p1), .second, .val (.long p2), .second, .val (.long p3), .second, .val (.long p4), .second, .val (.int p5), .val (.int vn), .val (.long p0), .second, .val (.long v1), .second, .val (.long v2), .second, .val (.long v3), .second, .val (.long v4), .second, .val (.ref a5), .unset] [(.int (1 : Int32))])) _
                  refine g_goto X5 hx (hb hby at_159) (by decide) (pc' := 163) (by decide) ?_
                  rw [show v8 = ((1 : Int32)) from by rw [hv8, if_pos c105, if_neg c119, if_neg c127, if_neg c133, if_neg c141, if_neg c147, if_neg c155]] at J
                  exact J
    · skip
      show Goes p.tables e below (T5.setTop (mkF m 108 #[.val (.long p0), .second, .val (.long p1), .second, .val (.long p2), .second, .val (.long p3), .second, .val (.long p4), .second, .val (.int p5), .val (.int vn), .val (.long p0), .second, .val (.long v1), .second, .val (.long v2), .second, .val (.long v3), .second, .val (.long v4), .second, .val (.ref a5), .unset] [])) _
      refine g_lload X5 hx (hb hby at_108) rfl ?_
      show Goes p.tables e below (T5.setTop (mkF m 110 #[.val (.long p0), .second, .val (.long p1), .second, .val (.long p2), .second, .val (.long p3), .second, .val (.long p4), .second, .val (.int p5), .val (.int vn), .val (.long p0), .second, .val (.long v1), .second, .val (.long v2), .second, .val (.long v3), .second, .val (.long v4), .second, .val (.ref a5), .unset] [(.long p0)])) _
      refine g_lload X5 hx (hb hby at_110) rfl ?_
      show Goes p.tables e below (T5.setTop (mkF m 112 #[.val (.long p0), .second, .val (.long p1), .second, .val (.long p2), .second, .val (.long p3), .second, .val (.long p4), .second, .val (.int p5), .val (.int vn), .val (.long p0), .second, .val (.long v1), .second, .val (.long v2), .second, .val (.long v3), .second, .val (.long v4), .second, .val (.ref a5), .unset] [(.long v1), (.long p0)])) _
      refine g_lcmp X5 hx (hb hby at_112) ?_
      show Goes p.tables e below (T5.setTop (mkF m 113 #[.val (.long p0), .second, .val (.long p1), .second, .val (.long p2), .second, .val (.long p3), .second, .val (.long p4), .second, .val (.int p5), .val (.int vn), .val (.long p0), .second, .val (.long v1), .second, .val (.long v2), .second, .val (.long v3), .second, .val (.long v4), .second, .val (.ref a5), .unset] [(.int (XT.cmpL p0 v1))])) _
      refine g_lif_gt X5 hx (hb hby at_113) (by decide) (pc' := 162) (by decide) (fun c113 => ?_) (fun c113 => ?_)
      · skip
        show Goes p.tables e below (T5.setTop (mkF m 162 #[.val (.long p0), .second, .val (.long p1), .second, .val (.long p2), .second, .val (.long p3), .second, .val (.long p4), .second, .val (.int p5), .val (.int vn), .val (.long p0), .second, .val (.long v1), .second, .val (.long v2), .second, .val (.long v3), .second, .val (.long v4), .second, .val (.ref a5), .unset] [])) _
        refine g_iconst X5 hx (0 : Int32) (hb hby at_162) rfl ?_
        rw [show v8 = ((0 : Int32)) from by rw [hv8, if_neg c105, if_pos c113]] at J
        exact J
      · skip
        show Goes p.tables e below (T5.setTop (mkF m 116 #[.val (.long p0), .second, .val (.long p1), .second, .val (.long p2), .second, .val (.long p3), .second, .val (.long p4), .second, .val (.int p5), .val (.int vn), .val (.long p0), .second, .val (.long v1), .second, .val (.long v2), .second, .val (.long v3), .second, .val (.long v4), .second, .val (.ref a5), .unset] [])) _
        refine g_iload X5 hx (hb hby at_116) rfl ?_
        show Goes p.tables e below (T5.setTop (mkF m 118 #[.val (.long p0), .second, .val (.long p1), .second, .val (.long p2), .second, .val (.long p3), .second, .val (.long p4), .second, .val (.int p5), .val (.int vn), .val (.long p0), .second, .val (.long v1), .second, .val (.long v2), .second, .val (.long v3), .second, .val (.long v4), .second, .val (.ref a5), .unset] [(.int vn)])) _
        refine g_iconst X5 hx (3 : Int32) (hb hby at_118) rfl ?_
        show Goes p.tables e below (T5.setTop (mkF m 119 #[.val (.long p0), .second, .val (.long p1), .second, .val (.long p2), .second, .val (.long p3), .second, .val (.long p4), .second, .val (.int p5), .val (.int vn), .val (.long p0), .second, .val (.long v1), .second, .val (.long v2), .second, .val (.long v3), .second, .val (.long v4), .second, .val (.ref a5), .unset] [(.int (3 : Int32)), (.int vn)])) _
        refine g_icmp_lt X5 hx (hb hby at_119) (by decide) (pc' := 130) (by decide) (fun c119 => ?_) (fun c119 => ?_)
        · skip
          show Goes p.tables e below (T5.setTop (mkF m 130 #[.val (.long p0), .second, .val (.long p1), .second, .val (.long p2), .second, .val (.long p3), .second, .val (.long p4), .second, .val (.int p5), .val (.int vn), .val (.long p0), .second, .val (.long v1), .second, .val (.long v2), .second, .val (.long v3), .second, .val (.long v4), .second, .val (.ref a5), .unset] [])) _
          refine g_iload X5 hx (hb hby at_130) rfl ?_
          show Goes p.tables e below (T5.setTop (mkF m 132 #[.val (.long p0), .second, .val (.long p1), .second, .val (.long p2), .second, .val (.long p3), .second, .val (.long p4), .second, .val (.int p5), .val (.int vn), .val (.long p0), .second, .val (.long v1), .second, .val (.long v2), .second, .val (.long v3), .second, .val (.long v4), .second, .val (.ref a5), .unset] [(.int vn)])) _
          refine g_iconst X5 hx (4 : Int32) (hb hby at_132) rfl ?_
          show Goes p.tables e below (T5.setTop (mkF m 133 #[.val (.long p0), .second, .val (.long p1), .second, .val (.long p2), .second, .val (.long p3), .second, .val (.long p4), .second, .val (.int p5), .val (.int vn), .val (.long p0), .second, .val (.long v1), .second, .val (.long v2), .second, .val (.long v3), .second, .val (.long v4), .second, .val (.ref a5), .unset] [(.int (4 : Int32)), (.int vn)])) _
          refine g_icmp_lt X5 hx (hb hby at_133) (by decide) (pc' := 144) (by decide) (fun c133 => ?_) (fun c133 => ?_)
          · skip
            show Goes p.tables e below (T5.setTop (mkF m 144 #[.val (.long p0), .second, .val (.long p1), .second, .val (.long p2), .second, .val (.long p3), .second, .val (.long p4), .second, .val (.int p5), .val (.int vn), .val (.long p0), .second, .val (.long v1), .second, .val (.long v2), .second, .val (.long v3), .second, .val (.long v4), .second, .val (.ref a5), .unset] [])) _
            refine g_iload X5 hx (hb hby at_144) rfl ?_
            show Goes p.tables e below (T5.setTop (mkF m 146 #[.val (.long p0), .second, .val (.long p1), .second, .val (.long p2), .second, .val (.long p3), .second, .val (.long p4), .second, .val (.int p5), .val (.int vn), .val (.long p0), .second, .val (.long v1), .second, .val (.long v2), .second, .val (.long v3), .second, .val (.long v4), .second, .val (.ref a5), .unset] [(.int vn)])) _
            refine g_iconst X5 hx (5 : Int32) (hb hby at_146) rfl ?_
            show Goes p.tables e below (T5.setTop (mkF m 147 #[.val (.long p0), .second, .val (.long p1), .second, .val (.long p2), .second, .val (.long p3), .second, .val (.long p4), .second, .val (.int p5), .val (.int vn), .val (.long p0), .second, .val (.long v1), .second, .val (.long v2), .second, .val (.long v3), .second, .val (.long v4), .second, .val (.ref a5), .unset] [(.int (5 : Int32)), (.int vn)])) _
            refine g_icmp_lt X5 hx (hb hby at_147) (by decide) (pc' := 158) (by decide) (fun c147 => ?_) (fun c147 => ?_)
            · skip
              show Goes p.tables e below (T5.setTop (mkF m 158 #[.val (.long p0), .second, .val (.long p1), .second, .val (.long p2), .second, .val (.long p3), .second, .val (.long p4), .second, .val (.int p5), .val (.int vn), .val (.long p0), .second, .val (.long v1), .second, .val (.long v2), .second, .val (.long v3), .second, .val (.long v4), .second, .val (.ref a5), .unset] [])) _
              refine g_iconst X5 hx (1 : Int32) (hb hby at_158) rfl ?_
              show Goes p.tables e below (T5.setTop (mkF m 159 #[.val (.long p0), .second, .val (.long p1), .second, .val (.long p2), .second, .val (.long p3), .second, .val (.long p4), .second, .val (.int p5), .val (.int vn), .val (.long p0), .second, .val (.long v1), .second, .val (.long v2), .second, .val (.long v3), .second, .val (.long v4), .second, .val (.ref a5), .unset] [(.int (1 : Int32))])) _
              refine g_goto X5 hx (hb hby at_159) (by decide) (pc' := 163) (by decide) ?_
              rw [show v8 = ((1 : Int32)) from by rw [hv8, if_neg c105, if_neg c113, if_pos c119, if_pos c133, if_pos c147]] at J
              exact J
            · skip
              show Goes p.tables e below (T5.setTop (mkF m 150 #[.val (.long p0), .second, .val (.long p1), .second, .val (.long p2), .second, .val (.long p3), .second, .val (.long p4), .second, .val (.int p5), .val (.int vn), .val (.long p0), .second, .val (.long v1), .second, .val (.long v2), .second, .val (.long v3), .second, .val (.long v4), .second, .val (.ref a5), .unset] [])) _
              refine g_lload X5 hx (hb hby at_150) rfl ?_
              show Goes p.tables e below (T5.setTop (mkF m 152 #[.val (.long p0), .second, .val (.long p1), .second, .val (.long p2), .second, .val (.long p3), .second, .val (.long p4), .second, .val (.int p5), .val (.int vn), .val (.long p0), .second, .val (.long v1), .second, .val (.long v2), .second, .val (.long v3), .second, .val (.long v4), .second, .val (.ref a5), .unset] [(.long v3)])) _
              refine g_lload X5 hx (hb hby at_152) rfl ?_
              show Goes p.tables e below (T5.setTop (mkF m 154 #[.val (.long p0), .second, .val (.long p1), .second, .val (.long p2), .second, .val (.long p3), .second, .val (.long p4), .second, .val (.int p5), .val (.int vn), .val (.long p0), .second, .val (.long v1), .second, .val (.long v2), .second, .val (.long v3), .second, .val (.long v4), .second, .val (.ref a5), .unset] [(.long v4), (.long v3)])) _
              refine g_lcmp X5 hx (hb hby at_154) ?_
              show Goes p.tables e below (T5.setTop (mkF m 155 #[.val (.long p0), .second, .val (.long p1), .second, .val (.long p2), .second, .val (.long p3), .second, .val (.long p4), .second, .val (.int p5), .val (.int vn), .val (.long p0), .second, .val (.long v1), .second, .val (.long v2), .second, .val (.long v3), .second, .val (.long v4), .second, .val (.ref a5), .unset] [(.int (XT.cmpL v3 v4))])) _
              refine g_lif_gt X5 hx (hb hby at_155) (by decide) (pc' := 162) (by decide) (fun c155 => ?_) (fun c155 => ?_)
              · skip
                show Goes p.tables e below (T5.setTop (mkF m 162 #[.val (.long p0), .second, .val (.long p1), .second, .val (.long p2), .second, .val (.long p3), .second, .val (.long p4), .second, .val (.int p5), .val (.int vn), .val (.long p0), .second, .val (.long v1), .second, .val (.long v2), .second, .val (.long v3), .second, .val (.long v4), .second, .val (.ref a5), .unset] [])) _
                refine g_iconst X5 hx (0 : Int32) (hb hby at_162) rfl ?_
                rw [show v8 = ((0 : Int32)) from by rw [hv8, if_neg c105, if_neg c113, if_pos c119, if_pos c133, if_neg c147, if_pos c155]] at J
                exact J
              · skip
                show Goes p.tables e below (T5.setTop (mkF m 158 #[.val (.long p0), .second, .val (.long p1), .second, .val (.long p2), .second, .val (.long p3), .second, .val (.long p4), .second, .val (.int p5), .val (.int vn), .val (.long p0), .second, .val (.long v1), .second, .val (.long v2), .second, .val (.long v3), .second, .val (.long v4), .second, .val (.ref a5), .unset] [])) _
                refine g_iconst X5 hx (1 : Int32) (hb hby at_158) rfl ?_
                show Goes p.tables e below (T5.setTop (mkF m 159 #[.val (.long p0), .second, .val (.long p1), .second, .val (.long p2), .second, .val (.long p3), .second, .val (.long p4), .second, .val (.int p5), .val (.int vn), .val (.long p0), .second, .val (.long v1), .second, .val (.long v2), .second, .val (.long v3), .second, .val (.long v4), .second, .val (.ref a5), .unset] [(.int (1 : Int32))])) _
                refine g_goto X5 hx (hb hby at_159) (by decide) (pc' := 163) (by decide) ?_
                rw [show v8 = ((1 : Int32)) from by rw [hv8, if_neg c105, if_neg c113, if_pos c119, if_pos c133, if_neg c147, if_neg c155]] at J
                exact J
          · skip
            show Goes p.tables e below (T5.setTop (mkF m 136 #[.val (.long p0), .second, .val (.long p1), .second, .val (.long p2), .second, .val (.long p3), .second, .val (.long p4), .second, .val (.int p5), .val (.int vn), .val (.long p0), .second, .val (.long v1), .second, .val (.long v2), .second, .val (.long v3), .second, .val (.long v4), .second, .val (.ref a5), .unset] [])) _
            refine g_lload X5 hx (hb hby at_136) rfl ?_
            show Goes p.tables e below (T5.setTop (mkF m 138 #[.val (.long p0), .second, .val (.long p1), .second, .val (.long p2), .second, .val (.long p3), .second, .val (.long p4), .second, .val (.int p5), .val (.int vn), .val (.long p0), .second, .val (.long v1), .second, .val (.long v2), .second, .val (.long v3), .second, .val (.long v4), .second, .val (.ref a5), .unset] [(.long v2)])) _
            refine g_lload X5 hx (hb hby at_138) rfl ?_
            show Goes p.tables e below (T5.setTop (mkF m 140 #[.val (.long p0), .second, .val (.long p1), .second, .val (.long p2), .second, .val (.long p3), .second, .val (.long p4), .second, .val (.int p5), .val (.int vn), .val (.long p0), .second, .val (.long v1), .second, .val (.long v2), .second, .val (.long v3), .second, .val (.long v4), .second, .val (.ref a5), .unset] [(.long v3), (.long v2)])) _
            refine g_lcmp X5 hx (hb hby at_140) ?_
            show Goes p.tables e below (T5.setTop (mkF m 141 #[.val (.long p0), .second, .val (.long p1), .second, .val (.long p2), .second, .val (.long p3), .second, .val (.long p4), .second, .val (.int p5), .val (.int vn), .val (.long p0), .second, .val (.long v1), .second, .val (.long v2), .second, .val (.long v3), .second, .val (.long v4), .second, .val (.ref a5), .unset] [(.int (XT.cmpL v2 v3))])) _
            refine g_lif_gt X5 hx (hb hby at_141) (by decide) (pc' := 162) (by decide) (fun c141 => ?_) (fun c141 => ?_)
            · skip
              show Goes p.tables e below (T5.setTop (mkF m 162 #[.val (.long p0), .second, .val (.long p1), .second, .val (.long p2), .second, .val (.long p3), .second, .val (.long p4), .second, .val (.int p5), .val (.int vn), .val (.long p0), .second, .val (.long v1), .second, .val (.long v2), .second, .val (.long v3), .second, .val (.long v4), .second, .val (.ref a5), .unset] [])) _
              refine g_iconst X5 hx (0 : Int32) (hb hby at_162) rfl ?_
              rw [show v8 = ((0 : Int32)) from by rw [hv8, if_neg c105, if_neg c113, if_pos c119, if_neg c133, if_pos c141]] at J
              exact J
            · skip
              show Goes p.tables e below (T5.setTop (mkF m 144 #[.val (.long p0), .second, .val (.long p1), .second, .val (.long p2), .second, .val (.long p3), .second, .val (.long p4), .second, .val (.int p5), .val (.int vn), .val (.long p0), .second, .val (.long v1), .second, .val (.long v2), .second, .val (.long v3), .second, .val (.long v4), .second, .val (.ref a5), .unset] [])) _
              refine g_iload X5 hx (hb hby at_144) rfl ?_
              show Goes p.tables e below (T5.setTop (mkF m 146 #[.val (.long p0), .second, .val (.long p1), .second, .val (.long p2), .second, .val (.long p3), .second, .val (.long p4), .second, .val (.int p5), .val (.int vn), .val (.long p0), .second, .val (.long v1), .second, .val (.long v2), .second, .val (.long v3), .second, .val (.long v4), .second, .val (.ref a5), .unset] [(.int vn)])) _
              refine g_iconst X5 hx (5 : Int32) (hb hby at_146) rfl ?_
              show Goes p.tables e below (T5.setTop (mkF m 147 #[.val (.long p0), .second, .val (.long p1), .second, .val (.long p2), .second, .val (.long p3), .second, .val (.long p4), .second, .val (.int p5), .val (.int vn), .val (.long p0), .second, .val (.long v1), .second, .val (.long v2), .second, .val (.long v3), .second, .val (.long v4), .second, .val (.ref a5), .unset] [(.int (5 : Int32)), (.int vn)])) _
              refine g_icmp_lt X5 hx (hb hby at_147) (by decide) (pc' := 158) (by decide) (fun c147 => ?_) (fun c147 => ?_)
              · skip
                show Goes p.tables e below (T5.setTop (mkF m 158 #[.val (.long p0), .second, .val (.long p1), .second, .val (.long p2), .second, .val (.long p3), .second, .val (.long p4), .second, .val (.int p5), .val (.int vn), .val (.long p0), .second, .val (.long v1), .second, .val (.long v2), .second, .val (.long v3), .second, .val (.long v4), .second, .val (.ref a5), .unset] [])) _
                refine g_iconst X5 hx (1 : Int32) (hb hby at_158) rfl ?_
                show Goes p.tables e below (T5.setTop (mkF m 159 #[.val (.long p0), .second, .val (.long p1), .second, .val (.long p2), .second, .val (.long p3), .second, .val (.long p4), .second, .val (.int p5), .val (.int vn), .val (.long p0), .second, .val (.long v1), .second, .val (.long v2), .second, .val (.long v3), .second, .val (.long v4), .second, .val (.ref a5), .unset] [(.int (1 : Int32))])) _
                refine g_goto X5 hx (hb hby at_159) (by decide) (pc' := 163) (by decide) ?_
                rw [show v8 = ((1 : Int32)) from by rw [hv8, if_neg c105, if_neg c113, if_pos c119, if_neg c133, if_neg c141, if_pos c147]] at J
                exact J
              · skip
                show Goes p.tables e below (T5.setTop (mkF m 150 #[.val (.long p0), .second, .val (.long p1), .second, .val (.long p2), .second, .val (.long p3), .second, .val (.long p4), .second, .val (.int p5), .val (.int vn), .val (.long p0), .second, .val (.long v1), .second, .val (.long v2), .second, .val (.long v3), .second, .val (.long v4), .second, .val (.ref a5), .unset] [])) _
                refine g_lload X5 hx (hb hby at_150) rfl ?_
                show Goes p.tables e below (T5.setTop (mkF m 152 #[.val (.long p0), .second, .val (.long p1), .second, .val (.long p2), .second, .val (.long p3), .second, .val (.long p4), .second, .val (.int p5), .val (.int vn), .val (.long p0), .second, .val (.long v1), .second, .val (.long v2), .second, .val (.long v3), .second, .val (.long v4), .second, .val (.ref a5), .unset] [(.long v3)])) _
                refine g_lload X5 hx (hb hby at_152) rfl ?_
                show Goes p.tables e below (T5.setTop (mkF m 154 #[.val (.long p0), .second, .val (.long p1), .second, .val (.long p2), .second, .val (.long p3), .second, .val (.long p4), .second, .val (.int p5), .val (.int vn), .val (.long p0), .second, .val (.long v1), .second, .val (.long v2), .second, .val (.long v3), .second, .val (.long v4), .second, .val (.ref a5), .unset] [(.long v4), (.long v3)])) _
                refine g_lcmp X5 hx (hb hby at_154) ?_
                show Goes p.tables e below (T5.setTop (mkF m 155 #[.val (.long p0), .second, .val (.long p1), .second, .val (.long p2), .second, .val (.long p3), .second, .val (.long p4), .second, .val (.int p5), .val (.int vn), .val (.long p0), .second, .val (.long v1), .second, .val (.long v2), .second, .val (.long v3), .second, .val (.long v4), .second, .val (.ref a5), .unset] [(.int (XT.cmpL v3 v4))])) _
                refine g_lif_gt X5 hx (hb hby at_155) (by decide) (pc' := 162) (by decide) (fun c155 => ?_) (fun c155 => ?_)
                · skip
                  show Goes p.tables e below (T5.setTop (mkF m 162 #[.val (.long p0), .second, .val (.long p1), .second, .val (.long p2), .second, .val (.long p3), .second, .val (.long p4), .second, .val (.int p5), .val (.int vn), .val (.long p0), .second, .val (.long v1), .second, .val (.long v2), .second, .val (.long v3), .second, .val (.long v4), .second, .val (.ref a5), .unset] [])) _
                  refine g_iconst X5 hx (0 : Int32) (hb hby at_162) rfl ?_
                  rw [show v8 = ((0 : Int32)) from by rw [hv8, if_neg c105, if_neg c113, if_pos c119, if_neg c133, if_neg c141, if_neg c147, if_pos c155]] at J
                  exact J
                · skip
                  show Goes p.tables e below (T5.setTop (mkF m 158 #[.val (.long p0), .second, .val (.long p1), .second, .val (.long p2), .second, .val (.long p3), .second, .val (.long p4), .second, .val (.int p5), .val (.int vn), .val (.long p0), .second, .val (.long v1), .second, .val (.long v2), .second, .val (.long v3), .second, .val (.long v4), .second, .val (.ref a5), .unset] [])) _
                  refine g_iconst X5 hx (1 : Int32) (hb hby at_158) rfl ?_
                  show Goes p.tables e below (T5.setTop (mkF m 159 #[.val (.long p0), .second, .val (.long p1), .second, .val (.long p2), .second, .val (.long p3), .second, .val (.long p4), .second, .val (.int p5), .val (.int vn), .val (.long p0), .second, .val (.long v1), .second, .val (.long v2), .second, .val (.long v3), .second, .val (.long v4), .second, .val (.ref a5), .unset] [(.int (1 : Int32))])) _
                  refine g_goto X5 hx (hb hby at_159) (by decide) (pc' := 163) (by decide) ?_
                  rw [show v8 = ((1 : Int32)) from by rw [hv8, if_neg c105, if_neg c113, if_pos c119, if_neg c133, if_neg c141, if_neg c147, if_neg c155]] at J
                  exact J
        · skip
          show Goes p.tables e below (T5.setTop (mkF m 122 #[.val (.long p0), .second, .val (.long p1), .second, .val (.long p2), .second, .val (.long p3), .second, .val (.long p4), .second, .val (.int p5), .val (.int vn), .val (.long p0), .second, .val (.long v1), .second, .val (.long v2), .second, .val (.long v3), .second, .val (.long v4), .second, .val (.ref a5), .unset] [])) _
          refine g_lload X5 hx (hb hby at_122) rfl ?_
          show Goes p.tables e below (T5.setTop (mkF m 124 #[.val (.long p0), .second, .val (.long p1), .second, .val (.long p2), .second, .val (.long p3), .second, .val (.long p4), .second, .val (.int p5), .val (.int vn), .val (.long p0), .second, .val (.long v1), .second, .val (.long v2), .second, .val (.long v3), .second, .val (.long v4), .second, .val (.ref a5), .unset] [(.long v1)])) _
          refine g_lload X5 hx (hb hby at_124) rfl ?_
          show Goes p.tables e below (T5.setTop (mkF m 126 #[.val (.long p0), .second, .val (.long p1), .second, .val (.long p2), .second, .val (.long p3), .second, .val (.long p4), .second, .val (.int p5), .val (.int vn), .val (.long p0), .second, .val (.long v1), .second, .val (.long v2), .second, .val (.long v3), .second, .val (.long v4), .second, .val (.ref a5), .unset] [(.long v2), (.long v1)])) _
          refine g_lcmp X5 hx (hb hby at_126) ?_
          show Goes p.tables e below (T5.setTop (mkF m 127 #[.val (.long p0), .second, .val (.long p1), .second, .val (.long p2), .second, .val (.long p3), .second, .val (.long p4), .second, .val (.int p5), .val (.int vn), .val (.long p0), .second, .val (.long v1), .second, .val (.long v2), .second, .val (.long v3), .second, .val (.long v4), .second, .val (.ref a5), .unset] [(.int (XT.cmpL v1 v2))])) _
          refine g_lif_gt X5 hx (hb hby at_127) (by decide) (pc' := 162) (by decide) (fun c127 => ?_) (fun c127 => ?_)
          · skip
            show Goes p.tables e below (T5.setTop (mkF m 162 #[.val (.long p0), .second, .val (.long p1), .second, .val (.long p2), .second, .val (.long p3), .second, .val (.long p4), .second, .val (.int p5), .val (.int vn), .val (.long p0), .second, .val (.long v1), .second, .val (.long v2), .second, .val (.long v3), .second, .val (.long v4), .second, .val (.ref a5), .unset] [])) _
            refine g_iconst X5 hx (0 : Int32) (hb hby at_162) rfl ?_
            rw [show v8 = ((0 : Int32)) from by rw [hv8, if_neg c105, if_neg c113, if_neg c119, if_pos c127]] at J
            exact J
          · skip
            show Goes p.tables e below (T5.setTop (mkF m 130 #[.val (.long p0), .second, .val (.long p1), .second, .val (.long p2), .second, .val (.long p3), .second, .val (.long p4), .second, .val (.int p5), .val (.int vn), .val (.long p0), .second, .val (.long v1), .second, .val (.long v2), .second, .val (.long v3), .second, .val (.long v4), .second, .val (.ref a5), .unset] [])) _
            refine g_iload X5 hx (hb hby at_130) rfl ?_
            show Goes p.tables e below (T5.setTop (mkF m 132 #[.val (.long p0), .second, .val (.long p1), .second, .val (.long p2), .second, .val (.long p3), .second, .val (.long p4), .second, .val (.int p5), .val (.int vn), .val (.long p0), .second, .val (.long v1), .second, .val (.long v2), .second, .val (.long v3), .second, .val (.long v4), .second, .val (.ref a5), .unset] [(.int vn)])) _
            refine g_iconst X5 hx (4 : Int32) (hb hby at_132) rfl ?_
            show Goes p.tables e below (T5.setTop (mkF m 133 #[.val (.long p0), .second, .val (.long p1), .second, .val (.long p2), .second, .val (.long p3), .second, .val (.long p4), .second, .val (.int p5), .val (.int vn), .val (.long p0), .second, .val (.long v1), .second, .val (.long v2), .second, .val (.long v3), .second, .val (.long v4), .second, .val (.ref a5), .unset] [(.int (4 : Int32)), (.int vn)])) _
            refine g_icmp_lt X5 hx (hb hby at_133) (by decide) (pc' := 144) (by decide) (fun c133 => ?_) (fun c133 => ?_)
            · skip
              show Goes p.tables e below (T5.setTop (mkF m 144 #[.val (.long p0), .second, .val (.long p1), .second, .val (.long p2), .second, .val (.long p3), .second, .val (.long p4), .second, .val (.int p5), .val (.int vn), .val (.long p0), .second, .val (.long v1), .second, .val (.long v2), .second, .val (.long v3), .second, .val (.long v4), .second, .val (.ref a5), .unset] [])) _
              refine g_iload X5 hx (hb hby at_144) rfl ?_
              show Goes p.tables e below (T5.setTop (mkF m 146 #[.val (.long p0), .second, .val (.long p1), .second, .val (.long p2), .second, .val (.long p3), .second, .val (.long p4), .second, .val (.int p5), .val (.int vn), .val (.long p0), .second, .val (.long v1), .second, .val (.long v2), .second, .val (.long v3), .second, .val (.long v4), .second, .val (.ref a5), .unset] [(.int vn)])) _
              refine g_iconst X5 hx (5 : Int32) (hb hby at_146) rfl ?_
              show Goes p.tables e below (T5.setTop (mkF m 147 #[.val (.long p0), .second, .val (.long p1), .second, .val (.long p2), .second, .val (.long p3), .second, .val (.long p4), .second, .val (.int p5), .val (.int vn), .val (.long p0), .second, .val (.long v1), .second, .val (.long v2), .second, .val (.long v3), .second, .val (.long v4), .second, .val (.ref a5), .unset] [(.int (5 : Int32)), (.int vn)])) _
              refine g_icmp_lt X5 hx (hb hby at_147) (by decide) (pc' := 158) (by decide) (fun c147 => ?_) (fun c147 => ?_)
              · skip
                show Goes p.tables e below (T5.setTop (mkF m 158 #[.val (.long p0), .second, .val (.long p1), .second, .val (.long p2), .second, .val (.long p3), .second, .val (.long p4), .second, .val (.int p5), .val (.int vn), .val (.long p0), .second, .val (.long v1), .second, .val (.long v2), .second, .val (.long v3), .second, .val (.long v4), .second, .val (.ref a5), .unset] [])) _
                refine g_iconst X5 hx (1 : Int32) (hb hby at_158) rfl ?_
                show Goes p.tables e below (T5.setTop (mkF m 159 #[.val (.long p0), .second, .val (.long p1), .second, .val (.long p2), .second, .val (.long p3), .second, .val (.long p4), .second, .val (.int p5), .val (.int vn), .val (.long p0), .second, .val (.long v1), .second, .val (.long v2), .second, .val (.long v3), .second, .val (.long v4), .second, .val (.ref a5), .unset] [(.int (1 : Int32))])) _
                refine g_goto X5 hx (hb hby at_159) (by decide) (pc' := 163) (by decide) ?_
                rw [show v8 = ((1 : Int32)) from by rw [hv8, if_neg c105, if_neg c113, if_neg c119, if_neg c127, if_pos c133, if_pos c147]] at J
                exact J
              · skip
                show Goes p.tables e below (T5.setTop (mkF m 150 #[.val (.long p0), .second, .val (.long p1), .second, .val (.long p2), .second, .val (.long p3), .second, .val (.long p4), .second, .val (.int p5), .val (.int vn), .val (.long p0), .second, .val (.long v1), .second, .val (.long v2), .second, .val (.long v3), .second, .val (.long v4), .second, .val (.ref a5), .unset] [])) _
                refine g_lload X5 hx (hb hby at_150) rfl ?_
                show Goes p.tables e below (T5.setTop (mkF m 152 #[.val (.long p0), .second, .val (.long p1), .second, .val (.long p2), .second, .val (.long p3), .second, .val (.long p4), .second, .val (.int p5), .val (.int vn), .val (.long p0), .second, .val (.long v1), .second, .val (.long v2), .second, .val (.long v3), .second, .val (.long v4), .second, .val (.ref a5), .unset] [(.long v3)])) _
                refine g_lload X5 hx (hb hby at_152) rfl ?_
                show Goes p.tables e below (T5.setTop (mkF m 154 #[.val (.long p0), .second, .val (.long p1), .second, .val (.long p2), .second, .val (.long p3), .second, .val (.long p4), .second, .val (.int p5), .val (.int vn), .val (.long p0), .second, .val (.long v1), .second, .val (.long v2), .second, .val (.long v3), .second, .val (.long v4), .second, .val (.ref a5), .unset] [(.long v4), (.long v3)])) _
                refine g_lcmp X5 hx (hb hby at_154) ?_
                show Goes p.tables e below (T5.setTop (mkF m 155 #[.val (.long p0), .second, .val (.long p1), .second, .val (.long p2), .second, .val (.long p3), .second, .val (.long p4), .second, .val (.int p5), .val (.int vn), .val (.long p0), .second, .val (.long v1), .second, .val (.long v2), .second, .val (.long v3), .second, .val (.long v4), .second, .val (.ref a5), .unset] [(.int (XT.cmpL v3 v4))])) _
                refine g_lif_gt X5 hx (hb hby at_155) (by decide) (pc' := 162) (by decide) (fun c155 => ?_) (fun c155 => ?_)
                · skip
                  show Goes p.tables e below (T5.setTop (mkF m 162 #[.val (.long p0), .second, .val (.long p1), .second, .val (.long p2), .second, .val (.long p3), .second, .val (.long p4), .second, .val (.int p5), .val (.int vn), .val (.long p0), .second, .val (.long v1), .second, .val (.long v2), .second, .val (.long v3), .second, .val (.long v4), .second, .val (.ref a5), .unset] [])) _
                  refine g_iconst X5 hx (0 : Int32) (hb hby at_162) rfl ?_
                  rw [show v8 = ((0 : Int32)) from by rw [hv8, if_neg c105, if_neg c113, if_neg c119, if_neg c127, if_pos c133, if_neg c147, if_pos c155]] at J
                  exact J
                · skip
                  show Goes p.tables e below (T5.setTop (mkF m 158 #[.val (.long p0), .second, .val (.long p1), .second, .val (.long p2), .second, .val (.long p3), .second, .val (.long p4), .second, .val (.int p5), .val (.int vn), .val (.long p0), .second, .val (.long v1), .second, .val (.long v2), .second, .val (.long v3), .second, .val (.long v4), .second, .val (.ref a5), .unset] [])) _
                  refine g_iconst X5 hx (1 : Int32) (hb hby at_158) rfl ?_
                  show Goes p.tables e below (T5.setTop (mkF m 159 #[.val (.long p0), .second, .val (.long p1), .second, .val (.long p2), .second, .val (.long p3), .second, .val (.long p4), .second, .val (.int p5), .val (.int vn), .val (.long p0), .second, .val (.long v1), .second, .val (.long v2), .second, .val (.long v3), .second, .val (.long v4), .second, .val (.ref a5), .unset] [(.int (1 : Int32))])) _
                  refine g_goto X5 hx (hb hby at_159) (by decide) (pc' := 163) (by decide) ?_
                  rw [show v8 = ((1 : Int32)) from by rw [hv8, if_neg c105, if_neg c113, if_neg c119, if_neg c127, if_pos c133, if_neg c147, if_neg c155]] at J
                  exact J
            · skip
              show Goes p.tables e below (T5.setTop (mkF m 136 #[.val (.long p0), .second, .val (.long p1), .second, .val (.long p2), .second, .val (.long p3), .second, .val (.long p4), .second, .val (.int p5), .val (.int vn), .val (.long p0), .second, .val (.long v1), .second, .val (.long v2), .second, .val (.long v3), .second, .val (.long v4), .second, .val (.ref a5), .unset] [])) _
              refine g_lload X5 hx (hb hby at_136) rfl ?_
              show Goes p.tables e below (T5.setTop (mkF m 138 #[.val (.long p0), .second, .val (.long p1), .second, .val (.long p2), .second, .val (.long p3), .second, .val (.long p4), .second, .val (.int p5), .val (.int vn), .val (.long p0), .second, .val (.long v1), .second, .val (.long v2), .second, .val (.long v3), .second, .val (.long v4), .second, .val (.ref a5), .unset] [(.long v2)])) _
              refine g_lload X5 hx (hb hby at_138) rfl ?_
              show Goes p.tables e below (T5.setTop (mkF m 140 #[.val (.long p0), .second, .val (.long p1), .second, .val (.long p2), .second, .val (.long p3), .second, .val (.long p4), .second, .val (.int p5), .val (.int vn), .val (.long p0), .second, .val (.long v1), .second, .val (.long v2), .second, .val (.long v3), .second, .val (.long v4), .second, .val (.ref a5), .unset] [(.long v3), (.long v2)])) _
              refine g_lcmp X5 hx (hb hby at_140) ?_
              show Goes p.tables e below (T5.setTop (mkF m 141 #[.val (.long p0), .second, .val (.long p1), .second, .val (.long p2), .second, .val (.long p3), .second, .val (.long p4), .second, .val (.int p5), .val (.int vn), .val (.long p0), .second, .val (.long v1), .second, .val (.long v2), .second, .val (.long v3), .second, .val (.long v4), .second, .val (.ref a5), .unset] [(.int (XT.cmpL v2 v3))])) _
              refine g_lif_gt X5 hx (hb hby at_141) (by decide) (pc' := 162) (by decide) (fun c141 => ?_) (fun c141 => ?_)
              · skip
                show Goes p.tables e below (T5.setTop (mkF m 162 #[.val (.long p0), .second, .val (.long p1), .second, .val (.long p2), .second, .val (.long p3), .second, .val (.long p4), .second, .val (.int p5), .val (.int vn), .val (.long p0), .second, .val (.long v1), .second, .val (.long v2), .second, .val (.long v3), .second, .val (.long v4), .second, .val (.ref a5), .unset] [])) _
                refine g_iconst X5 hx (0 : Int32) (hb hby at_162) rfl ?_
                rw [show v8 = ((0 : Int32)) from by rw [hv8, if_neg c105, if_neg c113, if_neg c119, if_neg c127, if_neg c133, if_pos c141]] at J
                exact J
              · skip
                show Goes p.tables e below (T5.setTop (mkF m 144 #[.val (.long p0), .second, .val (.long p1), .second, .val (.long p2), .second, .val (.long p3), .second, .val (.long p4), .second, .val (.int p5), .val (.int vn), .val (.long p0), .second, .val (.long v1), .second, .val (.long v2), .second, .val (.long v3), .second, .val (.long v4), .second, .val (.ref a5), .unset] [])) _
                refine g_iload X5 hx (hb hby at_144) rfl ?_
                show Goes p.tables e below (T5.setTop (mkF m 146 #[.val (.long p0), .second, .val (.long p1), .second, .val (.long p2), .second, .val (.long p3), .second, .val (.long p4), .second, .val (.int p5), .val (.int vn), .val (.long p0), .second, .val (.long v1), .second, .val (.long v2), .second, .val (.long v3), .second, .val (.long v4), .second, .val (.ref a5), .unset] [(.int vn)])) _
                refine g_iconst X5 hx (5 : Int32) (hb hby at_146) rfl ?_
                show Goes p.tables e below (T5.setTop (mkF m 147 #[.val (.long p0), .second, .val (.long p1), .second, .val (.long p2), .second, .val (.long p3), .second, .val (.long p4), .second, .val (.int p5), .val (.int vn), .val (.long p0), .second, .val (.long v1), .second, .val (.long v2), .second, .val (.long v3), .second, .val (.long v4), .second, .val (.ref a5), .unset] [(.int (5 : Int32)), (.int vn)])) _
                refine g_icmp_lt X5 hx (hb hby at_147) (by decide) (pc' := 158) (by decide) (fun c147 => ?_) (fun c147 => ?_)
                · skip
                  show Goes p.tables e below (T5.setTop (mkF m 158 #[.val (.long p0), .second, .val (.long p1), .second, .val (.long p2), .second, .val (.long p3), .second, .val (.long p4), .second, .val (.int p5), .val (.int vn), .val (.long p0), .second, .val (.long v1), .second, .val (.long v2), .second, .val (.long v3), .second, .val (.long v4), .second, .val (.ref a5), .unset] [])) _
                  refine g_iconst X5 hx (1 : Int32) (hb hby at_158) rfl ?_
                  show Goes p.tables e below (T5.setTop (mkF m 159 #[.val (.long p0), .second, .val (.long p1), .second, .val (.long p2), .second, .val (.long p3), .second, .val (.long p4), .second, .val (.int p5), .val (.int vn), .val (.long p0), .second, .val (.long v1), .second, .val (.long v2), .second, .val (.long v3), .second, .val (.long v4), .second, .val (.ref a5), .unset] [(.int (1 : Int32))])) _
                  refine g_goto X5 hx (hb hby at_159) (by decide) (pc' := 163) (by decide) ?_
                  rw [show v8 = ((1 : Int32)) from by rw [hv8, if_neg c105, if_neg c113, if_neg c119, if_neg c127, if_neg c133, if_neg c141, if_pos c147]] at J
                  exact J
                · skip
                  show Goes p.tables e below (T5.setTop (mkF m 150 #[.val (.long p0), .second, .val (.long p1), .second, .val (.long p2), .second, .val (.long p3), .second, .val (.long p4), .second, .val (.int p5), .val (.int vn), .val (.long p0), .second, .val (.long v1), .second, .val (.long v2), .second, .val (.long v3), .second, .val (.long v4), .second, .val (.ref a5), .unset] [])) _
                  refine g_lload X5 hx (hb hby at_150) rfl ?_
                  show Goes p.tables e below (T5.setTop (mkF m 152 #[.val (.long p0), .second, .val (.long p1), .second, .val (.long p2), .second, .val (.long p3), .second, .val (.long p4), .second, .val (.int p5), .val (.int vn), .val (.long p0), .second, .val (.long v1), .second, .val (.long v2), .second, .val (.long v3), .second, .val (.long v4), .second, .val (.ref a5), .unset] [(.long v3)])) _
                  refine g_lload X5 hx (hb hby at_152) rfl ?_
                  show Goes p.tables e below (T5.setTop (mkF m 154 #[.val (.long p0), .second, .val (.long p1), .second, .val (.long p2), .second, .val (.long p3), .second, .val (.long p4), .second, .val (.int p5), .val (.int vn), .val (.long p0), .second, .val (.long v1), .second, .val (.long v2), .second, .val (.long v3), .second, .val (.long v4), .second, .val (.ref a5), .unset] [(.long v4), (.long v3)])) _
                  refine g_lcmp X5 hx (hb hby at_154) ?_
                  show Goes p.tables e below (T5.setTop (mkF m 155 #[.val (.long p0), .second, .val (.long p1), .second, .val (.long p2), .second, .val (.long p3), .second, .val (.long p4), .second, .val (.int p5), .val (.int vn), .val (.long p0), .second, .val (.long v1), .second, .val (.long v2), .second, .val (.long v3), .second, .val (.long v4), .second, .val (.ref a5), .unset] [(.int (XT.cmpL v3 v4))])) _
                  refine g_lif_gt X5 hx (hb hby at_155) (by decide) (pc' := 162) (by decide) (fun c155 => ?_) (fun c155 => ?_)
                  · skip
                    show Goes p.tables e below (T5.setTop (mkF m 162 #[.val (.long p0), .second, .val (.long p1), .second, .val (.long p2), .second, .val (.long p3), .second, .val (.long p4), .second, .val (.int p5), .val (.int vn), .val (.long p0), .second, .val (.long v1), .second, .val (.long v2), .second, .val (.long v3), .second, .val (.long v4), .second, .val (.ref a5), .unset] [])) _
                    refine g_iconst X5 hx (0 : Int32) (hb hby at_162) rfl ?_
                    rw [show v8 = ((0 : Int32)) from by rw [hv8, if_neg c105, if_neg c113, if_neg c119, if_neg c127, if_neg c133, if_neg c141, if_neg c147, if_pos c155]] at J
                    exact J
                  · skip
                    show Goes p.tables e below (T5.setTop (mkF m 158 #[.val (.long p0), .second, .val (.long p1), .second, .val (.long p2), .second, .val (.long p3), .second, .val (.long p4), .second, .val (.int p5), .val (.int vn), .val (.long p0), .second, .val (.long v1), .second, .val (.long v2), .second, .val (.long v3), .second, .val (.long v4), .second, .val (.ref a5), .unset] [])) _
                    refine g_iconst X5 hx (1 : Int32) (hb hby at_158) rfl ?_
                    show Goes p.tables e below (T5.setTop (mkF m 159 #[.val (.long p0), .second, .val (.long p1), .second, .val (.long p2), .second, .val (.long p3), .second, .val (.long p4), .second, .val (.int p5), .val (.int vn), .val (.long p0), .second, .val (.long v1), .second, .val (.long v2), .second, .val (.long v3), .second, .val (.long v4), .second, .val (.ref a5), .unset] [(.int (1 : Int32))])) _
                    refine g_goto X5 hx (hb hby at_159) (by decide) (pc' := 163) (by decide) ?_
                    rw [show v8 = ((1 : Int32)) from by rw [hv8, if_neg c105, if_neg c113, if_neg c119, if_neg c127, if_neg c133, if_neg c141, if_neg c147, if_neg c155]] at J
                    exact J
  show Goes p.tables e below (T5.setTop (mkF m 163 #[.val (.long p0), .second, .val (.long p1), .second, .val (.long p2), .second, .val (.long p3), .second, .val (.long p4), .second, .val (.int p5), .val (.int vn), .val (.long p0), .second, .val (.long v1), .second, .val (.long v2), .second, .val (.long v3), .second, .val (.long v4), .second, .val (.ref a5), .unset] [(.int v8)])) _
  refine g_istore X5 hx (hb hby at_163) (l' := #[.val (.long p0), .second, .val (.long p1), .second, .val (.long p2), .second, .val (.long p3), .second, .val (.long p4), .second, .val (.int p5), .val (.int vn), .val (.long p0), .second, .val (.long v1), .second, .val (.long v2), .second, .val (.long v3), .second, .val (.long v4), .second, .val (.ref a5), .val (.int v8)]) rfl ?_
  show Goes p.tables e below (T5.setTop (mkF m 165 #[.val (.long p0), .second, .val (.long p1), .second, .val (.long p2), .second, .val (.long p3), .second, .val (.long p4), .second, .val (.int p5), .val (.int vn), .val (.long p0), .second, .val (.long v1), .second, .val (.long v2), .second, .val (.long v3), .second, .val (.long v4), .second, .val (.ref a5), .val (.int v8)] [])) _
  refine g_aload X5 hx (hb hby at_165) rfl rfl ?_
  show Goes p.tables e below (T5.setTop (mkF m 167 #[.val (.long p0), .second, .val (.long p1), .second, .val (.long p2), .second, .val (.long p3), .second, .val (.long p4), .second, .val (.int p5), .val (.int vn), .val (.long p0), .second, .val (.long v1), .second, .val (.long v2), .second, .val (.long v3), .second, .val (.long v4), .second, .val (.ref a5), .val (.int v8)] [(.ref a5)])) _
  refine g_callS X5 hx hZ hown (by rw [hml]; rfl) rfl (hw _ (List.mem_of_getElem? (i := 5) rfl)) (hw _ (List.mem_of_getElem? (i := 6) rfl)) (hw _ (List.mem_of_getElem? (i := 7) rfl)) (hw _ (List.mem_of_getElem? (i := 8) rfl)) (rmO l Z a0 hw a5 T5.heap h0.size (bL vn p0 v1 v2 v3 v4) Aa5) [(.ref a5)] rfl [] rfl (lenOf pd_2 rfl) (hb hby at_167) (by decide) 0 (by decide) (by decide) (by first | decide | exact Nat.le_refl _) (by decide) (by decide) (fun v T9 L9 X9 hQ9 => ?_)
  obtain ⟨rfl, e9, rfl⟩ := hQ9
  have N10 := Fr.app N6 (Fr.nil h0.size)
  show Goes p.tables e below (T9.setTop (mkF m 170 #[.val (.long p0), .second, .val (.long p1), .second, .val (.long p2), .second, .val (.long p3), .second, .val (.long p4), .second, .val (.int p5), .val (.int vn), .val (.long p0), .second, .val (.long v1), .second, .val (.long v2), .second, .val (.long v3), .second, .val (.long v4), .second, .val (.ref a5), .val (.int v8)] [(.int (ordV (bL vn p0 v1 v2 v3 v4)))])) _
  refine g_iload X9 hx (hb hby at_170) rfl ?_
  show Goes p.tables e below (T9.setTop (mkF m 172 #[.val (.long p0), .second, .val (.long p1), .second, .val (.long p2), .second, .val (.long p3), .second, .val (.long p4), .second, .val (.int p5), .val (.int vn), .val (.long p0), .second, .val (.long v1), .second, .val (.long v2), .second, .val (.long v3), .second, .val (.long v4), .second, .val (.ref a5), .val (.int v8)] [(.int v8), (.int (ordV (bL vn p0 v1 v2 v3 v4)))])) _
  have c172 : (ordV (bL vn p0 v1 v2 v3 v4)) = v8 := (by rw [hv8]; exact own_plain vn p0 v1 v2 v3 v4 (own_n p5 vn hvn))
  refine g_icmp_ne X9 hx (hb hby at_172) (by decide) (pc' := 179) (by decide) (fun q => absurd c172 q) (fun _ => ?_)
  show Goes p.tables e below (T9.setTop (mkF m 175 #[.val (.long p0), .second, .val (.long p1), .second, .val (.long p2), .second, .val (.long p3), .second, .val (.long p4), .second, .val (.int p5), .val (.int vn), .val (.long p0), .second, .val (.long v1), .second, .val (.long v2), .second, .val (.long v3), .second, .val (.long v4), .second, .val (.ref a5), .val (.int v8)] [])) _
  refine g_iconst X9 hx (1 : Int32) (hb hby at_175) rfl ?_
  show Goes p.tables e below (T9.setTop (mkF m 176 #[.val (.long p0), .second, .val (.long p1), .second, .val (.long p2), .second, .val (.long p3), .second, .val (.long p4), .second, .val (.int p5), .val (.int vn), .val (.long p0), .second, .val (.long v1), .second, .val (.long v2), .second, .val (.long v3), .second, .val (.long v4), .second, .val (.ref a5), .val (.int v8)] [(.int (1 : Int32))])) _
  refine g_goto X9 hx (hb hby at_176) (by decide) (pc' := 180) (by decide) ?_
  show Goes p.tables e below (T9.setTop (mkF m 180 #[.val (.long p0), .second, .val (.long p1), .second, .val (.long p2), .second, .val (.long p3), .second, .val (.long p4), .second, .val (.int p5), .val (.int vn), .val (.long p0), .second, .val (.long v1), .second, .val (.long v2), .second, .val (.long v3), .second, .val (.long v4), .second, .val (.ref a5), .val (.int v8)] [(.int (1 : Int32))])) _
  exact g_retZ X9 hx (hz := (by decide)) hret hk (hb hby at_180) (by decide) (by decide) ⟨rfl, N10⟩
set_option maxRecDepth 65536 in
set_option maxHeartbeats 40000000 in
theorem comes_1 {Post : Tables → Env → Array Value → State → Outcome → State → Prop} (hpost : ∀ tb e args s v u, (limb_1_1.after args s (.returned v) u = true ∧ limb_1_2.after args s (.returned v) u = true ∧ True) → FrameEnd s (.returned v) u (Jvm.fieldLocs frame_1_writes args s ++ Jvm.arrayLocs frame_1_arrays args s ++ Jvm.staticLocs frame_1_statics s) 16 128 → Post tb e args s (.returned v) u) :
    ArmFor flags0 classFile x code maxLocals ret World_1 tables_1 room_1 Calls_1 rest_1 Pre_1 Post := by
  intro l hfl _ _ p e ha hc hk s m args below hf hA hF happ hP
  obtain ⟨hcalls, hrest, hpre⟩ := hP
  obtain ⟨-, -, -, hnamed, -, -, -, hat⟩ := (Spec.applies_iff hf).mp happ
  obtain ⟨hg, hn⟩ := and_e (Cond.before_iff.mp (show (Jvm.Cond.and given_1 narrow_1).before args s = true from hpre))
  obtain ⟨h1, hg1⟩ := and_e hg
  obtain ⟨w0, w1, w2, w3, w4, w5, rfl⟩ : ∃ w0 w1 w2 w3 w4 w5 : Value, args = #[w0, w1, w2, w3, w4, w5] := by
    have hs : args.size = 6 := by simpa [Cond.value, given_1] using h1
    obtain ⟨L⟩ := args
    match L, hs with
    | [w0, w1, w2, w3, w4, w5], _ => exact ⟨w0, w1, w2, w3, w4, w5, rfl⟩
  have hw := fun d (hd : d ∈ tables_1) => atoms_spec (ws := Jvm.Cond.code x code maxLocals ret :: tables_1) hat d (List.mem_cons_of_mem _ hd)
  obtain ⟨ha0, hg2⟩ := and_e hg1
  obtain ⟨i0, ei0⟩ := isL_v ha0
  obtain rfl : w0 = (.long i0) := Option.some.inj ei0
  obtain ⟨ha1, hg3⟩ := and_e hg2
  obtain ⟨i1, ei1⟩ := isL_v ha1
  obtain rfl : w1 = (.long i1) := Option.some.inj ei1
  obtain ⟨ha2, hg4⟩ := and_e hg3
  obtain ⟨i2, ei2⟩ := isL_v ha2
  obtain rfl : w2 = (.long i2) := Option.some.inj ei2
  obtain ⟨ha3, hg5⟩ := and_e hg4
  obtain ⟨i3, ei3⟩ := isL_v ha3
  obtain rfl : w3 = (.long i3) := Option.some.inj ei3
  obtain ⟨ha4, hg6⟩ := and_e hg5
  obtain ⟨i4, ei4⟩ := isL_v ha4
  obtain rfl : w4 = (.long i4) := Option.some.inj ei4
  obtain ⟨i5, ei5⟩ := is_v hg6
  obtain rfl : w5 = (.int i5) := Option.some.inj ei5
  obtain ⟨n, o, h1, h2, h3, _, L, rfl, ⟨rfl, N⟩, hq⟩ := law l s _ hw tables_1 i0 i1 i2 i3 i4 i5 s.heap  p e ha hc hk s m _ below hf ((Spec.applies_iff_loose hf).mp happ).1 ⟨rfl, State.Warmed39.refl s, rfl⟩ trivial
  refine ⟨n, _, h1, h2, h3, hpost _ _ _ _ _ _ ⟨Cond.after_iff.mpr rfl, Cond.after_iff.mpr (eq_i res_at (Term.int_eval (1)) rfl), trivial⟩ ⟨hq.1, hq.2.1, (hq.2.2.sift fun y hy => Or.inr (N y hy)).mono (by decide) (by decide)⟩⟩
theorem main_1_1 : Claimed_1_1 := comes_1 fun _ _ _ _ _ _ h hF => ⟨h.1, hF⟩
theorem main_1_2 : Claimed_1_2 := comes_1 fun _ _ _ _ _ _ h hF => ⟨h.2.1, hF⟩
end Jvm.Pilot.@@N@@
namespace Jvm.Pilot.@@N@@
open Jvm Jvm.ClassFile Sem Op Lib Jvm.Free Jvm.Stand Jvm.Pilot.@@N@@.Jvm.D
/-! MADE BY PROGRAM (witnessworld.py) out of the Statement's table words and the real class files: 12 classes; the members and pool entries that the words name. The judged class is class 1, her method 1. -/
namespace start1
open Jvm.ClassFile
def u (s : String) : CpInfo := .utf8 (stringToUtf16 s)
/-- a pool by its gaps: so many unusable entries, then the entry; so many at the end -/
def gap : Nat → List CpInfo → List CpInfo
  | 0, r => r
  | n + 1, r => .unusable :: gap n r
def poolList (es : List (Nat × CpInfo)) (last : Nat) : List CpInfo := es.foldr (fun e r => gap e.1 (e.2 :: r)) (gap last [])
def pool (es : List (Nat × CpInfo)) (last : Nat) : Array CpInfo := ⟨poolList es last⟩
def fileOf (pool : Array CpInfo) (this : Nat) (attrs : Array Attribute := #[]) (ms : Array MethodInfo := #[]) (fl : Nat := 33) (sup : Nat := 0) (ifs : Array Nat := #[]) (fds : Array FieldInfo := #[]) : ClassFile where
  minorVersion := 0
  majorVersion := 65
  constantPool := pool
  accessFlags := fl
  thisClass := this
  superClass := sup
  interfaces := ifs
  fields := fds
  methods := ms
  attributes := attrs
def plain (name : String) (sup : Option ClassId) : Class where
  name := name
  kind := .ordinary
  loader := none
  accessFlags := 33
  super := sup
  interfaces := #[]
  cf := none
  fields := #[]
  methods := #[]
  instanceTypes := #[]
  staticTypes := #[]
  resolved := #[]
  callSites := []
  init := .initialized
  statics := none
  mirror := none

def pool0 : Array CpInfo := pool [(5, u "<init>"), (0, u "()V"), (1, .class_ 10), (1, u "java/lang/Object")] 113

def k0m0 : Method := { name := "<init>", desc := "()V", sig := { parameters := [], returnType := none }, accessFlags := 1, code := none }
/-- java/lang/Object -/
def k0 : Class := { plain "java/lang/Object" none with
  accessFlags := 33
  interfaces := #[]
  cf := some (fileOf pool0 8 #[] #[{ accessFlags := 1, nameIndex := 5, descriptorIndex := 6, attributes := #[] }] 33 0 #[] #[])
  fields := #[]
  methods := #[k0m0]
  instanceTypes := #[]
  staticTypes := #[]
  resolved := Array.replicate 124 none
  statics := none }

def pool1 : Array CpInfo := pool [(2, .class_ 4), (1, u "java/lang/Object"), (0, u "<init>"), (0, u "()V"), (0, .methodref 8 9), (0, .class_ 10), (0, .nameAndType 11 12), (0, u "com/example/drongo/drongo/event/RotaryEventInOrderPinLaw"), (0, u "build"), (0, u "(IJJJJJ)[J"), (0, .methodref 14 15), (0, .class_ 16), (0, .nameAndType 17 18), (0, u "com/example/drongo/drongo/event/RotaryEvent"), (0, u "inOrder"), (0, u "([J)Z"), (2, u "law"), (0, u "(JJJJJI)Z")] 5

def k1m0 : Method := { name := "<init>", desc := "()V", sig := { parameters := [], returnType := none }, accessFlags := 1, code := none }
def k1c1 : Code := { maxStack := 11, maxLocals := 24, code := code, exceptionTable := #[], attributes := #[] }
def k1m1 : Method := { name := "law", desc := "(JJJJJI)Z", sig := { parameters := [.long, .long, .long, .long, .long, .int], returnType := some .boolean }, accessFlags := 9, code := some k1c1 }
def k1c2 : Code := { maxStack := 5, maxLocals := 11, code := method_3_code, exceptionTable := #[], attributes := #[] }
def k1m2 : Method := { name := "build", desc := "(IJJJJJ)[J", sig := { parameters := [.int, .long, .long, .long, .long, .long], returnType := some (.array .long) }, accessFlags := 10, code := some k1c2 }
/-- com/example/drongo/drongo/event/RotaryEventInOrderPinLaw -/
def k1 : Class := { plain "com/example/drongo/drongo/event/RotaryEventInOrderPinLaw" (some 0) with
  accessFlags := 49
  interfaces := #[]
  cf := some (fileOf pool1 8 #[] #[{ accessFlags := 1, nameIndex := 5, descriptorIndex := 6, attributes := #[] }, { accessFlags := 9, nameIndex := 21, descriptorIndex := 22, attributes := #[] }, { accessFlags := 10, nameIndex := 11, descriptorIndex := 12, attributes := #[] }] 49 2 #[] #[])
  fields := #[]
  methods := #[k1m0, k1m1, k1m2]
  instanceTypes := #[]
  staticTypes := #[]
  resolved := Array.replicate 28 none
  statics := none }

def pool2 : Array CpInfo := pool [(1, .class_ 2), (0, u "com/example/drongo/drongo/event/InputEvent"), (0, .class_ 4), (0, u "java/lang/Object"), (15, .class_ 21), (0, u "com/example/drongo/drongo/event/InputEvent$Kinds")] 2

/-- com/example/drongo/drongo/event/InputEvent -/
def k2 : Class := { plain "com/example/drongo/drongo/event/InputEvent" (some 0) with
  accessFlags := 1537
  interfaces := #[]
  cf := some (fileOf pool2 1 #[.nestMembers #[20]] #[] 1537 3 #[] #[])
  fields := #[]
  methods := #[]
  instanceTypes := #[]
  staticTypes := #[]
  resolved := Array.replicate 24 none
  statics := none }

def pool3 : Array CpInfo := pool [(2, .class_ 4), (1, u "java/lang/Object"), (3, .class_ 10), (1, u "com/example/drongo/drongo/event/RotaryEvent"), (0, u "knob"), (0, u "Lcom/example/drongo/drongo/event/RotaryEvent$Knob;"), (2, u "clockwise"), (0, u "Z"), (2, u "display"), (0, u "Lcom/example/drongo/drongo/event/Display;"), (3, u "[J"), (4, u "timesMillis"), (3, .class_ 35), (1, u "com/example/drongo/drongo/event/RotaryEvent$Knob"), (57, .class_ 94), (0, u "com/example/drongo/drongo/event/InputEvent"), (2, u "inOrder"), (0, u "([J)Z")] 38

def k3c0 : Code := { maxStack := 5, maxLocals := 2, code := prog_17_method_2_code, exceptionTable := #[], attributes := #[] }
def k3m0 : Method := { name := "inOrder", desc := "([J)Z", sig := { parameters := [(.array .long)], returnType := some .boolean }, accessFlags := 9, code := some k3c0 }
/-- com/example/drongo/drongo/event/RotaryEvent -/
def k3 : Class := { plain "com/example/drongo/drongo/event/RotaryEvent" (some 0) with
  accessFlags := 49
  interfaces := #[2]
  cf := some (fileOf pool3 8 #[.nestMembers #[33]] #[{ accessFlags := 9, nameIndex := 97, descriptorIndex := 98, attributes := #[] }] 49 2 #[93] #[{ accessFlags := 18, nameIndex := 11, descriptorIndex := 12, attributes := #[] }, { accessFlags := 18, nameIndex := 15, descriptorIndex := 16, attributes := #[] }, { accessFlags := 18, nameIndex := 19, descriptorIndex := 20, attributes := #[] }, { accessFlags := 18, nameIndex := 29, descriptorIndex := 24, attributes := #[] }])
  fields := #[{ name := "knob", type := (.object "com/example/drongo/drongo/event/RotaryEvent$Knob"), accessFlags := 18, slot := 0, constantValue := 0 }, { name := "clockwise", type := .boolean, accessFlags := 18, slot := 1, constantValue := 0 }, { name := "display", type := (.object "com/example/drongo/drongo/event/Display"), accessFlags := 18, slot := 2, constantValue := 0 }, { name := "timesMillis", type := (.array .long), accessFlags := 18, slot := 3, constantValue := 0 }]
  methods := #[k3m0]
  instanceTypes := #[(.object "com/example/drongo/drongo/event/RotaryEvent$Knob"), .boolean, (.object "com/example/drongo/drongo/event/Display"), (.array .long)]
  staticTypes := #[]
  resolved := Array.replicate 137 none
  statics := none }

def pool4 : Array CpInfo := pool [(1, u "java/lang/Cloneable"), (0, .class_ 1), (0, u "java/lang/Object"), (0, .class_ 3)] 3

/-- java/lang/Cloneable -/
def k4 : Class := { plain "java/lang/Cloneable" (some 0) with
  accessFlags := 1537
  interfaces := #[]
  cf := some (fileOf pool4 2 #[] #[] 1537 4 #[] #[])
  fields := #[]
  methods := #[]
  instanceTypes := #[]
  staticTypes := #[]
  resolved := Array.replicate 8 none
  statics := none }

def pool5 : Array CpInfo := pool [(1, u "java/io/Serializable"), (0, .class_ 1), (0, u "java/lang/Object"), (0, .class_ 3)] 3

/-- java/io/Serializable -/
def k5 : Class := { plain "java/io/Serializable" (some 0) with
  accessFlags := 1537
  interfaces := #[]
  cf := some (fileOf pool5 2 #[] #[] 1537 4 #[] #[])
  fields := #[]
  methods := #[]
  instanceTypes := #[]
  staticTypes := #[]
  resolved := Array.replicate 8 none
  statics := none }

/-- the primitive byte -/
def k6 : Class := { plain "byte" none with kind := .primitive 'B', accessFlags := 0x411 }
/-- [B -/
def k7 : Class := { plain "[B" (some 0) with kind := .array 6 .byte, interfaces := #[4, 5], accessFlags := 1041 }

/-- the primitive int -/
def k8 : Class := { plain "int" none with kind := .primitive 'I', accessFlags := 0x411 }
/-- [I -/
def k9 : Class := { plain "[I" (some 0) with kind := .array 8 .int, interfaces := #[4, 5], accessFlags := 1041 }

/-- the primitive long -/
def k10 : Class := { plain "long" none with kind := .primitive 'J', accessFlags := 0x411 }
/-- [J -/
def k11 : Class := { plain "[J" (some 0) with kind := .array 10 .long, interfaces := #[4, 5], accessFlags := 1041 }

def heap : Heap := #[]
def classes : Array Class := #[k0, k1, k2, k3, k4, k5, k6, k7, k8, k9, k10, k11]
def interned : List (Array UInt16 × Addr) := []
def slotsUsed : Nat := 0
def theMethod : MethodId := ⟨1, 1⟩
def args0 : Array Value := #[.long 5, .long 7, .long 8, .long 7, .long 9, .int 5]
def aboutOver (below : List Frame) : State where
  vm := { classes := classes, interned := interned.toArray }
  heap := heap
  slotsUsed := slotsUsed
  threads := #[{ frames := .invoking theMethod args0 :: below }]
def below0 : List Frame := [.native { method := ⟨0, 0⟩, args := #[] }]
def about1 : State := aboutOver below0
def p0 : Program := .bare "" "" ""
def e0 : Env := launch0.env 0 0 0
theorem w_frames : about1.frames = Frame.invoking theMethod args0 :: below0 := rfl
set_option maxRecDepth 65536 in
theorem w_args : argsFit about1.vm theMethod args0 = true := by decide +kernel
set_option maxRecDepth 65536 in
theorem w_heap : heapFits about1 = true := by decide +kernel
set_option maxRecDepth 65536 in
theorem w_runnable : about1.curStatus? = some .runnable := by decide +kernel
set_option maxRecDepth 65536 in
theorem w_alone : about1.alone = true := by decide +kernel
set_option maxRecDepth 65536 in
theorem w_named : about1.methodNamed? x = some theMethod := by decide +kernel
set_option maxRecDepth 65536 in
theorem w_hears : about1.hears theMethod below0 = true := by decide +kernel
set_option maxRecDepth 65536 in
theorem w_ripe : about1.ripe theMethod args0 below0 = true := by decide +kernel
theorem w_running : about1.status = .running := rfl
set_option maxRecDepth 65536 in
theorem w_room : about1.hasRoom e0.platform room_1 = true :=
  launch0.hasRoom_least _ room_1 (by decide +kernel) (by decide +kernel) (by decide +kernel) (by decide +kernel) (by decide +kernel) (by decide +kernel)
theorem allAtoms_all (ts : List Jvm.Cond) (a : Array Jvm.Value) (st : Jvm.State) : (allAtoms ts).before a st = ts.all (fun c => c.before a st) := by
  induction ts with
  | nil => rfl
  | cons c t ih =>
    show (Jvm.Cond.and c (allAtoms t)).before a st = _
    rw [Jvm.Cond.before_and, ih, List.all_cons]
def words1 : List Jvm.Cond := Jvm.Cond.code x code maxLocals ret :: tables_1
/-- a 'code' word, met by the world's own term for the bytes: nothing is compared byte by byte -/
theorem code_word {y : MethodName} {bytes : ByteArray} {mx : Nat} {rt : Option FieldType} {a : Array Value} {s : State} {m : MethodId} {meth : Method} {c : Code} (h1 : s.methodNamed? y = some m) (h2 : s.vm.method? m = some meth) (h3 : meth.code = some c) (h4 : c.code = bytes)
    (h5 : (c.maxLocals == mx && c.exceptionTable.isEmpty && decide (c.maxStack ≤ mostOperands) && decide (meth.sig.returnType = rt) && !meth.locks && decide (parseMethodDescriptor y.desc = some meth.sig)) = true) : (Jvm.Cond.code y bytes mx rt).before a s = true := by
  simp only [Bool.and_eq_true, beq_iff_eq, Bool.not_eq_true', decide_eq_true_eq] at h5
  obtain ⟨⟨⟨⟨⟨g1, g2⟩, g3⟩, g4⟩, g5⟩, g6⟩ := h5
  simp [Cond.before, Cond.holds, Cond.value, h1, h2, h3, h4, g1, g2, g3, g4, g5, g6]
def isCode : Jvm.Cond → Bool
  | .code _ _ _ _ => true
  | _ => false
theorem all_split {L : List Jvm.Cond} {P : Jvm.Cond → Bool} (h1 : L.all (fun c => isCode c || P c) = true) (h2 : ∀ c ∈ L.filter isCode, P c = true) : L.all P = true := by
  refine List.all_eq_true.mpr fun c hc => ?_
  have h := List.all_eq_true.mp h1 c hc
  rcases Bool.eq_false_or_eq_true (isCode c) with hi | hi
  · exact h2 c (List.mem_filter.mpr ⟨hc, hi⟩)
  · simpa [hi] using h
set_option maxRecDepth 65536 in
theorem w_c0 : (Jvm.Cond.code x code maxLocals ret).before args0 about1 = true := code_word (m := ⟨1, 1⟩) (meth := k1m1) (c := k1c1) (by decide +kernel) rfl rfl rfl (by decide +kernel)
set_option maxRecDepth 65536 in
theorem w_c1 : (Jvm.Cond.code ({ cls := "com/example/drongo/drongo/event/RotaryEventInOrderPinLaw", name := "build", desc := "(IJJJJJ)[J" } : Jvm.MethodName) method_3_code (11 : Nat) (Option.some (Jvm.ClassFile.FieldType.array Jvm.ClassFile.FieldType.long))).before args0 about1 = true := code_word (m := ⟨1, 2⟩) (meth := k1m2) (c := k1c2) (by decide +kernel) rfl rfl rfl (by decide +kernel)
set_option maxRecDepth 65536 in
theorem w_c2 : (Jvm.Cond.code ({ cls := "com/example/drongo/drongo/event/RotaryEvent", name := "inOrder", desc := "([J)Z" } : Jvm.MethodName) prog_17_method_2_code (2 : Nat) (Option.some Jvm.ClassFile.FieldType.boolean)).before args0 about1 = true := code_word (m := ⟨3, 0⟩) (meth := k3m0) (c := k3c0) (by decide +kernel) rfl rfl rfl (by decide +kernel)
def codes1 : List Jvm.Cond := [Jvm.Cond.code x code maxLocals ret, Jvm.Cond.code ({ cls := "com/example/drongo/drongo/event/RotaryEventInOrderPinLaw", name := "build", desc := "(IJJJJJ)[J" } : Jvm.MethodName) method_3_code (11 : Nat) (Option.some (Jvm.ClassFile.FieldType.array Jvm.ClassFile.FieldType.long)), Jvm.Cond.code ({ cls := "com/example/drongo/drongo/event/RotaryEvent", name := "inOrder", desc := "([J)Z" } : Jvm.MethodName) prog_17_method_2_code (2 : Nat) (Option.some Jvm.ClassFile.FieldType.boolean)]
set_option maxRecDepth 65536 in
theorem codes_eq : words1.filter isCode = codes1 := rfl
theorem w_codes : ∀ c ∈ words1.filter isCode, c.before args0 about1 = true := by
  rw [codes_eq]
  intro c hc
  simp only [codes1, List.mem_cons, List.not_mem_nil, or_false] at hc
  rcases hc with rfl | rfl | rfl
  · exact w_c0
  · exact w_c1
  · exact w_c2
set_option maxRecDepth 65536 in
theorem w_t1 : words1.all (fun c => isCode c || c.before args0 about1) = true := by decide +kernel
theorem w_tables : (allAtoms (Jvm.Cond.code x code maxLocals ret :: tables_1)).before args0 about1 = true := by
  rw [allAtoms_all]
  show words1.all (fun c => c.before args0 about1) = true
  refine all_split ?_ w_codes
  rw [w_t1]
set_option maxRecDepth 65536 in
theorem w_case : (Jvm.Cond.and given_1 narrow_1).before args0 about1 = true := by decide +kernel
theorem w_applies : (headSpec (Jvm.Cond.code x code maxLocals ret :: tables_1) room_1).applies x e0.platform about1 = true :=
  (Spec.applies_iff w_frames).mpr ⟨w_running, w_runnable, w_alone, w_named, w_hears, w_ripe, w_room, w_tables⟩
theorem atStart : AtStart classFile x code maxLocals ret World_1 tables_1 room_1 Calls_1 rest_1 Pre_1 launch0 p0 e0 about1 theMethod args0 below0 :=
  ⟨lists_1, trivial, launch0.admits_env _ _ _, launch0.least_env, fairChoices_fair.cas, fairChoices_fair.clock, w_frames, w_args, w_heap, w_applies, trivial, trivial, w_case⟩
end start1
theorem witness_1 : WitnessClaimed_1 := ⟨start1.p0, start1.e0, start1.about1, start1.theMethod, start1.args0, start1.below0, start1.atStart⟩
end Jvm.Pilot.@@N@@
