import JvmDerived
import JvmDerived.Pilot.@@N@@Statement
import JvmDerived.Pilot.@@N@@Code
set_option linter.unusedVariables false
set_option linter.unusedSimpArgs false
namespace Jvm.OwnW
open Sem ClassFile Op Lib Jvm.Stand Jvm.Free Jvm.LawKit Jvm.RoadKit
/-- from the state S the walk over 'below' comes to an end of which P holds -/
def Goes (tb : Tables) (e : Env) (below : List Frame) (S : State) (P : State → Outcome → Prop) : Prop :=
  ∃ s₂ o, Steps tb e below S s₂ ∧ s₂.status = .running ∧ Ended s₂ below o ∧ P s₂ o
section Walk
variable {p : Program} {l : Launch} {e : Env} {R : Room} {s : State} {m : MethodId} {args : Array Value} {below : List Frame} {meth : Method} {c : Code} {T : State} {locs : List Loc} {cells slots : Nat} {P : State → Outcome → Prop} {pc : Nat} {Ls : Array Slot} {st : List Value} {Z : State} {a0 : Array Value} {h : Heap}
theorem Goes.of {tb : Tables} {S S' : State} (k : Goes tb e below S' P) (h : ∀ t, Steps tb e below S' t → Steps tb e below S t) : Goes tb e below S P := by
  obtain ⟨s₂, o, h1, h2⟩ := k
  exact ⟨s₂, o, h _ h1, h2⟩
theorem Goes.tr {tb : Tables} {S S' : State} (k : Goes tb e below S' P) (h : Steps tb e below S S') : Goes tb e below S P := by
  obtain ⟨s₂, o, h1, h2⟩ := k
  exact ⟨s₂, o, h.trans h1, h2⟩
theorem Goes.join {tb : Tables} {S S' : State} (h1 : Goes tb e below S' P → Goes tb e below S P) (h2 : Goes tb e below S' P) : Goes tb e below S P := h1 h2
theorem Goes.cast {tb : Tables} {g g' : JFrame} (q : g = g') (k : Goes tb e below (T.setTop g') P) : Goes tb e below (T.setTop g) P := q ▸ k
theorem g_nameI {x v : Int32} (q : v = x) (k : Goes p.tables e below (T.setTop (mkF m pc Ls (.int v :: st))) P) : Goes p.tables e below (T.setTop (mkF m pc Ls (.int x :: st))) P := q ▸ k
theorem g_nameL {x v : Int64} (q : v = x) (k : Goes p.tables e below (T.setTop (mkF m pc Ls (.long v :: st))) P) : Goes p.tables e below (T.setTop (mkF m pc Ls (.long x :: st))) P := q ▸ k
theorem g_iloadN (X : Stand p l e R s m args below meth c T locs cells slots) (hx : p.tables.exec = Jvm.exec) {k : Fin 4} {v : Int32} (hd : decode c.code pc = .ok (.iload_n k, 1)) (hl : Ls[k.val]? = some (.val (.int v))) (hr : Goes p.tables e below (T.setTop (mkF m (pc + 1) Ls (.int v :: st))) P) : Goes p.tables e below (T.setTop (mkF m pc Ls st)) P := hr.of fun _ k => XS.iloadN X.here hx rfl hd hl k
theorem g_iload (X : Stand p l e R s m args below meth c T locs cells slots) (hx : p.tables.exec = Jvm.exec) {k : Nat} {v : Int32} (hd : decode c.code pc = .ok (.iload k, 2)) (hl : Ls[k]? = some (.val (.int v))) (hr : Goes p.tables e below (T.setTop (mkF m (pc + 2) Ls (.int v :: st))) P) : Goes p.tables e below (T.setTop (mkF m pc Ls st)) P := hr.of fun _ k => XS.iload X.here hx rfl hd hl k
theorem g_lloadN (X : Stand p l e R s m args below meth c T locs cells slots) (hx : p.tables.exec = Jvm.exec) {k : Fin 4} {v : Int64} (hd : decode c.code pc = .ok (.lload_n k, 1)) (hl : Ls[k.val]? = some (.val (.long v))) (hr : Goes p.tables e below (T.setTop (mkF m (pc + 1) Ls (.long v :: st))) P) : Goes p.tables e below (T.setTop (mkF m pc Ls st)) P := hr.of fun _ k => XT.lloadN X.here hx rfl hd hl k
theorem g_lload (X : Stand p l e R s m args below meth c T locs cells slots) (hx : p.tables.exec = Jvm.exec) {k : Nat} {v : Int64} (hd : decode c.code pc = .ok (.lload k, 2)) (hl : Ls[k]? = some (.val (.long v))) (hr : Goes p.tables e below (T.setTop (mkF m (pc + 2) Ls (.long v :: st))) P) : Goes p.tables e below (T.setTop (mkF m pc Ls st)) P := hr.of fun _ k => XT.lload X.here hx rfl hd hl k
theorem g_aloadN (X : Stand p l e R s m args below meth c T locs cells slots) (hx : p.tables.exec = Jvm.exec) {k : Fin 4} {v : Value} (hd : decode c.code pc = .ok (.aload_n k, 1)) (hl : Ls[k.val]? = some (.val v)) (hv : v.isRef = true) (hr : Goes p.tables e below (T.setTop (mkF m (pc + 1) Ls (v :: st))) P) : Goes p.tables e below (T.setTop (mkF m pc Ls st)) P := hr.of fun _ k => XS.aloadN X.here hx rfl hd hl hv k
theorem g_aload (X : Stand p l e R s m args below meth c T locs cells slots) (hx : p.tables.exec = Jvm.exec) {k : Nat} {v : Value} (hd : decode c.code pc = .ok (.aload k, 2)) (hl : Ls[k]? = some (.val v)) (hv : v.isRef = true) (hr : Goes p.tables e below (T.setTop (mkF m (pc + 2) Ls (v :: st))) P) : Goes p.tables e below (T.setTop (mkF m pc Ls st)) P := hr.of fun _ k => XS.aload X.here hx rfl hd hl hv k
theorem g_istoreN (X : Stand p l e R s m args below meth c T locs cells slots) (hx : p.tables.exec = Jvm.exec) {k : Fin 4} {x : Int32} {l' : Array Slot} (hd : decode c.code pc = .ok (.istore_n k, 1)) (hl : storeLocals Ls k.val (.int x) = some l') (hr : Goes p.tables e below (T.setTop (mkF m (pc + 1) l' st)) P) : Goes p.tables e below (T.setTop (mkF m pc Ls (.int x :: st))) P := hr.of fun _ k => XS.istoreN X.here hx rfl hd rfl hl k
theorem g_istore (X : Stand p l e R s m args below meth c T locs cells slots) (hx : p.tables.exec = Jvm.exec) {k : Nat} {x : Int32} {l' : Array Slot} (hd : decode c.code pc = .ok (.istore k, 2)) (hl : storeLocals Ls k (.int x) = some l') (hr : Goes p.tables e below (T.setTop (mkF m (pc + 2) l' st)) P) : Goes p.tables e below (T.setTop (mkF m pc Ls (.int x :: st))) P := hr.of fun _ k => XS.istore X.here hx rfl hd rfl hl k
theorem g_lstoreN (X : Stand p l e R s m args below meth c T locs cells slots) (hx : p.tables.exec = Jvm.exec) {k : Fin 4} {x : Int64} {l' : Array Slot} (hd : decode c.code pc = .ok (.lstore_n k, 1)) (hl : storeLocals Ls k.val (.long x) = some l') (hr : Goes p.tables e below (T.setTop (mkF m (pc + 1) l' st)) P) : Goes p.tables e below (T.setTop (mkF m pc Ls (.long x :: st))) P := hr.of fun _ k => XT.lstoreN X.here hx rfl hd rfl hl k
theorem g_lstore (X : Stand p l e R s m args below meth c T locs cells slots) (hx : p.tables.exec = Jvm.exec) {k : Nat} {x : Int64} {l' : Array Slot} (hd : decode c.code pc = .ok (.lstore k, 2)) (hl : storeLocals Ls k (.long x) = some l') (hr : Goes p.tables e below (T.setTop (mkF m (pc + 2) l' st)) P) : Goes p.tables e below (T.setTop (mkF m pc Ls (.long x :: st))) P := hr.of fun _ k => XT.lstore X.here hx rfl hd rfl hl k
theorem g_astoreN (X : Stand p l e R s m args below meth c T locs cells slots) (hx : p.tables.exec = Jvm.exec) {k : Fin 4} {x : Value} {l' : Array Slot} (hd : decode c.code pc = .ok (.astore_n k, 1)) (hv : x.isRef = true) (hl : storeLocals Ls k.val x = some l') (hr : Goes p.tables e below (T.setTop (mkF m (pc + 1) l' st)) P) : Goes p.tables e below (T.setTop (mkF m pc Ls (x :: st))) P := hr.of fun _ k => XS.astoreN X.here hx rfl hd rfl hv hl k
theorem g_astore (X : Stand p l e R s m args below meth c T locs cells slots) (hx : p.tables.exec = Jvm.exec) {k : Nat} {x : Value} {l' : Array Slot} (hd : decode c.code pc = .ok (.astore k, 2)) (hv : x.isRef = true) (hl : storeLocals Ls k x = some l') (hr : Goes p.tables e below (T.setTop (mkF m (pc + 2) l' st)) P) : Goes p.tables e below (T.setTop (mkF m pc Ls (x :: st))) P := hr.of fun _ k => XS.astore X.here hx rfl hd rfl hv hl k
theorem g_istoreS (X : Stand p l e R s m args below meth c T locs cells slots) (hx : p.tables.exec = Jvm.exec) {k : Nat} {x : Int32} {o : Slot} (hd : decode c.code pc = .ok (.istore k, 2)) (hold : Ls[k]? = some o) (ho : One o) (hr : Goes p.tables e below (T.setTop (mkF m (pc + 2) (Ls.setIfInBounds k (.val (.int x))) st)) P) : Goes p.tables e below (T.setTop (mkF m pc Ls (.int x :: st))) P := hr.of fun _ k => XS.istoreS X.here hx rfl hd rfl hold ho k
theorem g_istoreNS (X : Stand p l e R s m args below meth c T locs cells slots) (hx : p.tables.exec = Jvm.exec) {k : Fin 4} {x : Int32} {o : Slot} (hd : decode c.code pc = .ok (.istore_n k, 1)) (hold : Ls[k.val]? = some o) (ho : One o) (hr : Goes p.tables e below (T.setTop (mkF m (pc + 1) (Ls.setIfInBounds k.val (.val (.int x))) st)) P) : Goes p.tables e below (T.setTop (mkF m pc Ls (.int x :: st))) P := hr.of fun _ k => XS.istoreNS X.here hx rfl hd rfl hold ho k
theorem g_iconst (X : Stand p l e R s m args below meth c T locs cells slots) (hx : p.tables.exec = Jvm.exec) {i : Int} (v : Int32) (hd : decode c.code pc = .ok (.iconst i, 1)) (hv : Int32.ofInt i = v) (hr : Goes p.tables e below (T.setTop (mkF m (pc + 1) Ls (.int v :: st))) P) : Goes p.tables e below (T.setTop (mkF m pc Ls st)) P := hr.of fun _ k => XT.iconstV X.here hx rfl v hd hv k
theorem g_bipush (X : Stand p l e R s m args below meth c T locs cells slots) (hx : p.tables.exec = Jvm.exec) {i : Int} (v : Int32) (hd : decode c.code pc = .ok (.bipush i, 2)) (hv : (Int8.ofInt i).toInt32 = v) (hr : Goes p.tables e below (T.setTop (mkF m (pc + 2) Ls (.int v :: st))) P) : Goes p.tables e below (T.setTop (mkF m pc Ls st)) P := hr.of fun _ k => XT.bipushV X.here hx rfl v hd hv k
theorem g_sipush (X : Stand p l e R s m args below meth c T locs cells slots) (hx : p.tables.exec = Jvm.exec) {i : Int} (v : Int32) (hd : decode c.code pc = .ok (.sipush i, 3)) (hv : (Int16.ofInt i).toInt32 = v) (hr : Goes p.tables e below (T.setTop (mkF m (pc + 3) Ls (.int v :: st))) P) : Goes p.tables e below (T.setTop (mkF m pc Ls st)) P := hr.of fun _ k => XT.sipushV X.here hx rfl v hd hv k
theorem g_lconst (X : Stand p l e R s m args below meth c T locs cells slots) (hx : p.tables.exec = Jvm.exec) {i : Fin 2} (v : Int64) (hd : decode c.code pc = .ok (.lconst i, 1)) (hv : Int64.ofNat i = v) (hr : Goes p.tables e below (T.setTop (mkF m (pc + 1) Ls (.long v :: st))) P) : Goes p.tables e below (T.setTop (mkF m pc Ls st)) P := hr.of fun _ k => XT.lconstV X.here hx rfl v hd hv k
theorem g_null (X : Stand p l e R s m args below meth c T locs cells slots) (hx : p.tables.exec = Jvm.exec)  (hd : decode c.code pc = .ok (.aconst_null, 1)) (hr : Goes p.tables e below (T.setTop (mkF m (pc + 1) Ls (.null :: st))) P) : Goes p.tables e below (T.setTop (mkF m pc Ls st)) P := hr.of fun _ k => XS.aconstNull X.here hx rfl hd k
theorem g_ldc (X : Stand p l e R s m args below meth c T locs cells slots) (hx : p.tables.exec = Jvm.exec) {own : String} {index : Nat} {v : Int32} (hZ : Z.Warmed39 s.vm) (hown : s.vm.findClass own = some m.cls) (wk : (Jvm.Cond.constant own index v).before a0 Z = true) (hd : decode c.code pc = .ok (.ldc index, 2)) (hr : Goes p.tables e below (T.setTop (mkF m (pc + 2) Ls (.int v :: st))) P) : Goes p.tables e below (T.setTop (mkF m pc Ls st)) P := hr.of fun _ k => X.ldcI hx hown (mvT hZ wk) rfl hd k
theorem g_ldcw (X : Stand p l e R s m args below meth c T locs cells slots) (hx : p.tables.exec = Jvm.exec) {own : String} {index : Nat} {v : Int32} (hZ : Z.Warmed39 s.vm) (hown : s.vm.findClass own = some m.cls) (wk : (Jvm.Cond.constant own index v).before a0 Z = true) (hd : decode c.code pc = .ok (.ldc_w index, 3)) (hr : Goes p.tables e below (T.setTop (mkF m (pc + 3) Ls (.int v :: st))) P) : Goes p.tables e below (T.setTop (mkF m pc Ls st)) P := hr.of fun _ k => X.ldcWI hx hown (mvT hZ wk) rfl hd k
theorem g_ldc2 (X : Stand p l e R s m args below meth c T locs cells slots) (hx : p.tables.exec = Jvm.exec) {own : String} {index : Nat} {v : Int64} (hZ : Z.Warmed39 s.vm) (hown : s.vm.findClass own = some m.cls) (wk : (Jvm.Cond.constantLong own index v).before a0 Z = true) (hd : decode c.code pc = .ok (.ldc2_w index, 3)) (hr : Goes p.tables e below (T.setTop (mkF m (pc + 3) Ls (.long v :: st))) P) : Goes p.tables e below (T.setTop (mkF m pc Ls st)) P := hr.of fun _ k => X.ldc2J hx hown (mvT hZ wk) rfl hd k
theorem g_iadd (X : Stand p l e R s m args below meth c T locs cells slots) (hx : p.tables.exec = Jvm.exec) {x y : Int32} (hd : decode c.code pc = .ok (.iadd, 1)) (hr : Goes p.tables e below (T.setTop (mkF m (pc + 1) Ls (.int (x + y) :: st))) P) : Goes p.tables e below (T.setTop (mkF m pc Ls (.int y :: .int x :: st))) P := hr.of fun _ k => XS.iadd X.here hx rfl hd rfl k
theorem g_isub (X : Stand p l e R s m args below meth c T locs cells slots) (hx : p.tables.exec = Jvm.exec) {x y : Int32} (hd : decode c.code pc = .ok (.isub, 1)) (hr : Goes p.tables e below (T.setTop (mkF m (pc + 1) Ls (.int (x - y) :: st))) P) : Goes p.tables e below (T.setTop (mkF m pc Ls (.int y :: .int x :: st))) P := hr.of fun _ k => XS.isub X.here hx rfl hd rfl k
theorem g_imul (X : Stand p l e R s m args below meth c T locs cells slots) (hx : p.tables.exec = Jvm.exec) {x y : Int32} (hd : decode c.code pc = .ok (.imul, 1)) (hr : Goes p.tables e below (T.setTop (mkF m (pc + 1) Ls (.int (x * y) :: st))) P) : Goes p.tables e below (T.setTop (mkF m pc Ls (.int y :: .int x :: st))) P := hr.of fun _ k => XS.imul X.here hx rfl hd rfl k
theorem g_iand (X : Stand p l e R s m args below meth c T locs cells slots) (hx : p.tables.exec = Jvm.exec) {x y : Int32} (hd : decode c.code pc = .ok (.iand, 1)) (hr : Goes p.tables e below (T.setTop (mkF m (pc + 1) Ls (.int (x &&& y) :: st))) P) : Goes p.tables e below (T.setTop (mkF m pc Ls (.int y :: .int x :: st))) P := hr.of fun _ k => XS.iand X.here hx rfl hd rfl k
theorem g_ior (X : Stand p l e R s m args below meth c T locs cells slots) (hx : p.tables.exec = Jvm.exec) {x y : Int32} (hd : decode c.code pc = .ok (.ior, 1)) (hr : Goes p.tables e below (T.setTop (mkF m (pc + 1) Ls (.int (x ||| y) :: st))) P) : Goes p.tables e below (T.setTop (mkF m pc Ls (.int y :: .int x :: st))) P := hr.of fun _ k => XT.ior X.here hx rfl hd rfl k
theorem g_ixor (X : Stand p l e R s m args below meth c T locs cells slots) (hx : p.tables.exec = Jvm.exec) {x y : Int32} (hd : decode c.code pc = .ok (.ixor, 1)) (hr : Goes p.tables e below (T.setTop (mkF m (pc + 1) Ls (.int (x ^^^ y) :: st))) P) : Goes p.tables e below (T.setTop (mkF m pc Ls (.int y :: .int x :: st))) P := hr.of fun _ k => XT.ixor X.here hx rfl hd rfl k
theorem g_ishl (X : Stand p l e R s m args below meth c T locs cells slots) (hx : p.tables.exec = Jvm.exec) {x y : Int32} (hd : decode c.code pc = .ok (.ishl, 1)) (hr : Goes p.tables e below (T.setTop (mkF m (pc + 1) Ls (.int (x <<< (y &&& 31)) :: st))) P) : Goes p.tables e below (T.setTop (mkF m pc Ls (.int y :: .int x :: st))) P := hr.of fun _ k => XT.ishl X.here hx rfl hd rfl k
theorem g_ishr (X : Stand p l e R s m args below meth c T locs cells slots) (hx : p.tables.exec = Jvm.exec) {x y : Int32} (hd : decode c.code pc = .ok (.ishr, 1)) (hr : Goes p.tables e below (T.setTop (mkF m (pc + 1) Ls (.int (x >>> (y &&& 31)) :: st))) P) : Goes p.tables e below (T.setTop (mkF m pc Ls (.int y :: .int x :: st))) P := hr.of fun _ k => XT.ishr X.here hx rfl hd rfl k
theorem g_iushr (X : Stand p l e R s m args below meth c T locs cells slots) (hx : p.tables.exec = Jvm.exec) {x y : Int32} (hd : decode c.code pc = .ok (.iushr, 1)) (hr : Goes p.tables e below (T.setTop (mkF m (pc + 1) Ls (.int (XT.ushr x y) :: st))) P) : Goes p.tables e below (T.setTop (mkF m pc Ls (.int y :: .int x :: st))) P := hr.of fun _ k => XT.iushr X.here hx rfl hd rfl k
theorem g_ladd (X : Stand p l e R s m args below meth c T locs cells slots) (hx : p.tables.exec = Jvm.exec) {x y : Int64} (hd : decode c.code pc = .ok (.ladd, 1)) (hr : Goes p.tables e below (T.setTop (mkF m (pc + 1) Ls (.long (x + y) :: st))) P) : Goes p.tables e below (T.setTop (mkF m pc Ls (.long y :: .long x :: st))) P := hr.of fun _ k => XT.ladd X.here hx rfl hd rfl k
theorem g_lsub (X : Stand p l e R s m args below meth c T locs cells slots) (hx : p.tables.exec = Jvm.exec) {x y : Int64} (hd : decode c.code pc = .ok (.lsub, 1)) (hr : Goes p.tables e below (T.setTop (mkF m (pc + 1) Ls (.long (x - y) :: st))) P) : Goes p.tables e below (T.setTop (mkF m pc Ls (.long y :: .long x :: st))) P := hr.of fun _ k => XT.lsub X.here hx rfl hd rfl k
theorem g_lmul (X : Stand p l e R s m args below meth c T locs cells slots) (hx : p.tables.exec = Jvm.exec) {x y : Int64} (hd : decode c.code pc = .ok (.lmul, 1)) (hr : Goes p.tables e below (T.setTop (mkF m (pc + 1) Ls (.long (x * y) :: st))) P) : Goes p.tables e below (T.setTop (mkF m pc Ls (.long y :: .long x :: st))) P := hr.of fun _ k => XT.lmul X.here hx rfl hd rfl k
theorem g_land (X : Stand p l e R s m args below meth c T locs cells slots) (hx : p.tables.exec = Jvm.exec) {x y : Int64} (hd : decode c.code pc = .ok (.land, 1)) (hr : Goes p.tables e below (T.setTop (mkF m (pc + 1) Ls (.long (x &&& y) :: st))) P) : Goes p.tables e below (T.setTop (mkF m pc Ls (.long y :: .long x :: st))) P := hr.of fun _ k => XT.land X.here hx rfl hd rfl k
theorem g_lor (X : Stand p l e R s m args below meth c T locs cells slots) (hx : p.tables.exec = Jvm.exec) {x y : Int64} (hd : decode c.code pc = .ok (.lor, 1)) (hr : Goes p.tables e below (T.setTop (mkF m (pc + 1) Ls (.long (x ||| y) :: st))) P) : Goes p.tables e below (T.setTop (mkF m pc Ls (.long y :: .long x :: st))) P := hr.of fun _ k => XT.lor X.here hx rfl hd rfl k
theorem g_lxor (X : Stand p l e R s m args below meth c T locs cells slots) (hx : p.tables.exec = Jvm.exec) {x y : Int64} (hd : decode c.code pc = .ok (.lxor, 1)) (hr : Goes p.tables e below (T.setTop (mkF m (pc + 1) Ls (.long (x ^^^ y) :: st))) P) : Goes p.tables e below (T.setTop (mkF m pc Ls (.long y :: .long x :: st))) P := hr.of fun _ k => XT.lxor X.here hx rfl hd rfl k
theorem g_lshl (X : Stand p l e R s m args below meth c T locs cells slots) (hx : p.tables.exec = Jvm.exec) {x : Int64} {y : Int32} (hd : decode c.code pc = .ok (.lshl, 1)) (hr : Goes p.tables e below (T.setTop (mkF m (pc + 1) Ls (.long (x <<< (y.toInt64 &&& 63)) :: st))) P) : Goes p.tables e below (T.setTop (mkF m pc Ls (.int y :: .long x :: st))) P := hr.of fun _ k => XT.lshl X.here hx rfl hd rfl k
theorem g_lshr (X : Stand p l e R s m args below meth c T locs cells slots) (hx : p.tables.exec = Jvm.exec) {x : Int64} {y : Int32} (hd : decode c.code pc = .ok (.lshr, 1)) (hr : Goes p.tables e below (T.setTop (mkF m (pc + 1) Ls (.long (x >>> (y.toInt64 &&& 63)) :: st))) P) : Goes p.tables e below (T.setTop (mkF m pc Ls (.int y :: .long x :: st))) P := hr.of fun _ k => XT.lshr X.here hx rfl hd rfl k
theorem g_lushr (X : Stand p l e R s m args below meth c T locs cells slots) (hx : p.tables.exec = Jvm.exec) {x : Int64} {y : Int32} (hd : decode c.code pc = .ok (.lushr, 1)) (hr : Goes p.tables e below (T.setTop (mkF m (pc + 1) Ls (.long (XT.ushrL x y) :: st))) P) : Goes p.tables e below (T.setTop (mkF m pc Ls (.int y :: .long x :: st))) P := hr.of fun _ k => XT.lushr X.here hx rfl hd rfl k
theorem g_idiv (X : Stand p l e R s m args below meth c T locs cells slots) (hx : p.tables.exec = Jvm.exec) {x y : Int32} (hd : decode c.code pc = .ok (.idiv, 1)) (hy : y ≠ 0) (hr : Goes p.tables e below (T.setTop (mkF m (pc + 1) Ls (.int (x / y) :: st))) P) : Goes p.tables e below (T.setTop (mkF m pc Ls (.int y :: .int x :: st))) P := hr.of fun _ k => XS.idiv X.here hx rfl hd rfl hy k
theorem g_irem (X : Stand p l e R s m args below meth c T locs cells slots) (hx : p.tables.exec = Jvm.exec) {x y : Int32} (hd : decode c.code pc = .ok (.irem, 1)) (hy : y ≠ 0) (hr : Goes p.tables e below (T.setTop (mkF m (pc + 1) Ls (.int (x % y) :: st))) P) : Goes p.tables e below (T.setTop (mkF m pc Ls (.int y :: .int x :: st))) P := hr.of fun _ k => iremM X hx rfl hd rfl hy k
theorem g_ldiv (X : Stand p l e R s m args below meth c T locs cells slots) (hx : p.tables.exec = Jvm.exec) {x y : Int64} (hd : decode c.code pc = .ok (.ldiv, 1)) (hy : y ≠ 0) (hr : Goes p.tables e below (T.setTop (mkF m (pc + 1) Ls (.long (x / y) :: st))) P) : Goes p.tables e below (T.setTop (mkF m pc Ls (.long y :: .long x :: st))) P := hr.of fun _ k => XT.ldiv X.here hx rfl hd rfl hy k
theorem g_lrem (X : Stand p l e R s m args below meth c T locs cells slots) (hx : p.tables.exec = Jvm.exec) {x y : Int64} (hd : decode c.code pc = .ok (.lrem, 1)) (hy : y ≠ 0) (hr : Goes p.tables e below (T.setTop (mkF m (pc + 1) Ls (.long (x % y) :: st))) P) : Goes p.tables e below (T.setTop (mkF m pc Ls (.long y :: .long x :: st))) P := hr.of fun _ k => XT.lrem X.here hx rfl hd rfl hy (by rw [lrem_mod]; exact k)
theorem g_ineg (X : Stand p l e R s m args below meth c T locs cells slots) (hx : p.tables.exec = Jvm.exec) {x : Int32} (hd : decode c.code pc = .ok (.ineg, 1)) (hr : Goes p.tables e below (T.setTop (mkF m (pc + 1) Ls (.int (-x) :: st))) P) : Goes p.tables e below (T.setTop (mkF m pc Ls (.int x :: st))) P := hr.of fun _ k => XS.ineg X.here hx rfl hd rfl k
theorem g_lneg (X : Stand p l e R s m args below meth c T locs cells slots) (hx : p.tables.exec = Jvm.exec) {x : Int64} (hd : decode c.code pc = .ok (.lneg, 1)) (hr : Goes p.tables e below (T.setTop (mkF m (pc + 1) Ls (.long (-x) :: st))) P) : Goes p.tables e below (T.setTop (mkF m pc Ls (.long x :: st))) P := hr.of fun _ k => XT.lneg X.here hx rfl hd rfl k
theorem g_i2l (X : Stand p l e R s m args below meth c T locs cells slots) (hx : p.tables.exec = Jvm.exec) {x : Int32} (hd : decode c.code pc = .ok (.i2l, 1)) (hr : Goes p.tables e below (T.setTop (mkF m (pc + 1) Ls (.long (x.toInt64) :: st))) P) : Goes p.tables e below (T.setTop (mkF m pc Ls (.int x :: st))) P := hr.of fun _ k => XT.i2l X.here hx rfl hd rfl k
theorem g_l2i (X : Stand p l e R s m args below meth c T locs cells slots) (hx : p.tables.exec = Jvm.exec) {x : Int64} (hd : decode c.code pc = .ok (.l2i, 1)) (hr : Goes p.tables e below (T.setTop (mkF m (pc + 1) Ls (.int (x.toInt32) :: st))) P) : Goes p.tables e below (T.setTop (mkF m pc Ls (.long x :: st))) P := hr.of fun _ k => XT.l2i X.here hx rfl hd rfl k
theorem g_i2b (X : Stand p l e R s m args below meth c T locs cells slots) (hx : p.tables.exec = Jvm.exec) {x : Int32} (hd : decode c.code pc = .ok (.i2b, 1)) (hr : Goes p.tables e below (T.setTop (mkF m (pc + 1) Ls (.int (x.toInt8.toInt32) :: st))) P) : Goes p.tables e below (T.setTop (mkF m pc Ls (.int x :: st))) P := hr.of fun _ k => XT.i2b X.here hx rfl hd rfl k
theorem g_i2c (X : Stand p l e R s m args below meth c T locs cells slots) (hx : p.tables.exec = Jvm.exec) {x : Int32} (hd : decode c.code pc = .ok (.i2c, 1)) (hr : Goes p.tables e below (T.setTop (mkF m (pc + 1) Ls (.int (x.toUInt32.toUInt16.toUInt32.toInt32) :: st))) P) : Goes p.tables e below (T.setTop (mkF m pc Ls (.int x :: st))) P := hr.of fun _ k => XT.i2c X.here hx rfl hd rfl k
theorem g_i2s (X : Stand p l e R s m args below meth c T locs cells slots) (hx : p.tables.exec = Jvm.exec) {x : Int32} (hd : decode c.code pc = .ok (.i2s, 1)) (hr : Goes p.tables e below (T.setTop (mkF m (pc + 1) Ls (.int (x.toInt16.toInt32) :: st))) P) : Goes p.tables e below (T.setTop (mkF m pc Ls (.int x :: st))) P := hr.of fun _ k => XT.i2s X.here hx rfl hd rfl k
theorem g_lcmp (X : Stand p l e R s m args below meth c T locs cells slots) (hx : p.tables.exec = Jvm.exec) {x y : Int64} (hd : decode c.code pc = .ok (.lcmp, 1)) (hr : Goes p.tables e below (T.setTop (mkF m (pc + 1) Ls (.int (XT.cmpL x y) :: st))) P) : Goes p.tables e below (T.setTop (mkF m pc Ls (.long y :: .long x :: st))) P := hr.of fun _ k => XT.lcmp X.here hx rfl hd rfl k
theorem g_dup (X : Stand p l e R s m args below meth c T locs cells slots) (hx : p.tables.exec = Jvm.exec) {x : Value} (hd : decode c.code pc = .ok (.dup, 1)) (hc : x.category = 1) (hr : Goes p.tables e below (T.setTop (mkF m (pc + 1) Ls (x :: x :: st))) P) : Goes p.tables e below (T.setTop (mkF m pc Ls (x :: st))) P := hr.of fun _ k => XS.dup X.here hx rfl hd rfl hc k
theorem g_pop (X : Stand p l e R s m args below meth c T locs cells slots) (hx : p.tables.exec = Jvm.exec) {x : Value} (hd : decode c.code pc = .ok (.pop, 1)) (hc : x.category = 1) (hr : Goes p.tables e below (T.setTop (mkF m (pc + 1) Ls st)) P) : Goes p.tables e below (T.setTop (mkF m pc Ls (x :: st))) P := hr.of fun _ k => XT.pop X.here hx rfl hd rfl hc k
theorem g_dupX1 (X : Stand p l e R s m args below meth c T locs cells slots) (hx : p.tables.exec = Jvm.exec) {x y : Value} (hd : decode c.code pc = .ok (.dup_x1, 1)) (hc : x.category = 1) (hc' : y.category = 1) (hr : Goes p.tables e below (T.setTop (mkF m (pc + 1) Ls (x :: y :: x :: st))) P) : Goes p.tables e below (T.setTop (mkF m pc Ls (x :: y :: st))) P := hr.of fun _ k => XT.dupX1 X.here hx rfl hd rfl hc hc' k
theorem g_dup2 (X : Stand p l e R s m args below meth c T locs cells slots) (hx : p.tables.exec = Jvm.exec) {x y : Value} (hd : decode c.code pc = .ok (.dup2, 1)) (hc : x.category = 1) (hc' : y.category = 1) (hr : Goes p.tables e below (T.setTop (mkF m (pc + 1) Ls (x :: y :: x :: y :: st))) P) : Goes p.tables e below (T.setTop (mkF m pc Ls (x :: y :: st))) P := hr.of fun _ k => XT.dup2 X.here hx rfl hd rfl hc hc' k
theorem g_dup2L (X : Stand p l e R s m args below meth c T locs cells slots) (hx : p.tables.exec = Jvm.exec) {x : Int64} (hd : decode c.code pc = .ok (.dup2, 1)) (hr : Goes p.tables e below (T.setTop (mkF m (pc + 1) Ls (.long x :: .long x :: st))) P) : Goes p.tables e below (T.setTop (mkF m pc Ls (.long x :: st))) P := hr.of fun _ k => XT.dup2L X.here hx rfl hd rfl k
theorem g_iinc (X : Stand p l e R s m args below meth c T locs cells slots) (hx : p.tables.exec = Jvm.exec) {k : Nat} {cst : Int} {x : Int32} {l' : Array Slot} (v : Int32) (hd : decode c.code pc = .ok (.iinc k cst, 3)) (hv : Int32.ofInt cst = v) (hl : Ls[k]? = some (.val (.int x))) (hl' : storeLocals Ls k (.int (x + v)) = some l') (hr : Goes p.tables e below (T.setTop (mkF m (pc + 3) l' st)) P) : Goes p.tables e below (T.setTop (mkF m pc Ls st)) P := hr.of fun _ k => XT.iincV X.here hx rfl v hd hv hl hl' k
theorem g_goto (X : Stand p l e R s m args below meth c T locs cells slots) (hx : p.tables.exec = Jvm.exec) {o : Int} {pc' : Nat} (hd : decode c.code pc = .ok (.goto o, 3)) (ho : 0 ≤ (pc : Int) + o) (hp : ((pc : Int) + o).toNat = pc') (hr : Goes p.tables e below (T.setTop (mkF m pc' Ls st)) P) : Goes p.tables e below (T.setTop (mkF m pc Ls st)) P := hr.of fun _ k => XS.goto X.here hx rfl rfl hd ho hp k
theorem g_icmp_eq (X : Stand p l e R s m args below meth c T locs cells slots) (hx : p.tables.exec = Jvm.exec) {x y : Int32} {o : Int} {pc' : Nat} (hd : decode c.code pc = .ok (.if_icmp .eq o, 3)) (ho : 0 ≤ (pc : Int) + o) (hp : ((pc : Int) + o).toNat = pc') (hT : (x = y) → Goes p.tables e below (T.setTop (mkF m pc' Ls st)) P) (hF : (¬ x = y) → Goes p.tables e below (T.setTop (mkF m (pc + 3) Ls st)) P) : Goes p.tables e below (T.setTop (mkF m pc Ls (.int y :: .int x :: st))) P := by
  by_cases q : x = y
  · exact (hT q).of fun _ k => XS.icmpYes X.here hx rfl rfl hd rfl (XT.ii_eq_t q) ho hp k
  · exact (hF q).of fun _ k => XS.icmpNo X.here hx rfl hd rfl (XT.ii_eq_f q) k
theorem g_if_eq (X : Stand p l e R s m args below meth c T locs cells slots) (hx : p.tables.exec = Jvm.exec) {x : Int32} {o : Int} {pc' : Nat} (hd : decode c.code pc = .ok (.ifCond .eq o, 3)) (ho : 0 ≤ (pc : Int) + o) (hp : ((pc : Int) + o).toNat = pc') (hT : (x = 0) → Goes p.tables e below (T.setTop (mkF m pc' Ls st)) P) (hF : (¬ x = 0) → Goes p.tables e below (T.setTop (mkF m (pc + 3) Ls st)) P) : Goes p.tables e below (T.setTop (mkF m pc Ls (.int x :: st))) P := by
  by_cases q : x = 0
  · exact (hT q).of fun _ k => XS.ifYes X.here hx rfl rfl hd rfl (XT.i0_eq_t q) ho hp k
  · exact (hF q).of fun _ k => XS.ifNo X.here hx rfl hd rfl (XT.i0_eq_f q) k
theorem g_lif_eq (X : Stand p l e R s m args below meth c T locs cells slots) (hx : p.tables.exec = Jvm.exec) {x y : Int64} {o : Int} {pc' : Nat} (hd : decode c.code pc = .ok (.ifCond .eq o, 3)) (ho : 0 ≤ (pc : Int) + o) (hp : ((pc : Int) + o).toNat = pc') (hT : (x = y) → Goes p.tables e below (T.setTop (mkF m pc' Ls st)) P) (hF : (¬ x = y) → Goes p.tables e below (T.setTop (mkF m (pc + 3) Ls st)) P) : Goes p.tables e below (T.setTop (mkF m pc Ls (.int (XT.cmpL x y) :: st))) P := by
  by_cases q : x = y
  · exact (hT q).of fun _ k => XS.ifYes X.here hx rfl rfl hd rfl (XT.ll_eq_t q) ho hp k
  · exact (hF q).of fun _ k => XS.ifNo X.here hx rfl hd rfl (XT.ll_eq_f q) k
theorem g_icmp_ne (X : Stand p l e R s m args below meth c T locs cells slots) (hx : p.tables.exec = Jvm.exec) {x y : Int32} {o : Int} {pc' : Nat} (hd : decode c.code pc = .ok (.if_icmp .ne o, 3)) (ho : 0 ≤ (pc : Int) + o) (hp : ((pc : Int) + o).toNat = pc') (hT : (¬ x = y) → Goes p.tables e below (T.setTop (mkF m pc' Ls st)) P) (hF : (x = y) → Goes p.tables e below (T.setTop (mkF m (pc + 3) Ls st)) P) : Goes p.tables e below (T.setTop (mkF m pc Ls (.int y :: .int x :: st))) P := by
  by_cases q : x = y
  · exact (hF q).of fun _ k => XS.icmpNo X.here hx rfl hd rfl (XT.ii_ne_f q) k
  · exact (hT q).of fun _ k => XS.icmpYes X.here hx rfl rfl hd rfl (XT.ii_ne_t q) ho hp k
theorem g_if_ne (X : Stand p l e R s m args below meth c T locs cells slots) (hx : p.tables.exec = Jvm.exec) {x : Int32} {o : Int} {pc' : Nat} (hd : decode c.code pc = .ok (.ifCond .ne o, 3)) (ho : 0 ≤ (pc : Int) + o) (hp : ((pc : Int) + o).toNat = pc') (hT : (¬ x = 0) → Goes p.tables e below (T.setTop (mkF m pc' Ls st)) P) (hF : (x = 0) → Goes p.tables e below (T.setTop (mkF m (pc + 3) Ls st)) P) : Goes p.tables e below (T.setTop (mkF m pc Ls (.int x :: st))) P := by
  by_cases q : x = 0
  · exact (hF q).of fun _ k => XS.ifNo X.here hx rfl hd rfl (XT.i0_ne_f q) k
  · exact (hT q).of fun _ k => XS.ifYes X.here hx rfl rfl hd rfl (XT.i0_ne_t q) ho hp k
theorem g_lif_ne (X : Stand p l e R s m args below meth c T locs cells slots) (hx : p.tables.exec = Jvm.exec) {x y : Int64} {o : Int} {pc' : Nat} (hd : decode c.code pc = .ok (.ifCond .ne o, 3)) (ho : 0 ≤ (pc : Int) + o) (hp : ((pc : Int) + o).toNat = pc') (hT : (¬ x = y) → Goes p.tables e below (T.setTop (mkF m pc' Ls st)) P) (hF : (x = y) → Goes p.tables e below (T.setTop (mkF m (pc + 3) Ls st)) P) : Goes p.tables e below (T.setTop (mkF m pc Ls (.int (XT.cmpL x y) :: st))) P := by
  by_cases q : x = y
  · exact (hF q).of fun _ k => XS.ifNo X.here hx rfl hd rfl (XT.ll_ne_f q) k
  · exact (hT q).of fun _ k => XS.ifYes X.here hx rfl rfl hd rfl (XT.ll_ne_t q) ho hp k
theorem g_icmp_lt (X : Stand p l e R s m args below meth c T locs cells slots) (hx : p.tables.exec = Jvm.exec) {x y : Int32} {o : Int} {pc' : Nat} (hd : decode c.code pc = .ok (.if_icmp .lt o, 3)) (ho : 0 ≤ (pc : Int) + o) (hp : ((pc : Int) + o).toNat = pc') (hT : (x < y) → Goes p.tables e below (T.setTop (mkF m pc' Ls st)) P) (hF : (¬ x < y) → Goes p.tables e below (T.setTop (mkF m (pc + 3) Ls st)) P) : Goes p.tables e below (T.setTop (mkF m pc Ls (.int y :: .int x :: st))) P := by
  by_cases q : x < y
  · exact (hT q).of fun _ k => XS.icmpYes X.here hx rfl rfl hd rfl (XT.ii_lt_t q) ho hp k
  · exact (hF q).of fun _ k => XS.icmpNo X.here hx rfl hd rfl (XT.ii_lt_f q) k
theorem g_if_lt (X : Stand p l e R s m args below meth c T locs cells slots) (hx : p.tables.exec = Jvm.exec) {x : Int32} {o : Int} {pc' : Nat} (hd : decode c.code pc = .ok (.ifCond .lt o, 3)) (ho : 0 ≤ (pc : Int) + o) (hp : ((pc : Int) + o).toNat = pc') (hT : (x < 0) → Goes p.tables e below (T.setTop (mkF m pc' Ls st)) P) (hF : (¬ x < 0) → Goes p.tables e below (T.setTop (mkF m (pc + 3) Ls st)) P) : Goes p.tables e below (T.setTop (mkF m pc Ls (.int x :: st))) P := by
  by_cases q : x < 0
  · exact (hT q).of fun _ k => XS.ifYes X.here hx rfl rfl hd rfl (XT.i0_lt_t q) ho hp k
  · exact (hF q).of fun _ k => XS.ifNo X.here hx rfl hd rfl (XT.i0_lt_f q) k
theorem g_lif_lt (X : Stand p l e R s m args below meth c T locs cells slots) (hx : p.tables.exec = Jvm.exec) {x y : Int64} {o : Int} {pc' : Nat} (hd : decode c.code pc = .ok (.ifCond .lt o, 3)) (ho : 0 ≤ (pc : Int) + o) (hp : ((pc : Int) + o).toNat = pc') (hT : (x < y) → Goes p.tables e below (T.setTop (mkF m pc' Ls st)) P) (hF : (¬ x < y) → Goes p.tables e below (T.setTop (mkF m (pc + 3) Ls st)) P) : Goes p.tables e below (T.setTop (mkF m pc Ls (.int (XT.cmpL x y) :: st))) P := by
  by_cases q : x < y
  · exact (hT q).of fun _ k => XS.ifYes X.here hx rfl rfl hd rfl (XT.ll_lt_t q) ho hp k
  · exact (hF q).of fun _ k => XS.ifNo X.here hx rfl hd rfl (XT.ll_lt_f q) k
theorem g_icmp_ge (X : Stand p l e R s m args below meth c T locs cells slots) (hx : p.tables.exec = Jvm.exec) {x y : Int32} {o : Int} {pc' : Nat} (hd : decode c.code pc = .ok (.if_icmp .ge o, 3)) (ho : 0 ≤ (pc : Int) + o) (hp : ((pc : Int) + o).toNat = pc') (hT : (¬ x < y) → Goes p.tables e below (T.setTop (mkF m pc' Ls st)) P) (hF : (x < y) → Goes p.tables e below (T.setTop (mkF m (pc + 3) Ls st)) P) : Goes p.tables e below (T.setTop (mkF m pc Ls (.int y :: .int x :: st))) P := by
  by_cases q : x < y
  · exact (hF q).of fun _ k => XS.icmpNo X.here hx rfl hd rfl (XT.ii_ge_f q) k
  · exact (hT q).of fun _ k => XS.icmpYes X.here hx rfl rfl hd rfl (XT.ii_ge_t q) ho hp k
theorem g_if_ge (X : Stand p l e R s m args below meth c T locs cells slots) (hx : p.tables.exec = Jvm.exec) {x : Int32} {o : Int} {pc' : Nat} (hd : decode c.code pc = .ok (.ifCond .ge o, 3)) (ho : 0 ≤ (pc : Int) + o) (hp : ((pc : Int) + o).toNat = pc') (hT : (¬ x < 0) → Goes p.tables e below (T.setTop (mkF m pc' Ls st)) P) (hF : (x < 0) → Goes p.tables e below (T.setTop (mkF m (pc + 3) Ls st)) P) : Goes p.tables e below (T.setTop (mkF m pc Ls (.int x :: st))) P := by
  by_cases q : x < 0
  · exact (hF q).of fun _ k => XS.ifNo X.here hx rfl hd rfl (XT.i0_ge_f q) k
  · exact (hT q).of fun _ k => XS.ifYes X.here hx rfl rfl hd rfl (XT.i0_ge_t q) ho hp k
theorem g_lif_ge (X : Stand p l e R s m args below meth c T locs cells slots) (hx : p.tables.exec = Jvm.exec) {x y : Int64} {o : Int} {pc' : Nat} (hd : decode c.code pc = .ok (.ifCond .ge o, 3)) (ho : 0 ≤ (pc : Int) + o) (hp : ((pc : Int) + o).toNat = pc') (hT : (¬ x < y) → Goes p.tables e below (T.setTop (mkF m pc' Ls st)) P) (hF : (x < y) → Goes p.tables e below (T.setTop (mkF m (pc + 3) Ls st)) P) : Goes p.tables e below (T.setTop (mkF m pc Ls (.int (XT.cmpL x y) :: st))) P := by
  by_cases q : x < y
  · exact (hF q).of fun _ k => XS.ifNo X.here hx rfl hd rfl (XT.ll_ge_f q) k
  · exact (hT q).of fun _ k => XS.ifYes X.here hx rfl rfl hd rfl (XT.ll_ge_t q) ho hp k
theorem g_icmp_gt (X : Stand p l e R s m args below meth c T locs cells slots) (hx : p.tables.exec = Jvm.exec) {x y : Int32} {o : Int} {pc' : Nat} (hd : decode c.code pc = .ok (.if_icmp .gt o, 3)) (ho : 0 ≤ (pc : Int) + o) (hp : ((pc : Int) + o).toNat = pc') (hT : (y < x) → Goes p.tables e below (T.setTop (mkF m pc' Ls st)) P) (hF : (¬ y < x) → Goes p.tables e below (T.setTop (mkF m (pc + 3) Ls st)) P) : Goes p.tables e below (T.setTop (mkF m pc Ls (.int y :: .int x :: st))) P := by
  by_cases q : y < x
  · exact (hT q).of fun _ k => XS.icmpYes X.here hx rfl rfl hd rfl (XT.ii_gt_t q) ho hp k
  · exact (hF q).of fun _ k => XS.icmpNo X.here hx rfl hd rfl (XT.ii_gt_f q) k
theorem g_if_gt (X : Stand p l e R s m args below meth c T locs cells slots) (hx : p.tables.exec = Jvm.exec) {x : Int32} {o : Int} {pc' : Nat} (hd : decode c.code pc = .ok (.ifCond .gt o, 3)) (ho : 0 ≤ (pc : Int) + o) (hp : ((pc : Int) + o).toNat = pc') (hT : (0 < x) → Goes p.tables e below (T.setTop (mkF m pc' Ls st)) P) (hF : (¬ 0 < x) → Goes p.tables e below (T.setTop (mkF m (pc + 3) Ls st)) P) : Goes p.tables e below (T.setTop (mkF m pc Ls (.int x :: st))) P := by
  by_cases q : 0 < x
  · exact (hT q).of fun _ k => XS.ifYes X.here hx rfl rfl hd rfl (XT.i0_gt_t q) ho hp k
  · exact (hF q).of fun _ k => XS.ifNo X.here hx rfl hd rfl (XT.i0_gt_f q) k
theorem g_lif_gt (X : Stand p l e R s m args below meth c T locs cells slots) (hx : p.tables.exec = Jvm.exec) {x y : Int64} {o : Int} {pc' : Nat} (hd : decode c.code pc = .ok (.ifCond .gt o, 3)) (ho : 0 ≤ (pc : Int) + o) (hp : ((pc : Int) + o).toNat = pc') (hT : (y < x) → Goes p.tables e below (T.setTop (mkF m pc' Ls st)) P) (hF : (¬ y < x) → Goes p.tables e below (T.setTop (mkF m (pc + 3) Ls st)) P) : Goes p.tables e below (T.setTop (mkF m pc Ls (.int (XT.cmpL x y) :: st))) P := by
  by_cases q : y < x
  · exact (hT q).of fun _ k => XS.ifYes X.here hx rfl rfl hd rfl (XT.ll_gt_t q) ho hp k
  · exact (hF q).of fun _ k => XS.ifNo X.here hx rfl hd rfl (XT.ll_gt_f q) k
theorem g_icmp_le (X : Stand p l e R s m args below meth c T locs cells slots) (hx : p.tables.exec = Jvm.exec) {x y : Int32} {o : Int} {pc' : Nat} (hd : decode c.code pc = .ok (.if_icmp .le o, 3)) (ho : 0 ≤ (pc : Int) + o) (hp : ((pc : Int) + o).toNat = pc') (hT : (¬ y < x) → Goes p.tables e below (T.setTop (mkF m pc' Ls st)) P) (hF : (y < x) → Goes p.tables e below (T.setTop (mkF m (pc + 3) Ls st)) P) : Goes p.tables e below (T.setTop (mkF m pc Ls (.int y :: .int x :: st))) P := by
  by_cases q : y < x
  · exact (hF q).of fun _ k => XS.icmpNo X.here hx rfl hd rfl (XT.ii_le_f q) k
  · exact (hT q).of fun _ k => XS.icmpYes X.here hx rfl rfl hd rfl (XT.ii_le_t q) ho hp k
theorem g_if_le (X : Stand p l e R s m args below meth c T locs cells slots) (hx : p.tables.exec = Jvm.exec) {x : Int32} {o : Int} {pc' : Nat} (hd : decode c.code pc = .ok (.ifCond .le o, 3)) (ho : 0 ≤ (pc : Int) + o) (hp : ((pc : Int) + o).toNat = pc') (hT : (¬ 0 < x) → Goes p.tables e below (T.setTop (mkF m pc' Ls st)) P) (hF : (0 < x) → Goes p.tables e below (T.setTop (mkF m (pc + 3) Ls st)) P) : Goes p.tables e below (T.setTop (mkF m pc Ls (.int x :: st))) P := by
  by_cases q : 0 < x
  · exact (hF q).of fun _ k => XS.ifNo X.here hx rfl hd rfl (XT.i0_le_f q) k
  · exact (hT q).of fun _ k => XS.ifYes X.here hx rfl rfl hd rfl (XT.i0_le_t q) ho hp k
theorem g_lif_le (X : Stand p l e R s m args below meth c T locs cells slots) (hx : p.tables.exec = Jvm.exec) {x y : Int64} {o : Int} {pc' : Nat} (hd : decode c.code pc = .ok (.ifCond .le o, 3)) (ho : 0 ≤ (pc : Int) + o) (hp : ((pc : Int) + o).toNat = pc') (hT : (¬ y < x) → Goes p.tables e below (T.setTop (mkF m pc' Ls st)) P) (hF : (y < x) → Goes p.tables e below (T.setTop (mkF m (pc + 3) Ls st)) P) : Goes p.tables e below (T.setTop (mkF m pc Ls (.int (XT.cmpL x y) :: st))) P := by
  by_cases q : y < x
  · exact (hF q).of fun _ k => XS.ifNo X.here hx rfl hd rfl (XT.ll_le_f q) k
  · exact (hT q).of fun _ k => XS.ifYes X.here hx rfl rfl hd rfl (XT.ll_le_t q) ho hp k
theorem g_ifnull_ref (X : Stand p l e R s m args below meth c T locs cells slots) (hx : p.tables.exec = Jvm.exec) {b : Addr} {o : Int} (hd : decode c.code pc = .ok (.ifnull o, 3)) (hr : Goes p.tables e below (T.setTop (mkF m (pc + 3) Ls st)) P) : Goes p.tables e below (T.setTop (mkF m pc Ls (.ref b :: st))) P := hr.of fun _ k => XS.ifnullNo X.here hx rfl hd rfl k
theorem g_ifnull_null (X : Stand p l e R s m args below meth c T locs cells slots) (hx : p.tables.exec = Jvm.exec)  {o : Int} {pc' : Nat} (hd : decode c.code pc = .ok (.ifnull o, 3)) (ho : 0 ≤ (pc : Int) + o) (hp : ((pc : Int) + o).toNat = pc') (hr : Goes p.tables e below (T.setTop (mkF m pc' Ls st)) P) : Goes p.tables e below (T.setTop (mkF m pc Ls (.null :: st))) P := hr.of fun _ k => XS.ifnullYes X.here hx rfl rfl hd rfl ho hp k
theorem g_ifnonnull_ref (X : Stand p l e R s m args below meth c T locs cells slots) (hx : p.tables.exec = Jvm.exec) {b : Addr} {o : Int} {pc' : Nat} (hd : decode c.code pc = .ok (.ifnonnull o, 3)) (ho : 0 ≤ (pc : Int) + o) (hp : ((pc : Int) + o).toNat = pc') (hr : Goes p.tables e below (T.setTop (mkF m pc' Ls st)) P) : Goes p.tables e below (T.setTop (mkF m pc Ls (.ref b :: st))) P := hr.of fun _ k => XT.ifnonnullYes X.here hx rfl rfl hd rfl ho hp k
theorem g_ifnonnull_null (X : Stand p l e R s m args below meth c T locs cells slots) (hx : p.tables.exec = Jvm.exec)  {o : Int} (hd : decode c.code pc = .ok (.ifnonnull o, 3)) (hr : Goes p.tables e below (T.setTop (mkF m (pc + 3) Ls st)) P) : Goes p.tables e below (T.setTop (mkF m pc Ls (.null :: st))) P := hr.of fun _ k => XT.ifnonnullNo X.here hx rfl hd rfl k
theorem g_acmp_eq (X : Stand p l e R s m args below meth c T locs cells slots) (hx : p.tables.exec = Jvm.exec) {x y : Value} (hx' : x.isRef = true) (hy' : y.isRef = true) {o : Int} {pc' : Nat} (hd : decode c.code pc = .ok (.if_acmp .eq o, 3)) (ho : 0 ≤ (pc : Int) + o) (hp : ((pc : Int) + o).toNat = pc') (hT : (x = y) → Goes p.tables e below (T.setTop (mkF m pc' Ls st)) P) (hF : (¬ x = y) → Goes p.tables e below (T.setTop (mkF m (pc + 3) Ls st)) P) : Goes p.tables e below (T.setTop (mkF m pc Ls (y :: x :: st))) P := by
  by_cases q : x = y
  · exact (hT q).of fun _ k => XT.acmpYes X.here hx rfl rfl hd rfl hx' hy' (by simp [XT.acmp, q]) ho hp k
  · exact (hF q).of fun _ k => XT.acmpNo X.here hx rfl hd rfl hx' hy' (by simp [XT.acmp, q]) k
theorem g_acmp_ne (X : Stand p l e R s m args below meth c T locs cells slots) (hx : p.tables.exec = Jvm.exec) {x y : Value} (hx' : x.isRef = true) (hy' : y.isRef = true) {o : Int} {pc' : Nat} (hd : decode c.code pc = .ok (.if_acmp .ne o, 3)) (ho : 0 ≤ (pc : Int) + o) (hp : ((pc : Int) + o).toNat = pc') (hT : (¬ x = y) → Goes p.tables e below (T.setTop (mkF m pc' Ls st)) P) (hF : (x = y) → Goes p.tables e below (T.setTop (mkF m (pc + 3) Ls st)) P) : Goes p.tables e below (T.setTop (mkF m pc Ls (y :: x :: st))) P := by
  by_cases q : x = y
  · exact (hF q).of fun _ k => XT.acmpNo X.here hx rfl hd rfl hx' hy' (by simp [XT.acmp, q]) k
  · exact (hT q).of fun _ k => XT.acmpYes X.here hx rfl rfl hd rfl hx' hy' (by simp [XT.acmp, q]) ho hp k
/-- what a body owes at its end: it returned v, Q holds of it, the heap and the places written, within C cells and N slots -/
abbrev Fin (s : State) (C N : Nat) (Q : Option Value → Heap → List Loc → Prop) : State → Outcome → Prop := fun s₂ o => ∃ v L, o = .returned v ∧ Q v s₂.heap L ∧ FrameEnd s o s₂ L C N
variable {C N : Nat} {Q : Option Value → Heap → List Loc → Prop}
theorem g_ret (X : Stand p l e R s m args below meth c T locs cells slots) (hx : p.tables.exec = Jvm.exec) {w : Value} {t : FieldType} {i : Instr} (hret : meth.sig.returnType = some t) (hk : meth.locks = false) (hn : narrow t w = w)
    (hi : (i = .ireturn ∧ (t = .int ∨ t = .boolean ∨ t = .byte ∨ t = .char ∨ t = .short) ∧ ∃ z, w = .int z) ∨ (i = .lreturn ∧ t = .long ∧ ∃ z, w = .long z) ∨ (i = .dreturn ∧ t = .double ∧ ∃ z, w = .double z) ∨ (i = .freturn ∧ t = .float ∧ ∃ z, w = .float z) ∨ (i = .areturn ∧ t.isReference = true ∧ w.isRef = true))
    (hd : decode c.code pc = .ok (i, 1)) (hc : cells ≤ C) (hs : slots ≤ N) (hQ : Q (some w) T.heap locs) : Goes p.tables e below (T.setTop (mkF m pc Ls (w :: st))) (Fin s C N Q) := by
  obtain ⟨fs, hr, hrun, hended, hW, hsame⟩ := X.leave (v := some w) (fun h => by rw [hret] at h; cases h) hk
  exact ⟨_, _, retOut X hx hret hn hi hd hr, hrun, hended, _, _, rfl, hQ, ⟨_, rfl⟩, hW, hsame.mono hc hs⟩
theorem g_retI (X : Stand p l e R s m args below meth c T locs cells slots) (hx : p.tables.exec = Jvm.exec) {z : Int32} (hret : meth.sig.returnType = some .int) (hk : meth.locks = false) (hd : decode c.code pc = .ok (.ireturn, 1)) (hc : cells ≤ C) (hs : slots ≤ N) (hQ : Q (some (.int z)) T.heap locs) :
    Goes p.tables e below (T.setTop (mkF m pc Ls (.int z :: st))) (Fin s C N Q) := g_ret X hx hret hk rfl (Or.inl ⟨rfl, Or.inl rfl, _, rfl⟩) hd hc hs hQ
theorem g_retL (X : Stand p l e R s m args below meth c T locs cells slots) (hx : p.tables.exec = Jvm.exec) {z : Int64} (hret : meth.sig.returnType = some .long) (hk : meth.locks = false) (hd : decode c.code pc = .ok (.lreturn, 1)) (hc : cells ≤ C) (hs : slots ≤ N) (hQ : Q (some (.long z)) T.heap locs) :
    Goes p.tables e below (T.setTop (mkF m pc Ls (.long z :: st))) (Fin s C N Q) := g_ret X hx hret hk rfl (Or.inr (Or.inl ⟨rfl, rfl, _, rfl⟩)) hd hc hs hQ
theorem g_retA (X : Stand p l e R s m args below meth c T locs cells slots) (hx : p.tables.exec = Jvm.exec) {w : Value} {t : FieldType} (hret : meth.sig.returnType = some t) (hk : meth.locks = false) (ht : t.isReference = true) (hw : w.isRef = true) (hd : decode c.code pc = .ok (.areturn, 1)) (hc : cells ≤ C) (hs : slots ≤ N) (hQ : Q (some w) T.heap locs) :
    Goes p.tables e below (T.setTop (mkF m pc Ls (w :: st))) (Fin s C N Q) := g_ret X hx hret hk (by cases t <;> simp [FieldType.isReference] at ht <;> cases w <;> simp [Value.isRef] at hw <;> rfl) (Or.inr (Or.inr (Or.inr (Or.inr ⟨rfl, ht, hw⟩)))) hd hc hs hQ
theorem g_retZ (X : Stand p l e R s m args below meth c T locs cells slots) (hx : p.tables.exec = Jvm.exec) {z : Int32} (hz : z = 0 ∨ z = 1) (hret : meth.sig.returnType = some .boolean) (hk : meth.locks = false) (hd : decode c.code pc = .ok (.ireturn, 1)) (hc : cells ≤ C) (hs : slots ≤ N) (hQ : Q (some (.int z)) T.heap locs) :
    Goes p.tables e below (T.setTop (mkF m pc Ls (.int z :: st))) (Fin s C N Q) := g_ret X hx hret hk (by rcases hz with rfl | rfl <;> rfl) (Or.inl ⟨rfl, Or.inr (Or.inl rfl), _, rfl⟩) hd hc hs hQ
theorem g_retB (X : Stand p l e R s m args below meth c T locs cells slots) (hx : p.tables.exec = Jvm.exec) {z : Int32} (hz : z.toInt8.toInt32 = z) (hret : meth.sig.returnType = some .byte) (hk : meth.locks = false) (hd : decode c.code pc = .ok (.ireturn, 1)) (hc : cells ≤ C) (hs : slots ≤ N) (hQ : Q (some (.int z)) T.heap locs) :
    Goes p.tables e below (T.setTop (mkF m pc Ls (.int z :: st))) (Fin s C N Q) := g_ret X hx hret hk (by show Value.int z.toInt8.toInt32 = _; rw [hz]) (Or.inl ⟨rfl, Or.inr (Or.inr (Or.inl rfl)), _, rfl⟩) hd hc hs hQ
theorem g_ret0 (X : Stand p l e R s m args below meth c T locs cells slots) (hx : p.tables.exec = Jvm.exec) (hret : meth.sig.returnType = none) (hk : meth.locks = false) (hd : decode c.code pc = .ok (.return_, 1)) (hc : cells ≤ C) (hs : slots ≤ N) (hQ : Q none T.heap locs) :
    Goes p.tables e below (T.setTop (mkF m pc Ls [])) (Fin s C N Q) := by
  obtain ⟨fs, hr, hrun, hended, hW, hsame⟩ := X.leave (v := none) (fun _ => rfl) hk
  exact ⟨_, _, X.returnOut hx hret hd hr, hrun, hended, _, _, rfl, hQ, ⟨_, rfl⟩, hW, hsame.mono hc hs⟩
/-- the contract of a body, at these arguments and this heap -/
def Con (l : Launch) (Z : State) (y : MethodName) (bytes : ByteArray) (maxL : Nat) (ret : Option FieldType) (ws : List Jvm.Cond) (rm : Room) (C N : Nat) (as' : Array Value) (h : Heap) (Q : Option Value → Heap → List Loc → Prop) : Prop :=
  MetFree l y (head1 (Jvm.Cond.code y bytes maxL ret :: ws) rm) (fun a U => a = as' ∧ Z.Warmed39 U.vm ∧ U.heap = h) (fun _ _ _ _ _ => True) (fun _ U o U' => ∃ v L, o = .returned v ∧ Q v U'.heap L ∧ FrameEnd U o U' L C N)
theorem Con.body {y : MethodName} {bytes : ByteArray} {maxL : Nat} {ret : Option FieldType} {ws : List Jvm.Cond} {rm : Room} {as' : Array Value} (hp : plainFor y = true)
    (body : ∀ (p : Program) (e : Env) (s : State) (m : MethodId) (below : List Frame) (meth : Method) (c : Code) (T : State), p.tables.exec = Jvm.exec → c.code = bytes → c.maxLocals = maxL → s.vm.findClass y.cls = some m.cls → meth.name = y.name → Z.Warmed39 s.vm → meth.sig.returnType = ret → meth.locks = false →
      Stand p l e rm s m as' below meth c T [] 0 0 → T.heap = h → Goes p.tables e below (T.setTop (entryFrame m as' maxL)) (Fin s C N Q)) : Con l Z y bytes maxL ret ws rm C N as' h Q := by
  refine MetFree.of_bodySF hp hisR ?_
  intro p e s m args below meth c s₁ Bd hml hP hK
  obtain ⟨rfl, hZ, hh⟩ := hP
  exact body p e s m below meth c s₁ Bd.exec Bd.bytes hml (findClass_of_methodNamed Bd.named) (name_of_methodNamed Bd.named Bd.method).1 hZ Bd.returns (BodyLoose.notSynchronized Bd) (Stand.of_body Bd) (by rw [← hh, Bd.state]; rfl)
variable {y : MethodName} {bytes : ByteArray} {maxL : Nat} {ret : Option FieldType} {rm : Room} {as' : Array Value} {own : String} {index W : Nat} {argsL : List Value}
/-- a static call by the callee's contract -/
theorem g_callS (X : Stand p l e R s m args below meth c T locs cells slots) (hx : p.tables.exec = Jvm.exec) (hZ : Z.Warmed39 s.vm) (hown : s.vm.findClass own = some m.cls) (hml : Ls.size = c.maxLocals) (eT : T.heap = h)
    (wl : (Jvm.Cond.methodLink own index y).before a0 Z = true) (wt : (Jvm.Cond.static y).before a0 Z = true) (wz : (Jvm.Cond.initialized y.cls).before a0 Z = true) (wc : (Jvm.Cond.code y bytes maxL ret).before a0 Z = true)
    (hM : Con l Z y bytes maxL ret [] rm rm.cells rm.slots as' h Q) (argsL : List Value) (has : argsL.toArray = as') {S : List Value} (st : List Value) (hS : S = argsL.reverse ++ st) (hlen : ∀ sig, parseMethodDescriptor y.desc = some sig → argsL.length = sig.parameters.length)
    (hd : decode c.code pc = .ok (.invokestatic index, 3)) (hy : y.cls ≠ "java/lang/invoke/MethodHandle" ∧ y.cls ≠ "java/lang/invoke/VarHandle") (W : Nat) (hf : rm.frames + 1 ≤ R.frames) (hl : W + (maxL + 11) + rm.locals ≤ R.locals) (hW : (st.map fun v => v.category).sum ≤ W) (hc : cells + rm.cells ≤ R.cells) (hs : slots + rm.slots ≤ R.slots)
    (k : ∀ v T' L, Stand p l e R s m args below meth c T' (locs ++ L) (cells + rm.cells) (slots + rm.slots) → Q v T'.heap L → Goes p.tables e below (T'.setTop (mkF m (pc + 3) Ls (v.toList ++ st))) P) :
    Goes p.tables e below (T.setTop (mkF m pc Ls S)) P := by
  subst hS
  obtain ⟨v, vm₁, ⟨T', L', k', n'⟩, -, X', ⟨L, hQ, e1, e2, e3⟩, st'⟩ := Jvm.LawKit.callS X hx (y := y) hown (mvT hZ wl) (mvT hZ wt) (mvT hZ wz) (mvT hZ wc) hy (backOf (W := W) hM hZ wc wz hf hl) (g := mkF m pc Ls (argsL.reverse ++ st)) rfl hml (argsL := argsL) (rest := st) hlen rfl (by show 2 * 0 + _ ≤ _; omega) hd (fun _ _ => ⟨has, eT, hc, hs⟩)
  dsimp only [Pt.U, Pt.locs, Pt.cells, Pt.slots] at X' e1 e2 e3 st' hQ
  subst e1 e2 e3
  exact (k v T' L X' hQ).of st'
/-- a constructor by its contract -/
theorem g_callI (X : Stand p l e R s m args below meth c T locs cells slots) (hx : p.tables.exec = Jvm.exec) (hZ : Z.Warmed39 s.vm) (hown : s.vm.findClass own = some m.cls) (hml : Ls.size = c.maxLocals) (eT : T.heap = h) (hn : y.name = "<init>")
    (wl : (Jvm.Cond.methodLink own index y).before a0 Z = true) (wt : (Jvm.Cond.instanceMethod y).before a0 Z = true) (wz : (Jvm.Cond.initialized y.cls).before a0 Z = true) (wc : (Jvm.Cond.code y bytes maxL none).before a0 Z = true)
    (hM : Con l Z y bytes maxL none [] rm rm.cells rm.slots as' h Q) (a : Addr) (argsL : List Value) (has : (.ref a :: argsL).toArray = as') {S : List Value} (st : List Value) (hS : S = argsL.reverse ++ .ref a :: st) (hlen : ∀ sig, parseMethodDescriptor y.desc = some sig → argsL.length = sig.parameters.length)
    (hd : decode c.code pc = .ok (.invokespecial index, 3)) (hy : y.cls ≠ "java/lang/invoke/MethodHandle" ∧ y.cls ≠ "java/lang/invoke/VarHandle") (W : Nat) (hf : rm.frames + 1 ≤ R.frames) (hl : W + (maxL + 11) + rm.locals ≤ R.locals) (hW : (st.map fun v => v.category).sum ≤ W) (hc : cells + rm.cells ≤ R.cells) (hs : slots + rm.slots ≤ R.slots)
    (k : ∀ v T' L, Stand p l e R s m args below meth c T' (locs ++ L) (cells + rm.cells) (slots + rm.slots) → Q v T'.heap L → Goes p.tables e below (T'.setTop (mkF m (pc + 3) Ls (v.toList ++ st))) P) :
    Goes p.tables e below (T.setTop (mkF m pc Ls S)) P := by
  subst hS
  obtain ⟨v, vm₁, ⟨T', L', k', n'⟩, -, X', ⟨L, hQ, e1, e2, e3⟩, st'⟩ := X.specialBack hx (y := y) hn hown (mvT hZ wl) (mvT hZ wt) (mvT hZ wc) hy (backOf (W := W) hM hZ wc wz hf hl) (g := mkF m pc Ls (argsL.reverse ++ .ref a :: st)) rfl hml (Steps.refl _) (a := a) (argsL := argsL) (rest := st) hlen rfl (by show 2 * 0 + _ ≤ _; omega) hd (fun _ _ => ⟨has, eT, hc, hs⟩)
  dsimp only [Pt.U, Pt.locs, Pt.cells, Pt.slots] at X' e1 e2 e3 st' hQ
  subst e1 e2 e3
  exact (k v T' L X' hQ).tr st'
/-- an instance method by its contract -/
theorem g_callV (X : Stand p l e R s m args below meth c T locs cells slots) (hx : p.tables.exec = Jvm.exec) (hZ : Z.Warmed39 s.vm) (hown : s.vm.findClass own = some m.cls) (hml : Ls.size = c.maxLocals) (eT : T.heap = h) {K : String}
    (wl : (Jvm.Cond.methodLink own index y).before a0 Z = true) (wd : (Jvm.Cond.declares y).before a0 Z = true) (wv : (Jvm.Cond.selects K y y).before a0 Z = true) (wt : (Jvm.Cond.instanceMethod y).before a0 Z = true) (wz : (Jvm.Cond.initialized y.cls).before a0 Z = true) (wc : (Jvm.Cond.code y bytes maxL ret).before a0 Z = true)
    {a : Addr} (E : Exa Z h a K) (hM : Con l Z y bytes maxL ret [] rm rm.cells rm.slots as' h Q) (argsL : List Value) (has : (.ref a :: argsL).toArray = as') {S : List Value} (st : List Value) (hS : S = argsL.reverse ++ .ref a :: st) (hlen : ∀ sig, parseMethodDescriptor y.desc = some sig → argsL.length = sig.parameters.length)
    (hd : decode c.code pc = .ok (.invokevirtual index, 3)) (hy : y.cls ≠ "java/lang/invoke/MethodHandle" ∧ y.cls ≠ "java/lang/invoke/VarHandle") (W : Nat) (hf : rm.frames + 1 ≤ R.frames) (hl : W + (maxL + 11) + rm.locals ≤ R.locals) (hW : (st.map fun v => v.category).sum ≤ W) (hc : cells + rm.cells ≤ R.cells) (hs : slots + rm.slots ≤ R.slots)
    (k : ∀ v T' L, Stand p l e R s m args below meth c T' (locs ++ L) (cells + rm.cells) (slots + rm.slots) → Q v T'.heap L → Goes p.tables e below (T'.setTop (mkF m (pc + 3) Ls (v.toList ++ st))) P) :
    Goes p.tables e below (T.setTop (mkF m pc Ls S)) P := by
  subst hS
  obtain ⟨cq, kq, qa, qb, qc⟩ := isOf hZ eT E
  obtain ⟨v, vm₁, ⟨T', L', k', n'⟩, -, X', ⟨L, hQ, e1, e2, e3⟩, st'⟩ := X.virtualBack hx (y := y) (z := y) hown (mvT hZ wl) (mvT hZ wd) (notFace_of_selects (args := #[]) (mvT hZ wv)) (mvT hZ wv) (mvT hZ wt) hy (backOf (W := W) hM hZ wc wz hf hl) qa qc (g := mkF m pc Ls (argsL.reverse ++ .ref a :: st)) rfl hml (Steps.refl _) (argsL := argsL) (rest := st) hlen rfl (by show 2 * 0 + _ ≤ _; omega) hd (fun _ _ => ⟨has, eT, hc, hs⟩)
  dsimp only [Pt.U, Pt.locs, Pt.cells, Pt.slots] at X' e1 e2 e3 st' hQ
  subst e1 e2 e3
  exact (k v T' L X' hQ).tr st'
/-! objects -/
section Objects
variable {own K O R0 nm d host : String} {index kk : Nat} {a : Addr}
theorem g_new (X : Stand p l e R s m args below meth c T locs cells slots) (hx : p.tables.exec = Jvm.exec) (hZ : Z.Warmed39 s.vm) (hown : s.vm.findClass own = some m.cls) (eT : T.heap = h) (w : (Jvm.Cond.classLink own index K).before a0 Z = true) (wi : (Jvm.Cond.instantiable K kk).before a0 Z = true) (wz : (Jvm.Cond.initialized K).before a0 Z = true)
    (hd : decode c.code pc = .ok (.new index, 3)) (hc : cells + 1 ≤ R.cells) (hl : slots + kk ≤ R.slots)
    (k : ∀ T' h' a, a = h.size → Stand p l e R s m args below meth c T' locs (cells + 1) (slots + kk) → T'.heap = h' → Ext h h' → Exa Z h' a K → (∀ {O nm d : String} {ty : FieldType}, Laid Z a0 K O nm d → parseFieldDescriptor d = some ty → Fld Z h' a O nm d (defaultValue ty)) → Goes p.tables e below (T'.setTop (mkF m (pc + 3) Ls (.ref a :: st))) P) :
    Goes p.tables e below (T.setTop (mkF m pc Ls st)) P := by
  obtain ⟨T', h', X', e', E, A, D, -, st'⟩ := newO X hx hZ hown w wi wz eT (g := mkF m pc Ls st) rfl hd hc hl
  exact (k T' h' _ rfl X' e' E A D).of st'
theorem g_init0 (X : Stand p l e R s m args below meth c T locs cells slots) (hx : p.tables.exec = Jvm.exec) (hZ : Z.Warmed39 s.vm) (hown : s.vm.findClass own = some m.cls) (hml : Ls.size = c.maxLocals) (eT : T.heap = h) (w1 : (Jvm.Cond.methodLink own index Lib.objectInit).before a0 Z = true) (w2 : (Jvm.Cond.instanceMethod Lib.objectInit).before a0 Z = true)
    (w3 : (Jvm.Cond.code Lib.objectInit ⟨#[0xb1]⟩ 1 none).before a0 Z = true) (hd : decode c.code pc = .ok (.invokespecial index, 3)) (W : Nat) (hf : 1 ≤ R.frames) (hW : (st.map fun v => v.category).sum ≤ W) (hl : W + 12 ≤ R.locals)
    (k : ∀ T', Stand p l e R s m args below meth c T' locs cells slots → T'.heap = h → Goes p.tables e below (T'.setTop (mkF m (pc + 3) Ls st)) P) : Goes p.tables e below (T.setTop (mkF m pc Ls (.ref a :: st))) P := by
  obtain ⟨T', X', e', st'⟩ := initO X hx hZ hown w1 w2 w3 eT (g := mkF m pc Ls (.ref a :: st)) rfl hml rfl hd hf (W := W) (by show 2 * 0 + _ ≤ _; omega) hl
  exact (k T' X' e').of st'
theorem g_getF (X : Stand p l e R s m args below meth c T locs cells slots) (hx : p.tables.exec = Jvm.exec) (hZ : Z.Warmed39 s.vm) (hown : s.vm.findClass own = some m.cls) (eT : T.heap = h) (w : (Jvm.Cond.fieldLink own index R0 nm d).before a0 Z = true ∨ (Jvm.Cond.fieldLinkNest own index R0 nm d host).before a0 Z = true) (via : Via Z R0 O nm d)
    {v : Value} (F : Fld Z h a O nm d v) (hd : decode c.code pc = .ok (.getfield index, 3))
    (k : ∀ T', Stand p l e R s m args below meth c T' locs cells slots → T'.heap = h → Goes p.tables e below (T'.setTop (mkF m (pc + 3) Ls (v :: st))) P) : Goes p.tables e below (T.setTop (mkF m pc Ls (.ref a :: st))) P := by
  obtain ⟨T', X', e', st'⟩ := getF X hx hZ hown w via eT F (g := mkF m pc Ls (.ref a :: st)) rfl rfl hd
  exact (k T' X' e').of st'
theorem g_getS (X : Stand p l e R s m args below meth c T locs cells slots) (hx : p.tables.exec = Jvm.exec) (hZ : Z.Warmed39 s.vm) (hown : s.vm.findClass own = some m.cls) (eT : T.heap = h) (w : (Jvm.Cond.fieldLink own index O nm d).before a0 Z = true ∨ (Jvm.Cond.fieldLinkNest own index O nm d host).before a0 Z = true)
    {v : Value} (F : Sta Z h O nm d v) (hd : decode c.code pc = .ok (.getstatic index, 3))
    (k : ∀ T', Stand p l e R s m args below meth c T' locs cells slots → T'.heap = h → Goes p.tables e below (T'.setTop (mkF m (pc + 3) Ls (v :: st))) P) : Goes p.tables e below (T.setTop (mkF m pc Ls st)) P := by
  obtain ⟨T', X', e', st'⟩ := getS2 X hx hZ hown w Via.refl eT F (g := mkF m pc Ls st) rfl hd
  exact (k T' X' e').of st'
/-- a field's store; v': what the field then holds -/
theorem g_putF (X : Stand p l e R s m args below meth c T locs cells slots) (hx : p.tables.exec = Jvm.exec) (hZ : Z.Warmed39 s.vm) (hown : s.vm.findClass own = some m.cls) (eT : T.heap = h) (w : (Jvm.Cond.fieldLink own index R0 nm d).before a0 Z = true) (via : Via Z R0 O nm d)
    {v v' old : Value} (F : Fld Z h a O nm d old) (E : Exa Z h a K) (L : (Jvm.Cond.lays K O nm d).before a0 Z = true ∨ ((Jvm.Cond.laysFinal K O nm d).before a0 Z = true ∧ own = O ∧ meth.name = "<init>")) (wi : (Jvm.Cond.instantiable K kk).before a0 Z = true) {ty : FieldType} (hty : parseFieldDescriptor d = some ty) (hn : narrow ty v = v') (hf : fits ty v' = true)
    (hd : decode c.code pc = .ok (.putfield index, 3))
    (k : ∀ T' h', Stand p l e R s m args below meth c T' (locs ++ [⟨a, Jvm.RoadKit.slotOf Z O nm d⟩]) cells slots → T'.heap = h' → Wr h h' a (Jvm.RoadKit.slotOf Z O nm d) v' → Goes p.tables e below (T'.setTop (mkF m (pc + 3) Ls st)) P) : Goes p.tables e below (T.setTop (mkF m pc Ls (v :: .ref a :: st))) P := by
  obtain ⟨T', h', X', e', W', st'⟩ := putFN X hx hZ hown w via eT F E L wi hty hn hf (g := mkF m pc Ls (v :: .ref a :: st)) rfl rfl hd
  exact (k T' h' X' e' W').of st'
end Objects
/-! arrays: the components as a list -/
def Ar (Z : State) (h : Heap) (a : Addr) (ty : FieldType) (vs : List Value) : Prop := ∃ c : Cell, Arr Z h a c ty ∧ c.slots.toList = vs ∧ vs.length < 2 ^ 31 ∧ ∀ v ∈ vs, fits ty v = true
section Arrays
variable {a b : Addr} {ty : FieldType} {vs : List Value} {h' : Heap} {ws : List Addr}
theorem Ar.lt (F : Ar Z h a ty vs) : a < h.size := by obtain ⟨c, A, -⟩ := F; exact A.lt
theorem Ar.ext (F : Ar Z h a ty vs) (E : Ext h h') : Ar Z h' a ty vs := by obtain ⟨c, A, r⟩ := F; exact ⟨c, A.ext E, r⟩
theorem Ar.other (F : Ar Z h b ty vs) {sl : Nat} {v : Value} (W : Wr h h' a sl v) (q : b ≠ a) : Ar Z h' b ty vs := by obtain ⟨c, A, r⟩ := F; exact ⟨c, A.other W q, r⟩
theorem Ar.keep (F : Ar Z h a ty vs) (K : Keep h h' ws) (q : a ∉ ws) : Ar Z h' a ty vs := by obtain ⟨c, A, r⟩ := F; exact ⟨c, ⟨K.2.1 a c A.1 q, A.2⟩, r⟩
theorem own_nat {j : Int32} {i : Nat} (hj : j.toInt = i) : j.toNatClampNeg = i ∧ ¬ j < 0 := by
  have q : ¬ j < 0 := fun q => by have := Int32.lt_iff_toInt_lt.mp q; rw [show (0 : Int32).toInt = 0 from rfl] at this; omega
  have e := nat_of q
  exact ⟨by omega, q⟩
theorem own_in {j : Int32} {i : Nat} (hj : j.toInt = i) {c : Cell} (hs : c.slots.toList = vs) (hi : i < vs.length) : ¬ (j < 0 ∨ c.slots.size ≤ j.toNatClampNeg) := by
  obtain ⟨e, q⟩ := own_nat hj
  rintro (r | r)
  · exact q r
  · rw [← Array.length_toList, hs] at r; omega
theorem own_at {j : Int32} {i : Nat} (hj : j.toInt = i) {c : Cell} (hs : c.slots.toList = vs) {v : Value} (hv : vs[i]? = some v) : c.slots[j.toNatClampNeg]? = some v := by
  rw [(own_nat hj).1, ← Array.getElem?_toList, hs]; exact hv
theorem own_lt {i : Nat} {v : Value} (hv : vs[i]? = some v) : i < vs.length := (List.getElem?_eq_some_iff.mp hv).1
theorem Ar.set {j : Nat} {v : Value} (F : Ar Z h a ty vs) (W : Wr h h' a j v) (hf : fits ty v = true) : Ar Z h' a ty (vs.set j v) := by
  obtain ⟨c, A, hs, hl, hv⟩ := F
  refine ⟨c.setSlot j v, A.same W, by rw [← hs]; simp [Cell.setSlot], by rw [List.length_set]; exact hl, fun w hw => ?_⟩
  rcases List.mem_or_eq_of_mem_set hw with q | q
  · exact hv w q
  · rw [q]; exact hf
theorem g_iaload (X : Stand p l e R s m args below meth c T locs cells slots) (hx : p.tables.exec = Jvm.exec) (hZ : Z.Warmed39 s.vm) (eT : T.heap = h) (A : Ar Z h a .int vs) {j : Int32} {i : Nat} {v : Value} (hj : j.toInt = i) (hv : vs[i]? = some v) (hd : decode c.code pc = .ok (.iaload, 1))
    (hr : Goes p.tables e below (T.setTop (mkF m (pc + 1) Ls (v :: st))) P) : Goes p.tables e below (T.setTop (mkF m pc Ls (.int j :: .ref a :: st))) P := by
  obtain ⟨cl, A, hs, hl, -⟩ := A
  exact hr.of fun _ k => X.iaload hx (by rw [eT]; exact A.1) (State.isArrayOf_alike hZ.alike A.2.1) A.2.2 (own_in hj hs (own_lt hv)) (own_at hj hs hv) (g := mkF m pc Ls (.int j :: .ref a :: st)) rfl rfl hd _ k
theorem g_laload (X : Stand p l e R s m args below meth c T locs cells slots) (hx : p.tables.exec = Jvm.exec) (hZ : Z.Warmed39 s.vm) (eT : T.heap = h) (A : Ar Z h a .long vs) {j : Int32} {i : Nat} {v : Value} (hj : j.toInt = i) (hv : vs[i]? = some v) (hd : decode c.code pc = .ok (.laload, 1))
    (hr : Goes p.tables e below (T.setTop (mkF m (pc + 1) Ls (v :: st))) P) : Goes p.tables e below (T.setTop (mkF m pc Ls (.int j :: .ref a :: st))) P := by
  obtain ⟨cl, A, hs, hl, -⟩ := A
  exact hr.of fun _ k => X.laload hx (by rw [eT]; exact A.1) (State.isArrayOf_alike hZ.alike A.2.1) A.2.2 (own_in hj hs (own_lt hv)) (own_at hj hs hv) (g := mkF m pc Ls (.int j :: .ref a :: st)) rfl rfl hd _ k
theorem g_caload (X : Stand p l e R s m args below meth c T locs cells slots) (hx : p.tables.exec = Jvm.exec) (hZ : Z.Warmed39 s.vm) (eT : T.heap = h) (A : Ar Z h a .char vs) {j : Int32} {i : Nat} {v : Value} (hj : j.toInt = i) (hv : vs[i]? = some v) (hd : decode c.code pc = .ok (.caload, 1))
    (hr : Goes p.tables e below (T.setTop (mkF m (pc + 1) Ls (v :: st))) P) : Goes p.tables e below (T.setTop (mkF m pc Ls (.int j :: .ref a :: st))) P := by
  obtain ⟨cl, A, hs, hl, -⟩ := A
  exact hr.of fun _ k => X.caload hx (by rw [eT]; exact A.1) (State.isArrayOf_alike hZ.alike A.2.1) A.2.2 (own_in hj hs (own_lt hv)) (own_at hj hs hv) (g := mkF m pc Ls (.int j :: .ref a :: st)) rfl rfl hd _ k
theorem g_saload (X : Stand p l e R s m args below meth c T locs cells slots) (hx : p.tables.exec = Jvm.exec) (hZ : Z.Warmed39 s.vm) (eT : T.heap = h) (A : Ar Z h a .short vs) {j : Int32} {i : Nat} {v : Value} (hj : j.toInt = i) (hv : vs[i]? = some v) (hd : decode c.code pc = .ok (.saload, 1))
    (hr : Goes p.tables e below (T.setTop (mkF m (pc + 1) Ls (v :: st))) P) : Goes p.tables e below (T.setTop (mkF m pc Ls (.int j :: .ref a :: st))) P := by
  obtain ⟨cl, A, hs, hl, -⟩ := A
  exact hr.of fun _ k => X.saload hx (by rw [eT]; exact A.1) (State.isArrayOf_alike hZ.alike A.2.1) A.2.2 (own_in hj hs (own_lt hv)) (own_at hj hs hv) (g := mkF m pc Ls (.int j :: .ref a :: st)) rfl rfl hd _ k
theorem g_baload (X : Stand p l e R s m args below meth c T locs cells slots) (hx : p.tables.exec = Jvm.exec) (hZ : Z.Warmed39 s.vm) (eT : T.heap = h) (A : Ar Z h a .byte vs) {j : Int32} {i : Nat} {v : Value} (hj : j.toInt = i) (hv : vs[i]? = some v) (hd : decode c.code pc = .ok (.baload, 1))
    (hr : Goes p.tables e below (T.setTop (mkF m (pc + 1) Ls (v :: st))) P) : Goes p.tables e below (T.setTop (mkF m pc Ls (.int j :: .ref a :: st))) P := by
  obtain ⟨cl, A, hs, hl, -⟩ := A
  exact hr.of fun _ k => X.baloadBytes hx (by rw [eT]; exact A.1) (State.isArrayOf_alike hZ.alike A.2.1) A.2.2 (own_in hj hs (own_lt hv)) (own_at hj hs hv) (g := mkF m pc Ls (.int j :: .ref a :: st)) rfl rfl hd _ k
theorem g_zaload (X : Stand p l e R s m args below meth c T locs cells slots) (hx : p.tables.exec = Jvm.exec) (hZ : Z.Warmed39 s.vm) (eT : T.heap = h) (A : Ar Z h a .boolean vs) {j : Int32} {i : Nat} {v : Value} (hj : j.toInt = i) (hv : vs[i]? = some v) (hd : decode c.code pc = .ok (.baload, 1))
    (hr : Goes p.tables e below (T.setTop (mkF m (pc + 1) Ls (v :: st))) P) : Goes p.tables e below (T.setTop (mkF m pc Ls (.int j :: .ref a :: st))) P := by
  obtain ⟨cl, A, hs, hl, -⟩ := A
  exact hr.of fun _ k => X.baloadBooleans hx (by rw [eT]; exact A.1) (State.isArrayOf_alike hZ.alike A.2.1) A.2.2 (own_in hj hs (own_lt hv)) (own_at hj hs hv) (g := mkF m pc Ls (.int j :: .ref a :: st)) rfl rfl hd _ k
theorem g_aaload (X : Stand p l e R s m args below meth c T locs cells slots) (hx : p.tables.exec = Jvm.exec) (hZ : Z.Warmed39 s.vm) (eT : T.heap = h) (A : Ar Z h a ty vs) (hty : ty.isReference = true) {j : Int32} {i : Nat} {v : Value} (hj : j.toInt = i) (hv : vs[i]? = some v) (hd : decode c.code pc = .ok (.aaload, 1))
    (hr : Goes p.tables e below (T.setTop (mkF m (pc + 1) Ls (v :: st))) P) : Goes p.tables e below (T.setTop (mkF m pc Ls (.int j :: .ref a :: st))) P := by
  obtain ⟨cl, A, hs, hl, -⟩ := A
  exact hr.of fun _ k => X.aaload hx (by rw [eT]; exact A.1) (State.isArrayOf_alike hZ.alike A.2.1) hty A.2.2 (own_in hj hs (own_lt hv)) (own_at hj hs hv) (g := mkF m pc Ls (.int j :: .ref a :: st)) rfl rfl hd _ k
theorem g_alen (X : Stand p l e R s m args below meth c T locs cells slots) (hx : p.tables.exec = Jvm.exec) (hZ : Z.Warmed39 s.vm) (eT : T.heap = h) (A : Ar Z h a ty vs) (z : Int32) (hz : z.toInt = vs.length) (hd : decode c.code pc = .ok (.arraylength, 1))
    (hr : Goes p.tables e below (T.setTop (mkF m (pc + 1) Ls (.int z :: st))) P) : Goes p.tables e below (T.setTop (mkF m pc Ls (.ref a :: st))) P := by
  obtain ⟨cl, A, hs, hl, -⟩ := A
  have q : cl.slots.size.toInt32 = z := by
    have e1 : cl.slots.size = vs.length := by rw [← hs, Array.length_toList]
    exact Int32.toInt_inj.mp (by rw [len_toInt (by rw [e1]; exact hl), hz, e1])
  subst q
  exact hr.of fun _ k => X.arraylength hx (cell := cl) (by rw [eT]; exact A.1) (State.isArrayOf_alike hZ.alike A.2.1) (g := mkF m pc Ls (.ref a :: st)) rfl (rest := st) rfl hd _ k
theorem g_newarr (X : Stand p l e R s m args below meth c T locs cells slots) (hx : p.tables.exec = Jvm.exec) (hZ : Z.Warmed39 s.vm) (eT : T.heap = h) {aty : ArrayType} (w : (Jvm.Cond.arrayClass (newarray.typeOf aty)).before a0 Z = true) (hd : decode c.code pc = .ok (.newarray aty, 2)) {z : Int32} {n : Nat} (hz : z.toInt = n) (cap : Nat) (hcap : n ≤ cap) (hb : cap * 8 ≤ 536870912) (hc : cells + 1 ≤ R.cells) (hl : slots + cap ≤ R.slots) {ad : String} (had : "[" ++ (newarray.typeOf aty).toString = ad) (hfit : fits (newarray.typeOf aty) (defaultValue (newarray.typeOf aty)) = true)
    (k : ∀ T' h' a, a = h.size → Stand p l e R s m args below meth c T' locs (cells + 1) (slots + cap) → T'.heap = h' → Ext h h' → Ar Z h' a (newarray.typeOf aty) (List.replicate n (defaultValue (newarray.typeOf aty))) → Exa Z h' a ad → Goes p.tables e below (T'.setTop (mkF m (pc + 2) Ls (.ref a :: st))) P) :
    Goes p.tables e below (T.setTop (mkF m pc Ls (.int z :: st))) P := by
  obtain ⟨e1, q⟩ := own_nat hz
  obtain ⟨T', h', cA, X', e', E, A, F, st'⟩ := newPE X hx hZ w eT (g := mkF m pc Ls (.int z :: st)) rfl hd rfl q (cap := cap) (by rw [e1]; exact hcap) hb hc hl had
  refine (k T' h' _ rfl X' e' E ⟨_, A, ?_, ?_, ?_⟩ F).of st'
  · simp [newA, e1]
  · rw [List.length_replicate]; have := rng32 z; omega
  · intro v hv; rw [(List.mem_replicate.mp hv).2]; exact hfit
theorem g_iastore (X : Stand p l e R s m args below meth c T locs cells slots) (hx : p.tables.exec = Jvm.exec) (hZ : Z.Warmed39 s.vm) (eT : T.heap = h) (A : Ar Z h a .int vs) {j : Int32} {x : Int32} (i : Nat) (hj : j.toInt = i) (hi : i < vs.length) (hd : decode c.code pc = .ok (.iastore, 1))
    (k : ∀ T' h', Stand p l e R s m args below meth c T' (locs ++ [⟨a, i⟩]) cells slots → T'.heap = h' → Wr h h' a i (.int x) → Ar Z h' a .int (vs.set i (.int x)) → Goes p.tables e below (T'.setTop (mkF m (pc + 1) Ls st)) P) : Goes p.tables e below (T.setTop (mkF m pc Ls (.int x :: .int j :: .ref a :: st))) P := by
  have A' := A
  obtain ⟨cl, A, hs, hl, -⟩ := A
  obtain ⟨T', h', X', e', W', st'⟩ := stI X hx hZ eT A (own_in hj hs hi) (g := mkF m pc Ls (.int x :: .int j :: .ref a :: st)) rfl rfl hd
  rw [(own_nat hj).1] at X' W'
  exact (k T' h' X' e' W' (A'.set W' rfl)).of st'
theorem g_lastore (X : Stand p l e R s m args below meth c T locs cells slots) (hx : p.tables.exec = Jvm.exec) (hZ : Z.Warmed39 s.vm) (eT : T.heap = h) (A : Ar Z h a .long vs) {j : Int32} {x : Int64} (i : Nat) (hj : j.toInt = i) (hi : i < vs.length) (hd : decode c.code pc = .ok (.lastore, 1))
    (k : ∀ T' h', Stand p l e R s m args below meth c T' (locs ++ [⟨a, i⟩]) cells slots → T'.heap = h' → Wr h h' a i (.long x) → Ar Z h' a .long (vs.set i (.long x)) → Goes p.tables e below (T'.setTop (mkF m (pc + 1) Ls st)) P) : Goes p.tables e below (T.setTop (mkF m pc Ls (.long x :: .int j :: .ref a :: st))) P := by
  have A' := A
  obtain ⟨cl, A, hs, hl, -⟩ := A
  obtain ⟨T', h', X', e', W', st'⟩ := stJ X hx hZ eT A (own_in hj hs hi) (g := mkF m pc Ls (.long x :: .int j :: .ref a :: st)) rfl rfl hd
  rw [(own_nat hj).1] at X' W'
  exact (k T' h' X' e' W' (A'.set W' rfl)).of st'
theorem g_castore (X : Stand p l e R s m args below meth c T locs cells slots) (hx : p.tables.exec = Jvm.exec) (hZ : Z.Warmed39 s.vm) (eT : T.heap = h) (A : Ar Z h a .char vs) {j x : Int32} (i : Nat) (hj : j.toInt = i) (hi : i < vs.length) (x' : Int32) (hn : nar .char x = x') (hd : decode c.code pc = .ok (.castore, 1))
    (k : ∀ T' h', Stand p l e R s m args below meth c T' (locs ++ [⟨a, i⟩]) cells slots → T'.heap = h' → Wr h h' a i (.int x') → Ar Z h' a .char (vs.set i (.int x')) → Goes p.tables e below (T'.setTop (mkF m (pc + 1) Ls st)) P) : Goes p.tables e below (T.setTop (mkF m pc Ls (.int x :: .int j :: .ref a :: st))) P := by
  have A' := A
  obtain ⟨cl, A, hs, hl, -⟩ := A
  obtain ⟨T', h', X', e', W', st'⟩ := stC X hx hZ eT A (own_in hj hs hi) (g := mkF m pc Ls (.int x :: .int j :: .ref a :: st)) rfl rfl hd
  rw [(own_nat hj).1, hn] at W'
  rw [(own_nat hj).1] at X'
  exact (k T' h' X' e' W' (A'.set W' (by rw [← hn]; exact fits_nar_char x))).of st'
theorem g_bastore (X : Stand p l e R s m args below meth c T locs cells slots) (hx : p.tables.exec = Jvm.exec) (hZ : Z.Warmed39 s.vm) (eT : T.heap = h) (A : Ar Z h a .byte vs) {j x : Int32} (i : Nat) (hj : j.toInt = i) (hi : i < vs.length) (x' : Int32) (hn : nar .byte x = x') (hd : decode c.code pc = .ok (.bastore, 1))
    (k : ∀ T' h', Stand p l e R s m args below meth c T' (locs ++ [⟨a, i⟩]) cells slots → T'.heap = h' → Wr h h' a i (.int x') → Ar Z h' a .byte (vs.set i (.int x')) → Goes p.tables e below (T'.setTop (mkF m (pc + 1) Ls st)) P) : Goes p.tables e below (T.setTop (mkF m pc Ls (.int x :: .int j :: .ref a :: st))) P := by
  have A' := A
  obtain ⟨cl, A, hs, hl, -⟩ := A
  obtain ⟨T', h', X', e', W', st'⟩ := stB X hx hZ eT A (own_in hj hs hi) (g := mkF m pc Ls (.int x :: .int j :: .ref a :: st)) rfl rfl hd
  rw [(own_nat hj).1, hn] at W'
  rw [(own_nat hj).1] at X'
  exact (k T' h' X' e' W' (A'.set W' (by rw [← hn]; exact fits_nar_byte x))).of st'
theorem g_zastore (X : Stand p l e R s m args below meth c T locs cells slots) (hx : p.tables.exec = Jvm.exec) (hZ : Z.Warmed39 s.vm) (eT : T.heap = h) (A : Ar Z h a .boolean vs) {j x : Int32} (i : Nat) (hj : j.toInt = i) (hi : i < vs.length) (x' : Int32) (hn : nar .boolean x = x') (hd : decode c.code pc = .ok (.bastore, 1))
    (k : ∀ T' h', Stand p l e R s m args below meth c T' (locs ++ [⟨a, i⟩]) cells slots → T'.heap = h' → Wr h h' a i (.int x') → Ar Z h' a .boolean (vs.set i (.int x')) → Goes p.tables e below (T'.setTop (mkF m (pc + 1) Ls st)) P) : Goes p.tables e below (T.setTop (mkF m pc Ls (.int x :: .int j :: .ref a :: st))) P := by
  have A' := A
  obtain ⟨cl, A, hs, hl, -⟩ := A
  obtain ⟨T', h', X', e', W', st'⟩ := stZ X hx hZ eT A (own_in hj hs hi) (g := mkF m pc Ls (.int x :: .int j :: .ref a :: st)) rfl rfl hd
  rw [(own_nat hj).1, hn] at W'
  rw [(own_nat hj).1] at X'
  exact (k T' h' X' e' W' (A'.set W' (by rw [← hn]; exact fits_nar_bool x))).of st'
theorem g_clone (X : Stand p l e R s m args below meth c T locs cells slots) (hx : p.tables.exec = Jvm.exec) (hZ : Z.Warmed39 s.vm) {own ad : String} {index : Nat} (hown : s.vm.findClass own = some m.cls) (hml : Ls.size = c.maxLocals) (eT : T.heap = h)
    (w1 : (Jvm.Cond.methodLink own index ⟨ad, "clone", "()Ljava/lang/Object;"⟩).before a0 Z = true) (w2 : (Jvm.Cond.sameMethod ad "java/lang/Object" "clone" "()Ljava/lang/Object;").before a0 Z = true) (w3 : (Jvm.Cond.native ⟨"java/lang/Object", "clone", "()Ljava/lang/Object;"⟩).before a0 Z = true)
    (w4 : (Jvm.Cond.instanceMethod ⟨"java/lang/Object", "clone", "()Ljava/lang/Object;"⟩).before a0 Z = true) (w5 : (Jvm.Cond.selects ad ⟨ad, "clone", "()Ljava/lang/Object;"⟩ ⟨"java/lang/Object", "clone", "()Ljava/lang/Object;"⟩).before a0 Z = true) (w6 : (Jvm.Cond.castable ad "java/lang/Cloneable").before a0 Z = true)
    (A : Ar Z h a ty vs) (E : Exa Z h a ad) (hd : decode c.code pc = .ok (.invokevirtual index, 3)) (W cap : Nat) (hf : 1 ≤ R.frames) (hW : (st.map fun v => v.category).sum ≤ W) (hl : W + 14 ≤ R.locals) (hcap : vs.length ≤ cap) (hc : cells + 1 ≤ R.cells) (hsl : slots + cap ≤ R.slots)
    (k : ∀ T' h' b, b = h.size → Stand p l e R s m args below meth c T' locs (cells + 1) (slots + cap) → T'.heap = h' → Ext h h' → Ar Z h' b ty vs → Exa Z h' b ad → Goes p.tables e below (T'.setTop (mkF m (pc + 3) Ls (.ref b :: st))) P) :
    Goes p.tables e below (T.setTop (mkF m pc Ls (.ref a :: st))) P := by
  obtain ⟨cl, A, hs, hln, hft⟩ := A
  have hsz : cl.slots.size = vs.length := by rw [← hs, Array.length_toList]
  obtain ⟨T', h', X', e', Ex, A', E', st'⟩ := cloneA X hx hZ hown w1 w2 w3 w4 w5 w6 eT A E (fitC_of A (fun i hi v hv => hft v (by rw [← hs]; exact Array.mem_toList_iff.mpr (Array.mem_of_getElem? hv)))) (g := mkF m pc Ls (.ref a :: st)) rfl hml rfl hd hf (W := W) (cap := cap) (by show 2 * 0 + _ ≤ _; omega) hl (by rw [hsz]; exact hcap) hc hsl
  exact (k T' h' _ rfl X' e' Ex ⟨_, A', hs, hln, hft⟩ E').of st'
theorem g_cast (X : Stand p l e R s m args below meth c T locs cells slots) (hx : p.tables.exec = Jvm.exec) (hZ : Z.Warmed39 s.vm) {own K : String} {index : Nat} (hown : s.vm.findClass own = some m.cls) (eT : T.heap = h) (w : (Jvm.Cond.classLink own index K).before a0 Z = true) (F : Ins Z h a K true) (hd : decode c.code pc = .ok (.checkcast index, 3))
    (k : ∀ T', Stand p l e R s m args below meth c T' locs cells slots → T'.heap = h → Goes p.tables e below (T'.setTop (mkF m (pc + 3) Ls (.ref a :: st))) P) : Goes p.tables e below (T.setTop (mkF m pc Ls (.ref a :: st))) P := by
  obtain ⟨T', X', e', st'⟩ := castY X hx hZ hown w eT F (g := mkF m pc Ls (.ref a :: st)) rfl rfl hd
  exact (k T' X' e').of st'
theorem Ar.toV (F : Ar Z h a ty vs) (d : Value) : ∃ k, Arv Z h a k ty (Int32.ofNat vs.length) vs d := by
  obtain ⟨cl, A, hs, hl, hf⟩ := F
  have e1 : cl.slots.size = vs.length := by rw [← hs, Array.length_toList]
  obtain ⟨e2, q⟩ := own_nat (j := Int32.ofNat vs.length) (i := vs.length) (Int32.toInt_ofNat_of_lt (by omega))
  refine ⟨cl.cls, cl, A, rfl, by rw [e2, e1], q, fun i hi => ?_, fun i hi => ?_⟩
  · rw [← Array.getElem?_toList, hs, List.getD_eq_getElem?_getD, List.getElem?_eq_getElem (by omega)]; rfl
  · rw [List.getD_eq_getElem?_getD, List.getElem?_eq_getElem (by omega)]; exact hf _ (List.getElem_mem _)
theorem Ar.ofV {k : ClassId} {z : Int32} {d : Value} (F : Arv Z h a k ty z vs d) (hl : vs.length = z.toNatClampNeg) (hb : vs.length < 2 ^ 31) : Ar Z h a ty vs := by
  obtain ⟨cl, A, -, hs, -, H, G⟩ := F
  have e : cl.slots.toList = vs := by
    apply List.ext_getElem?
    intro i
    by_cases hi : i < cl.slots.size
    · rw [Array.getElem?_toList, H i hi, List.getD_eq_getElem?_getD, List.getElem?_eq_getElem (by omega)]; rfl
    · rw [List.getElem?_eq_none (by rw [Array.length_toList]; omega), List.getElem?_eq_none (by omega)]
  refine ⟨cl, A, e, hb, fun v hv => ?_⟩
  obtain ⟨i, hi, rfl⟩ := List.getElem_of_mem hv
  have q := G i (by omega)
  rwa [List.getD_eq_getElem?_getD, List.getElem?_eq_getElem hi] at q
theorem own_rangeTake (vs : List Value) (d : Value) (n : Nat) (hn : n ≤ vs.length) : (List.range n).map (fun i => vs.getD (0 + i) d) = vs.take n := by
  apply List.ext_getElem
  · simp; omega
  · intro i h1 h2
    simp at h1 h2
    simp [List.getElem?_eq_getElem (show i < vs.length by omega)]
theorem g_acopy (X : Stand p l e R s m args below meth c T locs cells slots) (hx : p.tables.exec = Jvm.exec) (hZ : Z.Warmed39 s.vm) {own : String} {index : Nat} (hown : s.vm.findClass own = some m.cls) (hml : Ls.size = c.maxLocals) (eT : T.heap = h)
    (w1 : (Jvm.Cond.methodLink own index Jvm.Stand.acN).before a0 Z = true) (w2 : (Jvm.Cond.native Jvm.Stand.acN).before a0 Z = true) (w3 : (Jvm.Cond.static Jvm.Stand.acN).before a0 Z = true) (w4 : (Jvm.Cond.initialized "java/lang/System").before a0 Z = true)
    {vd : List Value} (A : Ar Z h a ty vs) (B : Ar Z h b ty vd) (hp : refKind ty = false) {nn : Int32} {n : Nat} (hn : nn.toInt = n) (h1 : n ≤ vs.length) (h2 : n ≤ vd.length) {n0 : Nat} (N : Fr n0 locs) (ge : n0 ≤ b) (hd : decode c.code pc = .ok (.invokestatic index, 3))
    (W : Nat) (hf : 1 ≤ R.frames) (hW : (st.map fun v => v.category).sum ≤ W) (hlo : W + (nativeFrameWords "java/lang/System" "arraycopy" 5 + 11) ≤ R.locals)
    (k : ∀ T' h' L, Stand p l e R s m args below meth c T' L cells slots → T'.heap = h' → Fr n0 L → Keep h h' [b] → Ar Z h' b ty (vs.take n ++ vd.drop n) → Goes p.tables e below (T'.setTop (mkF m (pc + 3) Ls st)) P) :
    Goes p.tables e below (T.setTop (mkF m pc Ls (.int nn :: .int 0 :: .ref b :: .int 0 :: .ref a :: st))) P := by
  obtain ⟨k1, A1⟩ := A.toV .null
  obtain ⟨k2, B1⟩ := B.toV .null
  obtain ⟨en, qn⟩ := own_nat hn
  have lv : vs.length < 2 ^ 31 := by obtain ⟨_, _, _, q, _⟩ := A; exact q
  have ld : vd.length < 2 ^ 31 := by obtain ⟨_, _, _, q, _⟩ := B; exact q
  have ev : (Int32.ofNat vs.length).toNatClampNeg = vs.length := (own_nat (Int32.toInt_ofNat_of_lt (by omega))).1
  have ed : (Int32.ofNat vd.length).toNatClampNeg = vd.length := (own_nat (Int32.toInt_ofNat_of_lt (by omega))).1
  have e0 : (0 : Int32).toNatClampNeg = 0 := rfl
  obtain ⟨T', h', L, X', e', N', K', B', st'⟩ := cpA X hx hZ hown w1 w2 w3 w4 eT A1 B1 (sp := 0) (dp := 0) (nn := nn) (Or.inl ⟨rfl, hp⟩) (by decide) (by decide) qn (by rw [e0, en, ev]; omega) (by rw [e0, en, ed]; omega) rfl (by rw [e0, en]; omega) N ge (g := mkF m pc Ls (.int nn :: .int 0 :: .ref b :: .int 0 :: .ref a :: st)) rfl hml rfl hd hf (W := W) (by show 2 * 0 + _ ≤ _; omega) hlo
  rw [e0, en, own_rangeTake vs _ n h1, List.take_zero, List.nil_append, Nat.zero_add] at B'
  have hlen : (vs.take n ++ vd.drop n).length = vd.length := by rw [List.length_append, List.length_take, List.length_drop]; omega
  exact (k T' h' L X' e' N' K' (Ar.ofV B' (by rw [hlen, ed]) (by rw [hlen]; exact ld))).of st'
end Arrays
theorem own_nst {a : Addr} {K : String} (E : Exa Z h a K) : ∀ c : Cell, h[a]? = some c → c.vm.isStatics = false := fun c hc => by
  obtain ⟨cell, k, h1, -, -, h4, -⟩ := E
  cases h1.symm.trans hc
  exact h4
theorem own_stakeep {h' : Heap} {K n d : String} {v : Value} {ws : List Addr} (F : Sta Z h K n d v) (hK : Keep h h' ws) (q : ∀ x ∈ ws, ∀ c : Cell, h[x]? = some c → c.vm.isStatics = false) : Sta Z h' K n d v := by
  obtain ⟨cf, i, k, f, sa, cell, h1, h2, h3, h4, h5, h6, h7⟩ := F
  exact ⟨cf, i, k, f, sa, cell, h1, h2, h3, h4, hK.2.1 sa cell h5 (fun hm => by rw [q sa hm cell h5] at h6; cases h6), h6, h7⟩
/-! words on statics -/
section Words
variable {first : State} {o : Option Outcome} {idx : List Nat} {ta tb : Term}
theorem own_eqR {y : Addr} (h : (Jvm.Cond.eq ta tb).value args first o s idx = some true) (hb : tb.eval args first o idx s = some (.ref y)) : ta.eval args first o idx s = some (.ref y) := by
  obtain ⟨x, z, ha, hb', k1, k2⟩ := cmp_v (Or.inl h)
  cases hb.symm.trans hb'
  have e := gotT (eq_R ha hb k2.2 rfl) h
  rw [ha, e]
theorem own_eqI {y : Int32} (h : (Jvm.Cond.eq ta tb).value args first o s idx = some true) (hb : tb.eval args first o idx s = some (.int y)) : ta.eval args first o idx s = some (.int y) := by
  obtain ⟨x, z, ha, hb', k1, k2⟩ := cmp_v (Or.inl h)
  cases hb.symm.trans hb'
  obtain ⟨w, rfl⟩ := k2
  simp [Jvm.Cond.value, ha, hb] at h
  rw [ha, h]
end Words
end Walk
end Jvm.OwnW
namespace Jvm.Pilot.@@N@@
open Jvm Jvm.ClassFile Sem Op Lib Jvm.Free Jvm.Stand Jvm.LawKit Jvm.RoadKit Bundle Jvm.OwnW Jvm.Pilot.@@N@@.Jvm.D
theorem d1_0 : decode jdk_29_method_66_code 0 = .ok (.lload_n 0, 1) := by decide +kernel
theorem d1_1 : decode jdk_29_method_66_code 1 = .ok (.lload_n 2, 1) := by decide +kernel
theorem d1_2 : decode jdk_29_method_66_code 2 = .ok (.lcmp, 1) := by decide +kernel
theorem d1_3 : decode jdk_29_method_66_code 3 = .ok (.ifCond .lt 7, 3) := by decide +kernel
theorem d1_6 : decode jdk_29_method_66_code 6 = .ok (.lload_n 0, 1) := by decide +kernel
theorem d1_7 : decode jdk_29_method_66_code 7 = .ok (.goto 4, 3) := by decide +kernel
theorem d1_10 : decode jdk_29_method_66_code 10 = .ok (.lload_n 2, 1) := by decide +kernel
theorem d1_11 : decode jdk_29_method_66_code 11 = .ok (.lreturn, 1) := by decide +kernel
theorem pd_1 : parseMethodDescriptor "(JJ)J" = some ⟨[.long, .long], some .long⟩ := by decide +kernel
theorem ef_1 (m : MethodId) (p0 : Int64) (p1 : Int64) : entryFrame m #[(.long p0), (.long p1)] 4 = mkF m 0 #[.val (.long p0), .second, .val (.long p1), .second] [] := by first | (simp [entryFrame, mkF, argsToLocals, Value.category]; done) | rfl
def maxV (p0 : Int64) (p1 : Int64) : Int64 := (if p0 < p1 then p1 else p0)
set_option maxRecDepth 65536 in
set_option maxHeartbeats 40000000 in
theorem rmX (l : Launch) (Z : State) (a0 : Array Value) (hw : ∀ d ∈ tables_1, d.before a0 Z = true) (p0 : Int64) (p1 : Int64) (h0 : Heap)  :
    Con l Z (⟨"java/lang/Math", "max", "(JJ)J"⟩ : MethodName) jdk_29_method_66_code 4 (some .long) [] ({ frames := 0, cells := 0, slots := 0, locals := 0 } : Room) 0 0 #[(.long p0), (.long p1)] h0 (fun v h L => v = some (.long (maxV p0 p1)) ∧ h = h0 ∧ L = []) := by
  refine Con.body (Jvm.Free.JP.mathPlain rfl (by decide +kernel)) ?_
  intro p e s m below meth c T0 hx hby hml hown hnm hZ hret hlk X0 e0
  refine Goes.cast (ef_1 m p0 p1) ?_
  show Goes p.tables e below (T0.setTop (mkF m 0 #[.val (.long p0), .second, .val (.long p1), .second] [])) _
  refine g_lloadN X0 hx (hb hby d1_0) rfl ?_
  show Goes p.tables e below (T0.setTop (mkF m 1 #[.val (.long p0), .second, .val (.long p1), .second] [(.long p0)])) _
  refine g_lloadN X0 hx (hb hby d1_1) rfl ?_
  show Goes p.tables e below (T0.setTop (mkF m 2 #[.val (.long p0), .second, .val (.long p1), .second] [(.long p1), (.long p0)])) _
  refine g_lcmp X0 hx (hb hby d1_2) ?_
  show Goes p.tables e below (T0.setTop (mkF m 3 #[.val (.long p0), .second, .val (.long p1), .second] [(.int (XT.cmpL p0 p1))])) _
  refine g_lif_lt X0 hx (hb hby d1_3) (by decide) (pc' := 10) (by decide) (fun c3 => ?_) (fun c3 => ?_)
  · skip
    show Goes p.tables e below (T0.setTop (mkF m 10 #[.val (.long p0), .second, .val (.long p1), .second] [])) _
    refine g_lloadN X0 hx (hb hby d1_10) rfl ?_
    show Goes p.tables e below (T0.setTop (mkF m 11 #[.val (.long p0), .second, .val (.long p1), .second] [(.long p1)])) _
    exact g_retL X0 hx hret hlk (hb hby d1_11) (by decide) (by decide) ⟨by rw [maxV, if_pos c3], e0, rfl⟩
  · skip
    show Goes p.tables e below (T0.setTop (mkF m 6 #[.val (.long p0), .second, .val (.long p1), .second] [])) _
    refine g_lloadN X0 hx (hb hby d1_6) rfl ?_
    show Goes p.tables e below (T0.setTop (mkF m 7 #[.val (.long p0), .second, .val (.long p1), .second] [(.long p0)])) _
    refine g_goto X0 hx (hb hby d1_7) (by decide) (pc' := 11) (by decide) ?_
    show Goes p.tables e below (T0.setTop (mkF m 11 #[.val (.long p0), .second, .val (.long p1), .second] [(.long p0)])) _
    exact g_retL X0 hx hret hlk (hb hby d1_11) (by decide) (by decide) ⟨by rw [maxV, if_neg c3], e0, rfl⟩
theorem own_m1 {i : Int32} {j : Nat} (h : i.toInt = (j + 1 : Nat)) : (i - 1).toInt = j := by
  have a := c_isub i 1
  have k : (1 : Int32).toInt = 1 := by decide
  have r := rng32 i
  have r2 := rng32 (i - 1)
  rw [k] at a
  omega
theorem own_n {k v : Int32} (hv : v = ((1 : Int32) + ((k &&& (2147483647 : Int32)) % (3 : Int32)))) : v = 1 ∨ v = 2 ∨ v = 3 := by
  have a := (c_and k 2147483647 (by decide)).1
  have q := (c_irem (k &&& 2147483647) 3 3 (by decide)).1 a
  have b := c_iadd 1 ((k &&& 2147483647) % 3)
  have o : (1 : Int32).toInt = 1 := by decide
  have r := rng32 (1 + (k &&& 2147483647) % 3)
  rw [o] at b
  have z : v.toInt = 1 ∨ v.toInt = 2 ∨ v.toInt = 3 := by rw [hv]; omega
  rcases z with z | z | z
  · exact Or.inl (Int32.toInt_inj.mp z)
  · exact Or.inr (Or.inl (Int32.toInt_inj.mp z))
  · exact Or.inr (Or.inr (Int32.toInt_inj.mp z))
theorem own_max1 (x : Int64) : maxV x x = x := by unfold maxV; split <;> rfl
theorem own_max2 (x y : Int64) : maxV x (maxV (maxV x y) x) = maxV x y := by
  unfold maxV
  by_cases h : x < y
  · have h' : ¬ y < x := fun z => by rw [Int64.lt_iff_toInt_lt] at *; omega
    rw [if_pos h, if_neg h', if_pos h]
  · have h' : ¬ x < x := fun z => by rw [Int64.lt_iff_toInt_lt] at *; omega
    rw [if_neg h, if_neg h', if_neg h']
theorem own_max3 (x y z : Int64) : maxV x (maxV (maxV x y) (maxV (maxV x y) z)) = maxV (maxV x y) z := by
  unfold maxV
  simp only [Int64.lt_iff_toInt_lt]
  repeat' split
  all_goals first | rfl | omega | (apply Int64.toInt_inj.mp; omega)
theorem d2_0 : decode prog_17_method_1_code 0 = .ok (.aload_n 0, 1) := by decide +kernel
theorem d2_1 : decode prog_17_method_1_code 1 = .ok (.invokespecial 1, 3) := by decide +kernel
theorem d2_4 : decode prog_17_method_1_code 4 = .ok (.aload_n 0, 1) := by decide +kernel
theorem d2_5 : decode prog_17_method_1_code 5 = .ok (.aload_n 1, 1) := by decide +kernel
theorem d2_6 : decode prog_17_method_1_code 6 = .ok (.putfield 7, 3) := by decide +kernel
theorem d2_9 : decode prog_17_method_1_code 9 = .ok (.aload_n 0, 1) := by decide +kernel
theorem d2_10 : decode prog_17_method_1_code 10 = .ok (.iload_n 2, 1) := by decide +kernel
theorem d2_11 : decode prog_17_method_1_code 11 = .ok (.putfield 13, 3) := by decide +kernel
theorem d2_14 : decode prog_17_method_1_code 14 = .ok (.aload_n 0, 1) := by decide +kernel
theorem d2_15 : decode prog_17_method_1_code 15 = .ok (.aload_n 3, 1) := by decide +kernel
theorem d2_16 : decode prog_17_method_1_code 16 = .ok (.putfield 17, 3) := by decide +kernel
theorem d2_19 : decode prog_17_method_1_code 19 = .ok (.aload_n 0, 1) := by decide +kernel
theorem d2_20 : decode prog_17_method_1_code 20 = .ok (.aload 4, 2) := by decide +kernel
theorem d2_22 : decode prog_17_method_1_code 22 = .ok (.invokevirtual 21, 3) := by decide +kernel
theorem d2_25 : decode prog_17_method_1_code 25 = .ok (.checkcast 22, 3) := by decide +kernel
theorem d2_28 : decode prog_17_method_1_code 28 = .ok (.putfield 27, 3) := by decide +kernel
theorem d2_31 : decode prog_17_method_1_code 31 = .ok (.return_, 1) := by decide +kernel
theorem pd_2 : parseMethodDescriptor "(Lcom/example/drongo/drongo/event/RotaryEvent$Knob;ZLcom/example/drongo/drongo/event/Display;[J)V" = some ⟨[(.object "com/example/drongo/drongo/event/RotaryEvent$Knob"), .boolean, (.object "com/example/drongo/drongo/event/Display"), (.array .long)], none⟩ := by decide +kernel
theorem ef_2 (m : MethodId) (p0 : Addr) (p1 : Addr) (p2 : Int32) (p3 : Addr) (p4 : Addr) : entryFrame m #[(.ref p0), (.ref p1), (.int p2), (.ref p3), (.ref p4)] 5 = mkF m 0 #[.val (.ref p0), .val (.ref p1), .val (.int p2), .val (.ref p3), .val (.ref p4)] [] := by first | (simp [entryFrame, mkF, argsToLocals, Value.category]; done) | rfl
set_option maxRecDepth 65536 in
set_option maxHeartbeats 40000000 in
theorem rmI (l : Launch) (Z : State) (a0 : Array Value) (hw : ∀ d ∈ tables_1, d.before a0 Z = true) (p0 : Addr) (p1 : Addr) (p2 : Int32) (p3 : Addr) (p4 : Addr) (h0 : Heap) (n0 : Nat) (Z0 : n0 ≤ h0.size) (vs : List Value) (hvs : vs.length ≤ 3) (f1 : Fld Z h0 p0 "com/example/drongo/drongo/event/RotaryEvent" "knob" "Lcom/example/drongo/drongo/event/RotaryEvent$Knob;" .null) (f2 : Fld Z h0 p0 "com/example/drongo/drongo/event/RotaryEvent" "clockwise" "Z" (.int (0 : Int32))) (f3 : Fld Z h0 p0 "com/example/drongo/drongo/event/RotaryEvent" "display" "Lcom/example/drongo/drongo/event/Display;" .null) (f4 : Fld Z h0 p0 "com/example/drongo/drongo/event/RotaryEvent" "timesMillis" "[J" .null) (E0 : Exa Z h0 p0 "com/example/drongo/drongo/event/RotaryEvent") (A0 : Ar Z h0 p4 .long vs) (EA : Exa Z h0 p4 "[J") (ga : n0 ≤ p0) (nab : p4 ≠ p0) :
    Con l Z (⟨"com/example/drongo/drongo/event/RotaryEvent", "<init>", "(Lcom/example/drongo/drongo/event/RotaryEvent$Knob;ZLcom/example/drongo/drongo/event/Display;[J)V"⟩ : MethodName) prog_17_method_1_code 5 none [] ({ frames := 1, cells := 1, slots := 3, locals := 16 } : Room) 1 3 #[(.ref p0), (.ref p1), (.int p2), (.ref p3), (.ref p4)] h0 (fun v h L => v = none ∧ Fr n0 L ∧ Keep h0 h [p0] ∧ ∃ b, n0 ≤ b ∧ h0.size ≤ b ∧ Fld Z h p0 "com/example/drongo/drongo/event/RotaryEvent" "timesMillis" "[J" (.ref b) ∧ Ar Z h b .long vs) := by
  refine Con.body (plainFor_of_name (by first | (simp [plainName, overriddenIn]; done) | decide +kernel)) ?_
  intro p e s m below meth c T0 hx hby hml hown hnm hZ hret hlk X0 e0
  refine Goes.cast (ef_2 m p0 p1 p2 p3 p4) ?_
  have N0 := Fr.nil n0
  have K0 : Keep h0 h0 [p0] := Keep.refl _ _
  show Goes p.tables e below (T0.setTop (mkF m 0 #[.val (.ref p0), .val (.ref p1), .val (.int p2), .val (.ref p3), .val (.ref p4)] [])) _
  refine g_aloadN X0 hx (hb hby d2_0) rfl rfl ?_
  show Goes p.tables e below (T0.setTop (mkF m 1 #[.val (.ref p0), .val (.ref p1), .val (.int p2), .val (.ref p3), .val (.ref p4)] [(.ref p0)])) _
  refine g_init0 X0 hx hZ hown (by rw [hml]; rfl) e0 (hw _ (List.mem_of_getElem? (i := 18) rfl)) (hw _ (List.mem_of_getElem? (i := 19) rfl)) (hw _ (List.mem_of_getElem? (i := 20) rfl)) (hb hby d2_1) 0 (by decide) (by first | decide | exact Nat.le_refl _) (by first | decide | exact Nat.le_refl _) (fun T1 X1 e1 => ?_)
  show Goes p.tables e below (T1.setTop (mkF m 4 #[.val (.ref p0), .val (.ref p1), .val (.int p2), .val (.ref p3), .val (.ref p4)] [])) _
  refine g_aloadN X1 hx (hb hby d2_4) rfl rfl ?_
  show Goes p.tables e below (T1.setTop (mkF m 5 #[.val (.ref p0), .val (.ref p1), .val (.int p2), .val (.ref p3), .val (.ref p4)] [(.ref p0)])) _
  refine g_aloadN X1 hx (hb hby d2_5) rfl rfl ?_
  show Goes p.tables e below (T1.setTop (mkF m 6 #[.val (.ref p0), .val (.ref p1), .val (.int p2), .val (.ref p3), .val (.ref p4)] [(.ref p1), (.ref p0)])) _
  refine g_putF X1 hx hZ hown e1 (hw _ (List.mem_of_getElem? (i := 21) rfl)) Via.refl (v' := (.ref p1)) f1 E0 (Or.inr ⟨(hw _ (List.mem_of_getElem? (i := 22) rfl)), rfl, hnm⟩) (hw _ (List.mem_of_getElem? (i := 13) rfl)) (ty := (.object "com/example/drongo/drongo/event/RotaryEvent$Knob")) (by decide) rfl rfl (hb hby d2_6) (fun T2 h2 X2 e2 W2 => ?_)
  have fx3 : Fld Z h2 p0 "com/example/drongo/drongo/event/RotaryEvent" "clockwise" "Z" (.int (0 : Int32)) := Fld.other W2 f2 (Or.inr (slot_ne (t := .boolean) (t' := (.object "com/example/drongo/drongo/event/RotaryEvent$Knob")) (Or.inr (hw _ (List.mem_of_getElem? (i := 24) rfl))) (Or.inr (hw _ (List.mem_of_getElem? (i := 22) rfl))) (by decide) (by decide) (by decide)))
  have fx4 : Fld Z h2 p0 "com/example/drongo/drongo/event/RotaryEvent" "display" "Lcom/example/drongo/drongo/event/Display;" .null := Fld.other W2 f3 (Or.inr (slot_ne (t := (.object "com/example/drongo/drongo/event/Display")) (t' := (.object "com/example/drongo/drongo/event/RotaryEvent$Knob")) (Or.inr (hw _ (List.mem_of_getElem? (i := 26) rfl))) (Or.inr (hw _ (List.mem_of_getElem? (i := 22) rfl))) (by decide) (by decide) (by decide)))
  have fx5 : Fld Z h2 p0 "com/example/drongo/drongo/event/RotaryEvent" "timesMillis" "[J" .null := Fld.other W2 f4 (Or.inr (slot_ne (t := (.array .long)) (t' := (.object "com/example/drongo/drongo/event/RotaryEvent$Knob")) (Or.inr (hw _ (List.mem_of_getElem? (i := 37) rfl))) (Or.inr (hw _ (List.mem_of_getElem? (i := 22) rfl))) (by decide) (by decide) (by decide)))
  have fx6 : Exa Z h2 p0 "com/example/drongo/drongo/event/RotaryEvent" := Exa.wr W2 E0
  have fx7 : Ar Z h2 p4 .long vs := Ar.other A0 W2 nab
  have fx8 : Exa Z h2 p4 "[J" := Exa.wr W2 EA
  have fx9 : Fld Z h2 p0 "com/example/drongo/drongo/event/RotaryEvent" "knob" "Lcom/example/drongo/drongo/event/RotaryEvent$Knob;" (.ref p1) := Fld.same W2 f1
  have N10 := Fr.snoc X2 N0 ga
  have Z11 : n0 ≤ h2.size := by rw [W2.size]; exact Z0
  have K12 : Keep h0 h2 [p0] := Keep.wr K0 W2 (Or.inl (List.mem_of_getElem? (i := 0) rfl))
  show Goes p.tables e below (T2.setTop (mkF m 9 #[.val (.ref p0), .val (.ref p1), .val (.int p2), .val (.ref p3), .val (.ref p4)] [])) _
  refine g_aloadN X2 hx (hb hby d2_9) rfl rfl ?_
  show Goes p.tables e below (T2.setTop (mkF m 10 #[.val (.ref p0), .val (.ref p1), .val (.int p2), .val (.ref p3), .val (.ref p4)] [(.ref p0)])) _
  refine g_iloadN X2 hx (hb hby d2_10) rfl ?_
  show Goes p.tables e below (T2.setTop (mkF m 11 #[.val (.ref p0), .val (.ref p1), .val (.int p2), .val (.ref p3), .val (.ref p4)] [(.int p2), (.ref p0)])) _
  refine g_putF X2 hx hZ hown e2 (hw _ (List.mem_of_getElem? (i := 23) rfl)) Via.refl (v' := (.int (p2 &&& 1))) fx3 fx6 (Or.inr ⟨(hw _ (List.mem_of_getElem? (i := 24) rfl)), rfl, hnm⟩) (hw _ (List.mem_of_getElem? (i := 13) rfl)) (ty := .boolean) (by decide) rfl (fits_nar_bool p2) (hb hby d2_11) (fun T13 h13 X13 e13 W13 => ?_)
  have fx14 : Fld Z h13 p0 "com/example/drongo/drongo/event/RotaryEvent" "display" "Lcom/example/drongo/drongo/event/Display;" .null := Fld.other W13 fx4 (Or.inr (slot_ne (t := (.object "com/example/drongo/drongo/event/Display")) (t' := .boolean) (Or.inr (hw _ (List.mem_of_getElem? (i := 26) rfl))) (Or.inr (hw _ (List.mem_of_getElem? (i := 24) rfl))) (by decide) (by decide) (by decide)))
  have fx15 : Fld Z h13 p0 "com/example/drongo/drongo/event/RotaryEvent" "timesMillis" "[J" .null := Fld.other W13 fx5 (Or.inr (slot_ne (t := (.array .long)) (t' := .boolean) (Or.inr (hw _ (List.mem_of_getElem? (i := 37) rfl))) (Or.inr (hw _ (List.mem_of_getElem? (i := 24) rfl))) (by decide) (by decide) (by decide)))
  have fx16 : Exa Z h13 p0 "com/example/drongo/drongo/event/RotaryEvent" := Exa.wr W13 fx6
  have fx17 : Ar Z h13 p4 .long vs := Ar.other fx7 W13 nab
  have fx18 : Exa Z h13 p4 "[J" := Exa.wr W13 fx8
  have fx19 : Fld Z h13 p0 "com/example/drongo/drongo/event/RotaryEvent" "knob" "Lcom/example/drongo/drongo/event/RotaryEvent$Knob;" (.ref p1) := Fld.other W13 fx9 (Or.inr (slot_ne (t := (.object "com/example/drongo/drongo/event/RotaryEvent$Knob")) (t' := .boolean) (Or.inr (hw _ (List.mem_of_getElem? (i := 22) rfl))) (Or.inr (hw _ (List.mem_of_getElem? (i := 24) rfl))) (by decide) (by decide) (by decide)))
  have fx20 : Fld Z h13 p0 "com/example/drongo/drongo/event/RotaryEvent" "clockwise" "Z" (.int (p2 &&& 1)) := Fld.same W13 fx3
  have N21 := Fr.snoc X13 N10 ga
  have Z22 : n0 ≤ h13.size := by rw [W13.size]; exact Z11
  have K23 : Keep h0 h13 [p0] := Keep.wr K12 W13 (Or.inl (List.mem_of_getElem? (i := 0) rfl))
  show Goes p.tables e below (T13.setTop (mkF m 14 #[.val (.ref p0), .val (.ref p1), .val (.int p2), .val (.ref p3), .val (.ref p4)] [])) _
  refine g_aloadN X13 hx (hb hby d2_14) rfl rfl ?_
  show Goes p.tables e below (T13.setTop (mkF m 15 #[.val (.ref p0), .val (.ref p1), .val (.int p2), .val (.ref p3), .val (.ref p4)] [(.ref p0)])) _
  refine g_aloadN X13 hx (hb hby d2_15) rfl rfl ?_
  show Goes p.tables e below (T13.setTop (mkF m 16 #[.val (.ref p0), .val (.ref p1), .val (.int p2), .val (.ref p3), .val (.ref p4)] [(.ref p3), (.ref p0)])) _
  refine g_putF X13 hx hZ hown e13 (hw _ (List.mem_of_getElem? (i := 25) rfl)) Via.refl (v' := (.ref p3)) fx14 fx16 (Or.inr ⟨(hw _ (List.mem_of_getElem? (i := 26) rfl)), rfl, hnm⟩) (hw _ (List.mem_of_getElem? (i := 13) rfl)) (ty := (.object "com/example/drongo/drongo/event/Display")) (by decide) rfl rfl (hb hby d2_16) (fun T24 h24 X24 e24 W24 => ?_)
  have fx25 : Fld Z h24 p0 "com/example/drongo/drongo/event/RotaryEvent" "timesMillis" "[J" .null := Fld.other W24 fx15 (Or.inr (slot_ne (t := (.array .long)) (t' := (.object "com/example/drongo/drongo/event/Display")) (Or.inr (hw _ (List.mem_of_getElem? (i := 37) rfl))) (Or.inr (hw _ (List.mem_of_getElem? (i := 26) rfl))) (by decide) (by decide) (by decide)))
  have fx26 : Exa Z h24 p0 "com/example/drongo/drongo/event/RotaryEvent" := Exa.wr W24 fx16
  have fx27 : Ar Z h24 p4 .long vs := Ar.other fx17 W24 nab
  have fx28 : Exa Z h24 p4 "[J" := Exa.wr W24 fx18
  have fx29 : Fld Z h24 p0 "com/example/drongo/drongo/event/RotaryEvent" "knob" "Lcom/example/drongo/drongo/event/RotaryEvent$Knob;" (.ref p1) := Fld.other W24 fx19 (Or.inr (slot_ne (t := (.object "com/example/drongo/drongo/event/RotaryEvent$Knob")) (t' := (.object "com/example/drongo/drongo/event/Display")) (Or.inr (hw _ (List.mem_of_getElem? (i := 22) rfl))) (Or.inr (hw _ (List.mem_of_getElem? (i := 26) rfl))) (by decide) (by decide) (by decide)))
  have fx30 : Fld Z h24 p0 "com/example/drongo/drongo/event/RotaryEvent" "clockwise" "Z" (.int (p2 &&& 1)) := Fld.other W24 fx20 (Or.inr (slot_ne (t := .boolean) (t' := (.object "com/example/drongo/drongo/event/Display")) (Or.inr (hw _ (List.mem_of_getElem? (i := 24) rfl))) (Or.inr (hw _ (List.mem_of_getElem? (i := 26) rfl))) (by decide) (by decide) (by decide)))
  have fx31 : Fld Z h24 p0 "com/example/drongo/drongo/event/RotaryEvent" "display" "Lcom/example/drongo/drongo/event/Display;" (.ref p3) := Fld.same W24 fx14
  have N32 := Fr.snoc X24 N21 ga
  have Z33 : n0 ≤ h24.size := by rw [W24.size]; exact Z22
  have K34 : Keep h0 h24 [p0] := Keep.wr K23 W24 (Or.inl (List.mem_of_getElem? (i := 0) rfl))
  show Goes p.tables e below (T24.setTop (mkF m 19 #[.val (.ref p0), .val (.ref p1), .val (.int p2), .val (.ref p3), .val (.ref p4)] [])) _
  refine g_aloadN X24 hx (hb hby d2_19) rfl rfl ?_
  show Goes p.tables e below (T24.setTop (mkF m 20 #[.val (.ref p0), .val (.ref p1), .val (.int p2), .val (.ref p3), .val (.ref p4)] [(.ref p0)])) _
  refine g_aload X24 hx (hb hby d2_20) rfl rfl ?_
  show Goes p.tables e below (T24.setTop (mkF m 22 #[.val (.ref p0), .val (.ref p1), .val (.int p2), .val (.ref p3), .val (.ref p4)] [(.ref p4), (.ref p0)])) _
  refine g_clone X24 hx hZ hown (by rw [hml]; rfl) e24 (hw _ (List.mem_of_getElem? (i := 27) rfl)) (hw _ (List.mem_of_getElem? (i := 28) rfl)) (hw _ (List.mem_of_getElem? (i := 32) rfl)) (hw _ (List.mem_of_getElem? (i := 30) rfl)) (hw _ (List.mem_of_getElem? (i := 31) rfl)) (hw _ (List.mem_of_getElem? (i := 33) rfl)) fx27 fx28 (hb hby d2_22) 1 3 (by first | decide | exact Nat.le_refl _) (by first | decide | exact Nat.le_refl _) (by first | decide | exact Nat.le_refl _) hvs (by decide) (by decide) (fun T35 h35 a35 ga35 X35 e35 Ex35 Aa35 Ea35 => ?_)
  have ne36 : p0 ≠ a35 := Nat.ne_of_lt (by rw [ga35]; exact fx25.lt)
  have ne37 : p4 ≠ a35 := Nat.ne_of_lt (by rw [ga35]; exact fx27.lt)
  have ge38 : n0 ≤ a35 := by rw [ga35]; exact Z33
  have ge39 : h0.size ≤ a35 := by rw [ga35]; exact K34.1
  have fx40 : Fld Z h35 p0 "com/example/drongo/drongo/event/RotaryEvent" "timesMillis" "[J" .null := Fld.ext Ex35 fx25
  have fx41 : Exa Z h35 p0 "com/example/drongo/drongo/event/RotaryEvent" := Exa.ext Ex35 fx26
  have fx42 : Ar Z h35 p4 .long vs := Ar.ext fx27 Ex35
  have fx43 : Exa Z h35 p4 "[J" := Exa.ext Ex35 fx28
  have fx44 : Fld Z h35 p0 "com/example/drongo/drongo/event/RotaryEvent" "knob" "Lcom/example/drongo/drongo/event/RotaryEvent$Knob;" (.ref p1) := Fld.ext Ex35 fx29
  have fx45 : Fld Z h35 p0 "com/example/drongo/drongo/event/RotaryEvent" "clockwise" "Z" (.int (p2 &&& 1)) := Fld.ext Ex35 fx30
  have fx46 : Fld Z h35 p0 "com/example/drongo/drongo/event/RotaryEvent" "display" "Lcom/example/drongo/drongo/event/Display;" (.ref p3) := Fld.ext Ex35 fx31
  have Z47 : n0 ≤ h35.size := Nat.le_trans Z33 Ex35.1
  have K48 : Keep h0 h35 [p0] := Keep.ext K34 Ex35
  show Goes p.tables e below (T35.setTop (mkF m 25 #[.val (.ref p0), .val (.ref p1), .val (.int p2), .val (.ref p3), .val (.ref p4)] [(.ref a35), (.ref p0)])) _
  refine g_cast X35 hx hZ hown e35 (hw _ (List.mem_of_getElem? (i := 34) rfl)) (Ins.self Ea35) (hb hby d2_25) (fun T49 X49 e49 => ?_)
  show Goes p.tables e below (T49.setTop (mkF m 28 #[.val (.ref p0), .val (.ref p1), .val (.int p2), .val (.ref p3), .val (.ref p4)] [(.ref a35), (.ref p0)])) _
  refine g_putF X49 hx hZ hown e49 (hw _ (List.mem_of_getElem? (i := 36) rfl)) Via.refl (v' := (.ref a35)) fx40 fx41 (Or.inr ⟨(hw _ (List.mem_of_getElem? (i := 37) rfl)), rfl, hnm⟩) (hw _ (List.mem_of_getElem? (i := 13) rfl)) (ty := (.array .long)) (by decide) rfl rfl (hb hby d2_28) (fun T50 h50 X50 e50 W50 => ?_)
  have fx51 : Exa Z h50 p0 "com/example/drongo/drongo/event/RotaryEvent" := Exa.wr W50 fx41
  have fx52 : Ar Z h50 p4 .long vs := Ar.other fx42 W50 nab
  have fx53 : Exa Z h50 p4 "[J" := Exa.wr W50 fx43
  have fx54 : Fld Z h50 p0 "com/example/drongo/drongo/event/RotaryEvent" "knob" "Lcom/example/drongo/drongo/event/RotaryEvent$Knob;" (.ref p1) := Fld.other W50 fx44 (Or.inr (slot_ne (t := (.object "com/example/drongo/drongo/event/RotaryEvent$Knob")) (t' := (.array .long)) (Or.inr (hw _ (List.mem_of_getElem? (i := 22) rfl))) (Or.inr (hw _ (List.mem_of_getElem? (i := 37) rfl))) (by decide) (by decide) (by decide)))
  have fx55 : Fld Z h50 p0 "com/example/drongo/drongo/event/RotaryEvent" "clockwise" "Z" (.int (p2 &&& 1)) := Fld.other W50 fx45 (Or.inr (slot_ne (t := .boolean) (t' := (.array .long)) (Or.inr (hw _ (List.mem_of_getElem? (i := 24) rfl))) (Or.inr (hw _ (List.mem_of_getElem? (i := 37) rfl))) (by decide) (by decide) (by decide)))
  have fx56 : Fld Z h50 p0 "com/example/drongo/drongo/event/RotaryEvent" "display" "Lcom/example/drongo/drongo/event/Display;" (.ref p3) := Fld.other W50 fx46 (Or.inr (slot_ne (t := (.object "com/example/drongo/drongo/event/Display")) (t' := (.array .long)) (Or.inr (hw _ (List.mem_of_getElem? (i := 26) rfl))) (Or.inr (hw _ (List.mem_of_getElem? (i := 37) rfl))) (by decide) (by decide) (by decide)))
  have fx57 : Ar Z h50 a35 .long vs := Ar.other Aa35 W50 (Ne.symm ne36)
  have fx58 : Exa Z h50 a35 "[J" := Exa.wr W50 Ea35
  have fx59 : Fld Z h50 p0 "com/example/drongo/drongo/event/RotaryEvent" "timesMillis" "[J" (.ref a35) := Fld.same W50 fx40
  have N60 := Fr.snoc X50 N32 ga
  have Z61 : n0 ≤ h50.size := by rw [W50.size]; exact Z47
  have K62 : Keep h0 h50 [p0] := Keep.wr K48 W50 (Or.inl (List.mem_of_getElem? (i := 0) rfl))
  show Goes p.tables e below (T50.setTop (mkF m 31 #[.val (.ref p0), .val (.ref p1), .val (.int p2), .val (.ref p3), .val (.ref p4)] [])) _
  exact g_ret0 X50 hx hret hlk (hb hby d2_31) (by decide) (by decide) (by rw [e50]; exact ⟨rfl, N60, K62, a35, ge38, ge39, fx59, fx57⟩)
theorem d4_0 : decode prog_17_method_9_code 0 = .ok (.aload_n 0, 1) := by decide +kernel
theorem d4_1 : decode prog_17_method_9_code 1 = .ok (.getfield 27, 3) := by decide +kernel
theorem d4_4 : decode prog_17_method_9_code 4 = .ok (.aload_n 0, 1) := by decide +kernel
theorem d4_5 : decode prog_17_method_9_code 5 = .ok (.getfield 27, 3) := by decide +kernel
theorem d4_8 : decode prog_17_method_9_code 8 = .ok (.arraylength, 1) := by decide +kernel
theorem d4_9 : decode prog_17_method_9_code 9 = .ok (.iconst 1, 1) := by decide +kernel
theorem d4_10 : decode prog_17_method_9_code 10 = .ok (.isub, 1) := by decide +kernel
theorem d4_11 : decode prog_17_method_9_code 11 = .ok (.laload, 1) := by decide +kernel
theorem d4_12 : decode prog_17_method_9_code 12 = .ok (.lreturn, 1) := by decide +kernel
theorem pd_4 : parseMethodDescriptor "()J" = some ⟨[], some .long⟩ := by decide +kernel
theorem ef_4 (m : MethodId) (p0 : Addr) : entryFrame m #[(.ref p0)] 1 = mkF m 0 #[.val (.ref p0)] [] := by first | (simp [entryFrame, mkF, argsToLocals, Value.category]; done) | rfl
set_option maxRecDepth 65536 in
set_option maxHeartbeats 40000000 in
theorem rmL (l : Launch) (Z : State) (a0 : Array Value) (hw : ∀ d ∈ tables_1, d.before a0 Z = true) (p0 : Addr) (h0 : Heap) (b : Addr) (vs : List Value) (z : Int32) (i : Nat) (x : Int64) (hl : vs.length = i + 1) (hz : z.toInt = (i + 1 : Nat)) (hv : vs[i]? = some (.long x)) (f1 : Fld Z h0 p0 "com/example/drongo/drongo/event/RotaryEvent" "timesMillis" "[J" (.ref b)) (A0 : Ar Z h0 b .long vs) :
    Con l Z (⟨"com/example/drongo/drongo/event/RotaryEvent", "latestMillis", "()J"⟩ : MethodName) prog_17_method_9_code 1 (some .long) [] ({ frames := 0, cells := 0, slots := 0, locals := 0 } : Room) 0 0 #[(.ref p0)] h0 (fun v h L => v = some (.long x) ∧ h = h0 ∧ L = []) := by
  refine Con.body (plainFor_of_name (by first | (simp [plainName, overriddenIn]; done) | decide +kernel)) ?_
  intro p e s m below meth c T0 hx hby hml hown hnm hZ hret hlk X0 e0
  refine Goes.cast (ef_4 m p0) ?_
  show Goes p.tables e below (T0.setTop (mkF m 0 #[.val (.ref p0)] [])) _
  refine g_aloadN X0 hx (hb hby d4_0) rfl rfl ?_
  show Goes p.tables e below (T0.setTop (mkF m 1 #[.val (.ref p0)] [(.ref p0)])) _
  refine g_getF X0 hx hZ hown e0 (host := "") (Or.inl (hw _ (List.mem_of_getElem? (i := 36) rfl))) Via.refl f1 (hb hby d4_1) (fun T1 X1 e1 => ?_)
  show Goes p.tables e below (T1.setTop (mkF m 4 #[.val (.ref p0)] [(.ref b)])) _
  refine g_aloadN X1 hx (hb hby d4_4) rfl rfl ?_
  show Goes p.tables e below (T1.setTop (mkF m 5 #[.val (.ref p0)] [(.ref p0), (.ref b)])) _
  refine g_getF X1 hx hZ hown e1 (host := "") (Or.inl (hw _ (List.mem_of_getElem? (i := 36) rfl))) Via.refl f1 (hb hby d4_5) (fun T2 X2 e2 => ?_)
  show Goes p.tables e below (T2.setTop (mkF m 8 #[.val (.ref p0)] [(.ref b), (.ref b)])) _
  refine g_alen X2 hx hZ e2 A0 z (by rw [hl]; exact hz) (hb hby d4_8) ?_
  show Goes p.tables e below (T2.setTop (mkF m 9 #[.val (.ref p0)] [(.int z), (.ref b)])) _
  refine g_iconst X2 hx (1 : Int32) (hb hby d4_9) rfl ?_
  show Goes p.tables e below (T2.setTop (mkF m 10 #[.val (.ref p0)] [(.int (1 : Int32)), (.int z), (.ref b)])) _
  refine g_isub X2 hx (hb hby d4_10) ?_
  show Goes p.tables e below (T2.setTop (mkF m 11 #[.val (.ref p0)] [(.int (z - (1 : Int32))), (.ref b)])) _
  refine g_laload X2 hx hZ e2 A0 (i := i) (v := (.long x)) (own_m1 hz) hv (hb hby d4_11) ?_
  show Goes p.tables e below (T2.setTop (mkF m 12 #[.val (.ref p0)] [(.long x)])) _
  exact g_retL X2 hx hret hlk (hb hby d4_12) (by decide) (by decide) ⟨rfl, e2, rfl⟩
theorem ef_0 (m : MethodId) (p0 : Int64) (p1 : Int64) (p2 : Int64) (p3 : Int32) (p4 : Int32) : entryFrame m #[(.long p0), (.long p1), (.long p2), (.int p3), (.int p4)] maxLocals = mkF m 0 #[.val (.long p0), .second, .val (.long p1), .second, .val (.long p2), .second, .val (.int p3), .val (.int p4), .unset, .unset, .unset, .unset, .unset, .unset, .unset, .unset, .unset, .unset, .unset, .unset, .unset, .unset, .unset, .unset, .unset, .unset] [] := by first | (simp [entryFrame, mkF, argsToLocals, Value.category, maxLocals]; done) | rfl
set_option maxRecDepth 65536 in
set_option maxHeartbeats 40000000 in
theorem law (l : Launch) (Z : State) (a0 : Array Value) (hw : ∀ d ∈ tables_1, d.before a0 Z = true) (ws : List Jvm.Cond) (p0 : Int64) (p1 : Int64) (p2 : Int64) (p3 : Int32) (p4 : Int32) (h0 : Heap) (b0 : Addr) (Sb0 : Sta Z h0 "com/example/drongo/drongo/event/RotaryEvent$Knob" "NAVIGATION" "Lcom/example/drongo/drongo/event/RotaryEvent$Knob;" (.ref b0)) (Eb0 : Exa Z h0 b0 "com/example/drongo/drongo/event/RotaryEvent$Knob") (b1 : Addr) (Sb1 : Sta Z h0 "com/example/drongo/drongo/event/Display" "CLUSTER" "Lcom/example/drongo/drongo/event/Display;" (.ref b1)) (Eb1 : Exa Z h0 b1 "com/example/drongo/drongo/event/Display") (b2 : Addr) (Sb2 : Sta Z h0 "com/example/drongo/drongo/event/RotaryEvent$Knob" "VOLUME" "Lcom/example/drongo/drongo/event/RotaryEvent$Knob;" (.ref b2)) (Eb2 : Exa Z h0 b2 "com/example/drongo/drongo/event/RotaryEvent$Knob") (b3 : Addr) (Sb3 : Sta Z h0 "com/example/drongo/drongo/event/Display" "MAIN" "Lcom/example/drongo/drongo/event/Display;" (.ref b3)) (Eb3 : Exa Z h0 b3 "com/example/drongo/drongo/event/Display") :
    Con l Z x code maxLocals ret ws room_1 16 128 #[(.long p0), (.long p1), (.long p2), (.int p3), (.int p4)] h0 (fun v h L => v = some (.int 1) ∧ Fr h0.size L) := by
  refine Con.body (plainFor_of_name (by first | (simp [plainName, overriddenIn, x]; done) | decide +kernel)) ?_
  intro p e s m below meth c T0 hx hby hml hown hnm hZ hret hlk X0 e0
  refine Goes.cast (ef_0 m p0 p1 p2 p3 p4) ?_
  have N0 := Fr.nil h0.size
  have Z0 : h0.size ≤ h0.size := Nat.le_refl _
  show Goes p.tables e below (T0.setTop (mkF m 0 #[.val (.long p0), .second, .val (.long p1), .second, .val (.long p2), .second, .val (.int p3), .val (.int p4), .unset, .unset, .unset, .unset, .unset, .unset, .unset, .unset, .unset, .unset, .unset, .unset, .unset, .unset, .unset, .unset, .unset, .unset] [])) _
  refine g_iconst X0 hx (1 : Int32) (hb hby at_0) rfl ?_
  show Goes p.tables e below (T0.setTop (mkF m 1 #[.val (.long p0), .second, .val (.long p1), .second, .val (.long p2), .second, .val (.int p3), .val (.int p4), .unset, .unset, .unset, .unset, .unset, .unset, .unset, .unset, .unset, .unset, .unset, .unset, .unset, .unset, .unset, .unset, .unset, .unset] [(.int (1 : Int32))])) _
  refine g_iload X0 hx (hb hby at_1) rfl ?_
  show Goes p.tables e below (T0.setTop (mkF m 3 #[.val (.long p0), .second, .val (.long p1), .second, .val (.long p2), .second, .val (.int p3), .val (.int p4), .unset, .unset, .unset, .unset, .unset, .unset, .unset, .unset, .unset, .unset, .unset, .unset, .unset, .unset, .unset, .unset, .unset, .unset] [(.int p3), (.int (1 : Int32))])) _
  refine g_ldc X0 hx hZ hown (hw _ (List.mem_of_getElem? (i := 0) rfl)) (hb hby at_3) ?_
  show Goes p.tables e below (T0.setTop (mkF m 5 #[.val (.long p0), .second, .val (.long p1), .second, .val (.long p2), .second, .val (.int p3), .val (.int p4), .unset, .unset, .unset, .unset, .unset, .unset, .unset, .unset, .unset, .unset, .unset, .unset, .unset, .unset, .unset, .unset, .unset, .unset] [(.int (2147483647 : Int32)), (.int p3), (.int (1 : Int32))])) _
  refine g_iand X0 hx (hb hby at_5) ?_
  show Goes p.tables e below (T0.setTop (mkF m 6 #[.val (.long p0), .second, .val (.long p1), .second, .val (.long p2), .second, .val (.int p3), .val (.int p4), .unset, .unset, .unset, .unset, .unset, .unset, .unset, .unset, .unset, .unset, .unset, .unset, .unset, .unset, .unset, .unset, .unset, .unset] [(.int (p3 &&& (2147483647 : Int32))), (.int (1 : Int32))])) _
  refine g_iconst X0 hx (3 : Int32) (hb hby at_6) rfl ?_
  show Goes p.tables e below (T0.setTop (mkF m 7 #[.val (.long p0), .second, .val (.long p1), .second, .val (.long p2), .second, .val (.int p3), .val (.int p4), .unset, .unset, .unset, .unset, .unset, .unset, .unset, .unset, .unset, .unset, .unset, .unset, .unset, .unset, .unset, .unset, .unset, .unset] [(.int (3 : Int32)), (.int (p3 &&& (2147483647 : Int32))), (.int (1 : Int32))])) _
  refine g_irem X0 hx (hb hby at_7) (by decide) ?_
  show Goes p.tables e below (T0.setTop (mkF m 8 #[.val (.long p0), .second, .val (.long p1), .second, .val (.long p2), .second, .val (.int p3), .val (.int p4), .unset, .unset, .unset, .unset, .unset, .unset, .unset, .unset, .unset, .unset, .unset, .unset, .unset, .unset, .unset, .unset, .unset, .unset] [(.int ((p3 &&& (2147483647 : Int32)) % (3 : Int32))), (.int (1 : Int32))])) _
  refine g_iadd X0 hx (hb hby at_8) ?_
  show Goes p.tables e below (T0.setTop (mkF m 9 #[.val (.long p0), .second, .val (.long p1), .second, .val (.long p2), .second, .val (.int p3), .val (.int p4), .unset, .unset, .unset, .unset, .unset, .unset, .unset, .unset, .unset, .unset, .unset, .unset, .unset, .unset, .unset, .unset, .unset, .unset] [(.int ((1 : Int32) + ((p3 &&& (2147483647 : Int32)) % (3 : Int32))))])) _
  obtain ⟨vn, hvn⟩ : ∃ z : Int32, z = ((1 : Int32) + ((p3 &&& (2147483647 : Int32)) % (3 : Int32))) := ⟨_, rfl⟩
  refine g_nameI hvn ?_
  rcases own_n hvn with rfl | rfl | rfl
  · skip
    show Goes p.tables e below (T0.setTop (mkF m 9 #[.val (.long p0), .second, .val (.long p1), .second, .val (.long p2), .second, .val (.int p3), .val (.int p4), .unset, .unset, .unset, .unset, .unset, .unset, .unset, .unset, .unset, .unset, .unset, .unset, .unset, .unset, .unset, .unset, .unset, .unset] [(.int (1 : Int32))])) _
    refine g_istore X0 hx (hb hby at_9) (l' := #[.val (.long p0), .second, .val (.long p1), .second, .val (.long p2), .second, .val (.int p3), .val (.int p4), .val (.int (1 : Int32)), .unset, .unset, .unset, .unset, .unset, .unset, .unset, .unset, .unset, .unset, .unset, .unset, .unset, .unset, .unset, .unset, .unset]) rfl ?_
    show Goes p.tables e below (T0.setTop (mkF m 11 #[.val (.long p0), .second, .val (.long p1), .second, .val (.long p2), .second, .val (.int p3), .val (.int p4), .val (.int (1 : Int32)), .unset, .unset, .unset, .unset, .unset, .unset, .unset, .unset, .unset, .unset, .unset, .unset, .unset, .unset, .unset, .unset, .unset] [])) _
    refine g_lloadN X0 hx (hb hby at_11) rfl ?_
    show Goes p.tables e below (T0.setTop (mkF m 12 #[.val (.long p0), .second, .val (.long p1), .second, .val (.long p2), .second, .val (.int p3), .val (.int p4), .val (.int (1 : Int32)), .unset, .unset, .unset, .unset, .unset, .unset, .unset, .unset, .unset, .unset, .unset, .unset, .unset, .unset, .unset, .unset, .unset] [(.long p0)])) _
    refine g_lstore X0 hx (hb hby at_12) (l' := #[.val (.long p0), .second, .val (.long p1), .second, .val (.long p2), .second, .val (.int p3), .val (.int p4), .val (.int (1 : Int32)), .val (.long p0), .second, .unset, .unset, .unset, .unset, .unset, .unset, .unset, .unset, .unset, .unset, .unset, .unset, .unset, .unset, .unset]) rfl ?_
    show Goes p.tables e below (T0.setTop (mkF m 14 #[.val (.long p0), .second, .val (.long p1), .second, .val (.long p2), .second, .val (.int p3), .val (.int p4), .val (.int (1 : Int32)), .val (.long p0), .second, .unset, .unset, .unset, .unset, .unset, .unset, .unset, .unset, .unset, .unset, .unset, .unset, .unset, .unset, .unset] [])) _
    refine g_lload X0 hx (hb hby at_14) rfl ?_
    show Goes p.tables e below (T0.setTop (mkF m 16 #[.val (.long p0), .second, .val (.long p1), .second, .val (.long p2), .second, .val (.int p3), .val (.int p4), .val (.int (1 : Int32)), .val (.long p0), .second, .unset, .unset, .unset, .unset, .unset, .unset, .unset, .unset, .unset, .unset, .unset, .unset, .unset, .unset, .unset] [(.long p0)])) _
    refine g_lloadN X0 hx (hb hby at_16) rfl ?_
    show Goes p.tables e below (T0.setTop (mkF m 17 #[.val (.long p0), .second, .val (.long p1), .second, .val (.long p2), .second, .val (.int p3), .val (.int p4), .val (.int (1 : Int32)), .val (.long p0), .second, .unset, .unset, .unset, .unset, .unset, .unset, .unset, .unset, .unset, .unset, .unset, .unset, .unset, .unset, .unset] [(.long p1), (.long p0)])) _
    refine g_callS X0 hx hZ hown (by rw [hml]; rfl) e0 (hw _ (List.mem_of_getElem? (i := 1) rfl)) (hw _ (List.mem_of_getElem? (i := 2) rfl)) (hw _ (List.mem_of_getElem? (i := 3) rfl)) (hw _ (List.mem_of_getElem? (i := 4) rfl)) (rmX l Z a0 hw p0 p1 h0) [(.long p0), (.long p1)] rfl [] rfl (lenOf pd_1 rfl) (hb hby at_17) (by decide) 0 (by decide) (by decide) (by first | decide | exact Nat.le_refl _) (by decide) (by decide) (fun v T1 L1 X1 hQ1 => ?_)
    obtain ⟨rfl, e1, rfl⟩ := hQ1
    have N2 := Fr.app N0 (Fr.nil h0.size)
    show Goes p.tables e below (T1.setTop (mkF m 20 #[.val (.long p0), .second, .val (.long p1), .second, .val (.long p2), .second, .val (.int p3), .val (.int p4), .val (.int (1 : Int32)), .val (.long p0), .second, .unset, .unset, .unset, .unset, .unset, .unset, .unset, .unset, .unset, .unset, .unset, .unset, .unset, .unset, .unset] [(.long (maxV p0 p1))])) _
    obtain ⟨t1, ht1⟩ : ∃ z : Int64, z = (maxV p0 p1) := ⟨_, rfl⟩
    refine g_nameL ht1 ?_
    show Goes p.tables e below (T1.setTop (mkF m 20 #[.val (.long p0), .second, .val (.long p1), .second, .val (.long p2), .second, .val (.int p3), .val (.int p4), .val (.int (1 : Int32)), .val (.long p0), .second, .unset, .unset, .unset, .unset, .unset, .unset, .unset, .unset, .unset, .unset, .unset, .unset, .unset, .unset, .unset] [(.long t1)])) _
    refine g_lstore X1 hx (hb hby at_20) (l' := #[.val (.long p0), .second, .val (.long p1), .second, .val (.long p2), .second, .val (.int p3), .val (.int p4), .val (.int (1 : Int32)), .val (.long p0), .second, .val (.long t1), .second, .unset, .unset, .unset, .unset, .unset, .unset, .unset, .unset, .unset, .unset, .unset, .unset, .unset]) rfl ?_
    show Goes p.tables e below (T1.setTop (mkF m 22 #[.val (.long p0), .second, .val (.long p1), .second, .val (.long p2), .second, .val (.int p3), .val (.int p4), .val (.int (1 : Int32)), .val (.long p0), .second, .val (.long t1), .second, .unset, .unset, .unset, .unset, .unset, .unset, .unset, .unset, .unset, .unset, .unset, .unset, .unset] [])) _
    refine g_lload X1 hx (hb hby at_22) rfl ?_
    show Goes p.tables e below (T1.setTop (mkF m 24 #[.val (.long p0), .second, .val (.long p1), .second, .val (.long p2), .second, .val (.int p3), .val (.int p4), .val (.int (1 : Int32)), .val (.long p0), .second, .val (.long t1), .second, .unset, .unset, .unset, .unset, .unset, .unset, .unset, .unset, .unset, .unset, .unset, .unset, .unset] [(.long t1)])) _
    refine g_lload X1 hx (hb hby at_24) rfl ?_
    show Goes p.tables e below (T1.setTop (mkF m 26 #[.val (.long p0), .second, .val (.long p1), .second, .val (.long p2), .second, .val (.int p3), .val (.int p4), .val (.int (1 : Int32)), .val (.long p0), .second, .val (.long t1), .second, .unset, .unset, .unset, .unset, .unset, .unset, .unset, .unset, .unset, .unset, .unset, .unset, .unset] [(.long p2), (.long t1)])) _
    refine g_callS X1 hx hZ hown (by rw [hml]; rfl) e1 (hw _ (List.mem_of_getElem? (i := 1) rfl)) (hw _ (List.mem_of_getElem? (i := 2) rfl)) (hw _ (List.mem_of_getElem? (i := 3) rfl)) (hw _ (List.mem_of_getElem? (i := 4) rfl)) (rmX l Z a0 hw t1 p2 h0) [(.long t1), (.long p2)] rfl [] rfl (lenOf pd_1 rfl) (hb hby at_26) (by decide) 0 (by decide) (by decide) (by first | decide | exact Nat.le_refl _) (by decide) (by decide) (fun v T3 L3 X3 hQ3 => ?_)
    obtain ⟨rfl, e3, rfl⟩ := hQ3
    have N4 := Fr.app N2 (Fr.nil h0.size)
    show Goes p.tables e below (T3.setTop (mkF m 29 #[.val (.long p0), .second, .val (.long p1), .second, .val (.long p2), .second, .val (.int p3), .val (.int p4), .val (.int (1 : Int32)), .val (.long p0), .second, .val (.long t1), .second, .unset, .unset, .unset, .unset, .unset, .unset, .unset, .unset, .unset, .unset, .unset, .unset, .unset] [(.long (maxV t1 p2))])) _
    obtain ⟨t2, ht2⟩ : ∃ z : Int64, z = (maxV t1 p2) := ⟨_, rfl⟩
    refine g_nameL ht2 ?_
    show Goes p.tables e below (T3.setTop (mkF m 29 #[.val (.long p0), .second, .val (.long p1), .second, .val (.long p2), .second, .val (.int p3), .val (.int p4), .val (.int (1 : Int32)), .val (.long p0), .second, .val (.long t1), .second, .unset, .unset, .unset, .unset, .unset, .unset, .unset, .unset, .unset, .unset, .unset, .unset, .unset] [(.long t2)])) _
    refine g_lstore X3 hx (hb hby at_29) (l' := #[.val (.long p0), .second, .val (.long p1), .second, .val (.long p2), .second, .val (.int p3), .val (.int p4), .val (.int (1 : Int32)), .val (.long p0), .second, .val (.long t1), .second, .val (.long t2), .second, .unset, .unset, .unset, .unset, .unset, .unset, .unset, .unset, .unset, .unset, .unset]) rfl ?_
    show Goes p.tables e below (T3.setTop (mkF m 31 #[.val (.long p0), .second, .val (.long p1), .second, .val (.long p2), .second, .val (.int p3), .val (.int p4), .val (.int (1 : Int32)), .val (.long p0), .second, .val (.long t1), .second, .val (.long t2), .second, .unset, .unset, .unset, .unset, .unset, .unset, .unset, .unset, .unset, .unset, .unset] [])) _
    refine g_iload X3 hx (hb hby at_31) rfl ?_
    show Goes p.tables e below (T3.setTop (mkF m 33 #[.val (.long p0), .second, .val (.long p1), .second, .val (.long p2), .second, .val (.int p3), .val (.int p4), .val (.int (1 : Int32)), .val (.long p0), .second, .val (.long t1), .second, .val (.long t2), .second, .unset, .unset, .unset, .unset, .unset, .unset, .unset, .unset, .unset, .unset, .unset] [(.int (1 : Int32))])) _
    refine g_newarr X3 hx hZ e3 (hw _ (List.mem_of_getElem? (i := 5) rfl)) (hb hby at_33) (n := 1) (by decide) 1 (by omega) (by decide) (by decide) (by decide) (ad := "[J") (by decide) rfl (fun T5 h5 a5 ga5 X5 e5 Ex5 Aa5 Ea5 => ?_)
    have ne6 : b0 ≠ a5 := Nat.ne_of_lt (by rw [ga5]; exact Eb0.lt)
    have ne7 : b1 ≠ a5 := Nat.ne_of_lt (by rw [ga5]; exact Eb1.lt)
    have ne8 : b2 ≠ a5 := Nat.ne_of_lt (by rw [ga5]; exact Eb2.lt)
    have ne9 : b3 ≠ a5 := Nat.ne_of_lt (by rw [ga5]; exact Eb3.lt)
    have ge10 : h0.size ≤ a5 := by rw [ga5]; exact Z0
    have fx11 : Sta Z h5 "com/example/drongo/drongo/event/RotaryEvent$Knob" "NAVIGATION" "Lcom/example/drongo/drongo/event/RotaryEvent$Knob;" (.ref b0) := Sta.ext Ex5 Sb0
    have fx12 : Exa Z h5 b0 "com/example/drongo/drongo/event/RotaryEvent$Knob" := Exa.ext Ex5 Eb0
    have fx13 : Sta Z h5 "com/example/drongo/drongo/event/Display" "CLUSTER" "Lcom/example/drongo/drongo/event/Display;" (.ref b1) := Sta.ext Ex5 Sb1
    have fx14 : Exa Z h5 b1 "com/example/drongo/drongo/event/Display" := Exa.ext Ex5 Eb1
    have fx15 : Sta Z h5 "com/example/drongo/drongo/event/RotaryEvent$Knob" "VOLUME" "Lcom/example/drongo/drongo/event/RotaryEvent$Knob;" (.ref b2) := Sta.ext Ex5 Sb2
    have fx16 : Exa Z h5 b2 "com/example/drongo/drongo/event/RotaryEvent$Knob" := Exa.ext Ex5 Eb2
    have fx17 : Sta Z h5 "com/example/drongo/drongo/event/Display" "MAIN" "Lcom/example/drongo/drongo/event/Display;" (.ref b3) := Sta.ext Ex5 Sb3
    have fx18 : Exa Z h5 b3 "com/example/drongo/drongo/event/Display" := Exa.ext Ex5 Eb3
    have Z19 : h0.size ≤ h5.size := Nat.le_trans Z0 Ex5.1
    have fx20 : Ar Z h5 a5 .long [(.long (0 : Int64))] := Aa5
    show Goes p.tables e below (T5.setTop (mkF m 35 #[.val (.long p0), .second, .val (.long p1), .second, .val (.long p2), .second, .val (.int p3), .val (.int p4), .val (.int (1 : Int32)), .val (.long p0), .second, .val (.long t1), .second, .val (.long t2), .second, .unset, .unset, .unset, .unset, .unset, .unset, .unset, .unset, .unset, .unset, .unset] [(.ref a5)])) _
    refine g_astore X5 hx (hb hby at_35) rfl (l' := #[.val (.long p0), .second, .val (.long p1), .second, .val (.long p2), .second, .val (.int p3), .val (.int p4), .val (.int (1 : Int32)), .val (.long p0), .second, .val (.long t1), .second, .val (.long t2), .second, .val (.ref a5), .unset, .unset, .unset, .unset, .unset, .unset, .unset, .unset, .unset, .unset]) rfl ?_
    show Goes p.tables e below (T5.setTop (mkF m 37 #[.val (.long p0), .second, .val (.long p1), .second, .val (.long p2), .second, .val (.int p3), .val (.int p4), .val (.int (1 : Int32)), .val (.long p0), .second, .val (.long t1), .second, .val (.long t2), .second, .val (.ref a5), .unset, .unset, .unset, .unset, .unset, .unset, .unset, .unset, .unset, .unset] [])) _
    refine g_aload X5 hx (hb hby at_37) rfl rfl ?_
    show Goes p.tables e below (T5.setTop (mkF m 39 #[.val (.long p0), .second, .val (.long p1), .second, .val (.long p2), .second, .val (.int p3), .val (.int p4), .val (.int (1 : Int32)), .val (.long p0), .second, .val (.long t1), .second, .val (.long t2), .second, .val (.ref a5), .unset, .unset, .unset, .unset, .unset, .unset, .unset, .unset, .unset, .unset] [(.ref a5)])) _
    refine g_iconst X5 hx (0 : Int32) (hb hby at_39) rfl ?_
    show Goes p.tables e below (T5.setTop (mkF m 40 #[.val (.long p0), .second, .val (.long p1), .second, .val (.long p2), .second, .val (.int p3), .val (.int p4), .val (.int (1 : Int32)), .val (.long p0), .second, .val (.long t1), .second, .val (.long t2), .second, .val (.ref a5), .unset, .unset, .unset, .unset, .unset, .unset, .unset, .unset, .unset, .unset] [(.int (0 : Int32)), (.ref a5)])) _
    refine g_lload X5 hx (hb hby at_40) rfl ?_
    show Goes p.tables e below (T5.setTop (mkF m 42 #[.val (.long p0), .second, .val (.long p1), .second, .val (.long p2), .second, .val (.int p3), .val (.int p4), .val (.int (1 : Int32)), .val (.long p0), .second, .val (.long t1), .second, .val (.long t2), .second, .val (.ref a5), .unset, .unset, .unset, .unset, .unset, .unset, .unset, .unset, .unset, .unset] [(.long p0), (.int (0 : Int32)), (.ref a5)])) _
    refine g_lastore X5 hx hZ e5 fx20 0 (by decide) (by show 0 < 1; decide) (hb hby at_42) (fun T21 h21 X21 e21 W21 A21 => ?_)
    have fx22 : Sta Z h21 "com/example/drongo/drongo/event/RotaryEvent$Knob" "NAVIGATION" "Lcom/example/drongo/drongo/event/RotaryEvent$Knob;" (.ref b0) := Sta.wr W21 fx11
    have fx23 : Exa Z h21 b0 "com/example/drongo/drongo/event/RotaryEvent$Knob" := Exa.wr W21 fx12
    have fx24 : Sta Z h21 "com/example/drongo/drongo/event/Display" "CLUSTER" "Lcom/example/drongo/drongo/event/Display;" (.ref b1) := Sta.wr W21 fx13
    have fx25 : Exa Z h21 b1 "com/example/drongo/drongo/event/Display" := Exa.wr W21 fx14
    have fx26 : Sta Z h21 "com/example/drongo/drongo/event/RotaryEvent$Knob" "VOLUME" "Lcom/example/drongo/drongo/event/RotaryEvent$Knob;" (.ref b2) := Sta.wr W21 fx15
    have fx27 : Exa Z h21 b2 "com/example/drongo/drongo/event/RotaryEvent$Knob" := Exa.wr W21 fx16
    have fx28 : Sta Z h21 "com/example/drongo/drongo/event/Display" "MAIN" "Lcom/example/drongo/drongo/event/Display;" (.ref b3) := Sta.wr W21 fx17
    have fx29 : Exa Z h21 b3 "com/example/drongo/drongo/event/Display" := Exa.wr W21 fx18
    have fx30 : Exa Z h21 a5 "[J" := Exa.wr W21 Ea5
    have fx31 : Ar Z h21 a5 .long [(.long p0)] := A21
    have N32 := Fr.snoc X21 N4 ge10
    have Z33 : h0.size ≤ h21.size := by rw [W21.size]; exact Z19
    show Goes p.tables e below (T21.setTop (mkF m 43 #[.val (.long p0), .second, .val (.long p1), .second, .val (.long p2), .second, .val (.int p3), .val (.int p4), .val (.int (1 : Int32)), .val (.long p0), .second, .val (.long t1), .second, .val (.long t2), .second, .val (.ref a5), .unset, .unset, .unset, .unset, .unset, .unset, .unset, .unset, .unset, .unset] [])) _
    refine g_iload X21 hx (hb hby at_43) rfl ?_
    show Goes p.tables e below (T21.setTop (mkF m 45 #[.val (.long p0), .second, .val (.long p1), .second, .val (.long p2), .second, .val (.int p3), .val (.int p4), .val (.int (1 : Int32)), .val (.long p0), .second, .val (.long t1), .second, .val (.long t2), .second, .val (.ref a5), .unset, .unset, .unset, .unset, .unset, .unset, .unset, .unset, .unset, .unset] [(.int (1 : Int32))])) _
    refine g_iconst X21 hx (1 : Int32) (hb hby at_45) rfl ?_
    show Goes p.tables e below (T21.setTop (mkF m 46 #[.val (.long p0), .second, .val (.long p1), .second, .val (.long p2), .second, .val (.int p3), .val (.int p4), .val (.int (1 : Int32)), .val (.long p0), .second, .val (.long t1), .second, .val (.long t2), .second, .val (.ref a5), .unset, .unset, .unset, .unset, .unset, .unset, .unset, .unset, .unset, .unset] [(.int (1 : Int32)), (.int (1 : Int32))])) _
    refine g_icmp_le X21 hx (hb hby at_46) (by decide) (pc' := 55) (by decide) (fun _ => ?_) (fun q => absurd q (by decide))
    show Goes p.tables e below (T21.setTop (mkF m 55 #[.val (.long p0), .second, .val (.long p1), .second, .val (.long p2), .second, .val (.int p3), .val (.int p4), .val (.int (1 : Int32)), .val (.long p0), .second, .val (.long t1), .second, .val (.long t2), .second, .val (.ref a5), .unset, .unset, .unset, .unset, .unset, .unset, .unset, .unset, .unset, .unset] [])) _
    refine g_iload X21 hx (hb hby at_55) rfl ?_
    show Goes p.tables e below (T21.setTop (mkF m 57 #[.val (.long p0), .second, .val (.long p1), .second, .val (.long p2), .second, .val (.int p3), .val (.int p4), .val (.int (1 : Int32)), .val (.long p0), .second, .val (.long t1), .second, .val (.long t2), .second, .val (.ref a5), .unset, .unset, .unset, .unset, .unset, .unset, .unset, .unset, .unset, .unset] [(.int (1 : Int32))])) _
    refine g_iconst X21 hx (2 : Int32) (hb hby at_57) rfl ?_
    show Goes p.tables e below (T21.setTop (mkF m 58 #[.val (.long p0), .second, .val (.long p1), .second, .val (.long p2), .second, .val (.int p3), .val (.int p4), .val (.int (1 : Int32)), .val (.long p0), .second, .val (.long t1), .second, .val (.long t2), .second, .val (.ref a5), .unset, .unset, .unset, .unset, .unset, .unset, .unset, .unset, .unset, .unset] [(.int (2 : Int32)), (.int (1 : Int32))])) _
    refine g_icmp_le X21 hx (hb hby at_58) (by decide) (pc' := 67) (by decide) (fun _ => ?_) (fun q => absurd q (by decide))
    show Goes p.tables e below (T21.setTop (mkF m 67 #[.val (.long p0), .second, .val (.long p1), .second, .val (.long p2), .second, .val (.int p3), .val (.int p4), .val (.int (1 : Int32)), .val (.long p0), .second, .val (.long t1), .second, .val (.long t2), .second, .val (.ref a5), .unset, .unset, .unset, .unset, .unset, .unset, .unset, .unset, .unset, .unset] [])) _
    refine g_iload X21 hx (hb hby at_67) rfl ?_
    show Goes p.tables e below (T21.setTop (mkF m 69 #[.val (.long p0), .second, .val (.long p1), .second, .val (.long p2), .second, .val (.int p3), .val (.int p4), .val (.int (1 : Int32)), .val (.long p0), .second, .val (.long t1), .second, .val (.long t2), .second, .val (.ref a5), .unset, .unset, .unset, .unset, .unset, .unset, .unset, .unset, .unset, .unset] [(.int p4)])) _
    refine g_iconst X21 hx (1 : Int32) (hb hby at_69) rfl ?_
    show Goes p.tables e below (T21.setTop (mkF m 70 #[.val (.long p0), .second, .val (.long p1), .second, .val (.long p2), .second, .val (.int p3), .val (.int p4), .val (.int (1 : Int32)), .val (.long p0), .second, .val (.long t1), .second, .val (.long t2), .second, .val (.ref a5), .unset, .unset, .unset, .unset, .unset, .unset, .unset, .unset, .unset, .unset] [(.int (1 : Int32)), (.int p4)])) _
    refine g_iand X21 hx (hb hby at_70) ?_
    show Goes p.tables e below (T21.setTop (mkF m 71 #[.val (.long p0), .second, .val (.long p1), .second, .val (.long p2), .second, .val (.int p3), .val (.int p4), .val (.int (1 : Int32)), .val (.long p0), .second, .val (.long t1), .second, .val (.long t2), .second, .val (.ref a5), .unset, .unset, .unset, .unset, .unset, .unset, .unset, .unset, .unset, .unset] [(.int (p4 &&& (1 : Int32)))])) _
    refine g_if_eq X21 hx (hb hby at_71) (by decide) (pc' := 80) (by decide) (fun c71 => ?_) (fun c71 => ?_)
    · skip
      show Goes p.tables e below (T21.setTop (mkF m 80 #[.val (.long p0), .second, .val (.long p1), .second, .val (.long p2), .second, .val (.int p3), .val (.int p4), .val (.int (1 : Int32)), .val (.long p0), .second, .val (.long t1), .second, .val (.long t2), .second, .val (.ref a5), .unset, .unset, .unset, .unset, .unset, .unset, .unset, .unset, .unset, .unset] [])) _
      refine g_getS X21 hx hZ hown e21 (host := "") (Or.inl (hw _ (List.mem_of_getElem? (i := 44) rfl))) fx26 (hb hby at_80) (fun T34 X34 e34 => ?_)
      show Goes p.tables e below (T34.setTop (mkF m 83 #[.val (.long p0), .second, .val (.long p1), .second, .val (.long p2), .second, .val (.int p3), .val (.int p4), .val (.int (1 : Int32)), .val (.long p0), .second, .val (.long t1), .second, .val (.long t2), .second, .val (.ref a5), .unset, .unset, .unset, .unset, .unset, .unset, .unset, .unset, .unset, .unset] [(.ref b2)])) _
      refine g_astore X34 hx (hb hby at_83) rfl (l' := #[.val (.long p0), .second, .val (.long p1), .second, .val (.long p2), .second, .val (.int p3), .val (.int p4), .val (.int (1 : Int32)), .val (.long p0), .second, .val (.long t1), .second, .val (.long t2), .second, .val (.ref a5), .val (.ref b2), .unset, .unset, .unset, .unset, .unset, .unset, .unset, .unset, .unset]) rfl ?_
      show Goes p.tables e below (T34.setTop (mkF m 85 #[.val (.long p0), .second, .val (.long p1), .second, .val (.long p2), .second, .val (.int p3), .val (.int p4), .val (.int (1 : Int32)), .val (.long p0), .second, .val (.long t1), .second, .val (.long t2), .second, .val (.ref a5), .val (.ref b2), .unset, .unset, .unset, .unset, .unset, .unset, .unset, .unset, .unset] [])) _
      refine g_iload X34 hx (hb hby at_85) rfl ?_
      show Goes p.tables e below (T34.setTop (mkF m 87 #[.val (.long p0), .second, .val (.long p1), .second, .val (.long p2), .second, .val (.int p3), .val (.int p4), .val (.int (1 : Int32)), .val (.long p0), .second, .val (.long t1), .second, .val (.long t2), .second, .val (.ref a5), .val (.ref b2), .unset, .unset, .unset, .unset, .unset, .unset, .unset, .unset, .unset] [(.int p4)])) _
      refine g_iconst X34 hx (2 : Int32) (hb hby at_87) rfl ?_
      show Goes p.tables e below (T34.setTop (mkF m 88 #[.val (.long p0), .second, .val (.long p1), .second, .val (.long p2), .second, .val (.int p3), .val (.int p4), .val (.int (1 : Int32)), .val (.long p0), .second, .val (.long t1), .second, .val (.long t2), .second, .val (.ref a5), .val (.ref b2), .unset, .unset, .unset, .unset, .unset, .unset, .unset, .unset, .unset] [(.int (2 : Int32)), (.int p4)])) _
      refine g_iand X34 hx (hb hby at_88) ?_
      show Goes p.tables e below (T34.setTop (mkF m 89 #[.val (.long p0), .second, .val (.long p1), .second, .val (.long p2), .second, .val (.int p3), .val (.int p4), .val (.int (1 : Int32)), .val (.long p0), .second, .val (.long t1), .second, .val (.long t2), .second, .val (.ref a5), .val (.ref b2), .unset, .unset, .unset, .unset, .unset, .unset, .unset, .unset, .unset] [(.int (p4 &&& (2 : Int32)))])) _
      obtain ⟨v35, hv35⟩ : ∃ z : Int32, z = (if (p4 &&& (2 : Int32)) = 0 then (0 : Int32) else (1 : Int32)) := ⟨_, rfl⟩
      refine Goes.join (S' := T34.setTop (mkF m 97 #[.val (.long p0), .second, .val (.long p1), .second, .val (.long p2), .second, .val (.int p3), .val (.int p4), .val (.int (1 : Int32)), .val (.long p0), .second, .val (.long t1), .second, .val (.long t2), .second, .val (.ref a5), .val (.ref b2), .unset, .unset, .unset, .unset, .unset, .unset, .unset, .unset, .unset] [(.int v35)])) (fun J => ?_) ?_
      · skip
        refine g_if_eq X34 hx (hb hby at_89) (by decide) (pc' := 96) (by decide) (fun c89 => ?_) (fun c89 => ?_)
        · skip
          show Goes p.tables e below (T34.setTop (mkF m 96 #[.val (.long p0), .second, .val (.long p1), .second, .val (.long p2), .second, .val (.int p3), .val (.int p4), .val (.int (1 : Int32)), .val (.long p0), .second, .val (.long t1), .second, .val (.long t2), .second, .val (.ref a5), .val (.ref b2), .unset, .unset, .unset, .unset, .unset, .unset, .unset, .unset, .unset] [])) _
          refine g_iconst X34 hx (0 : Int32) (hb hby at_96) rfl ?_
          rw [show v35 = ((0 : Int32)) from by rw [hv35, if_pos c89]] at J
          exact J
        · skip
          show Goes p.tables e below (T34.setTop (mkF m 92 #[.val (.long p0), .second, .val (.long p1), .second, .val (.long p2), .second, .val (.int p3), .val (.int p4), .val (.int (1 : Int32)), .val (.long p0), .second, .val (.long t1), .second, .val (.long t2), .second, .val (.ref a5), .val (.ref b2), .unset, .unset, .unset, .unset, .unset, .unset, .unset, .unset, .unset] [])) _
          refine g_iconst X34 hx (1 : Int32) (hb hby at_92) rfl ?_
          show Goes p.tables e below (T34.setTop (mkF m 93 #[.val (.long p0), .second, .val (.long p1), .second, .val (.long p2), .second, .val (.int p3), .val (.int p4), .val (.int (1 : Int32)), .val (.long p0), .second, .val (.long t1), .second, .val (.long t2), .second, .val (.ref a5), .val (.ref b2), .unset, .unset, .unset, .unset, .unset, .unset, .unset, .unset, .unset] [(.int (1 : Int32))])) _
          refine g_goto X34 hx (hb hby at_93) (by decide) (pc' := 97) (by decide) ?_
          rw [show v35 = ((1 : Int32)) from by rw [hv35, if_neg c89]] at J
          exact J
      show Goes p.tables e below (T34.setTop (mkF m 97 #[.val (.long p0), .second, .val (.long p1), .second, .val (.long p2), .second, .val (.int p3), .val (.int p4), .val (.int (1 : Int32)), .val (.long p0), .second, .val (.long t1), .second, .val (.long t2), .second, .val (.ref a5), .val (.ref b2), .unset, .unset, .unset, .unset, .unset, .unset, .unset, .unset, .unset] [(.int v35)])) _
      refine g_istore X34 hx (hb hby at_97) (l' := #[.val (.long p0), .second, .val (.long p1), .second, .val (.long p2), .second, .val (.int p3), .val (.int p4), .val (.int (1 : Int32)), .val (.long p0), .second, .val (.long t1), .second, .val (.long t2), .second, .val (.ref a5), .val (.ref b2), .val (.int v35), .unset, .unset, .unset, .unset, .unset, .unset, .unset, .unset]) rfl ?_
      show Goes p.tables e below (T34.setTop (mkF m 99 #[.val (.long p0), .second, .val (.long p1), .second, .val (.long p2), .second, .val (.int p3), .val (.int p4), .val (.int (1 : Int32)), .val (.long p0), .second, .val (.long t1), .second, .val (.long t2), .second, .val (.ref a5), .val (.ref b2), .val (.int v35), .unset, .unset, .unset, .unset, .unset, .unset, .unset, .unset] [])) _
      refine g_iload X34 hx (hb hby at_99) rfl ?_
      show Goes p.tables e below (T34.setTop (mkF m 101 #[.val (.long p0), .second, .val (.long p1), .second, .val (.long p2), .second, .val (.int p3), .val (.int p4), .val (.int (1 : Int32)), .val (.long p0), .second, .val (.long t1), .second, .val (.long t2), .second, .val (.ref a5), .val (.ref b2), .val (.int v35), .unset, .unset, .unset, .unset, .unset, .unset, .unset, .unset] [(.int p4)])) _
      refine g_iconst X34 hx (4 : Int32) (hb hby at_101) rfl ?_
      show Goes p.tables e below (T34.setTop (mkF m 102 #[.val (.long p0), .second, .val (.long p1), .second, .val (.long p2), .second, .val (.int p3), .val (.int p4), .val (.int (1 : Int32)), .val (.long p0), .second, .val (.long t1), .second, .val (.long t2), .second, .val (.ref a5), .val (.ref b2), .val (.int v35), .unset, .unset, .unset, .unset, .unset, .unset, .unset, .unset] [(.int (4 : Int32)), (.int p4)])) _
      refine g_iand X34 hx (hb hby at_102) ?_
      show Goes p.tables e below (T34.setTop (mkF m 103 #[.val (.long p0), .second, .val (.long p1), .second, .val (.long p2), .second, .val (.int p3), .val (.int p4), .val (.int (1 : Int32)), .val (.long p0), .second, .val (.long t1), .second, .val (.long t2), .second, .val (.ref a5), .val (.ref b2), .val (.int v35), .unset, .unset, .unset, .unset, .unset, .unset, .unset, .unset] [(.int (p4 &&& (4 : Int32)))])) _
      refine g_if_eq X34 hx (hb hby at_103) (by decide) (pc' := 112) (by decide) (fun c103 => ?_) (fun c103 => ?_)
      · skip
        show Goes p.tables e below (T34.setTop (mkF m 112 #[.val (.long p0), .second, .val (.long p1), .second, .val (.long p2), .second, .val (.int p3), .val (.int p4), .val (.int (1 : Int32)), .val (.long p0), .second, .val (.long t1), .second, .val (.long t2), .second, .val (.ref a5), .val (.ref b2), .val (.int v35), .unset, .unset, .unset, .unset, .unset, .unset, .unset, .unset] [])) _
        refine g_getS X34 hx hZ hown e34 (host := "") (Or.inl (hw _ (List.mem_of_getElem? (i := 9) rfl))) fx24 (hb hby at_112) (fun T36 X36 e36 => ?_)
        show Goes p.tables e below (T36.setTop (mkF m 115 #[.val (.long p0), .second, .val (.long p1), .second, .val (.long p2), .second, .val (.int p3), .val (.int p4), .val (.int (1 : Int32)), .val (.long p0), .second, .val (.long t1), .second, .val (.long t2), .second, .val (.ref a5), .val (.ref b2), .val (.int v35), .unset, .unset, .unset, .unset, .unset, .unset, .unset, .unset] [(.ref b1)])) _
        refine g_astore X36 hx (hb hby at_115) rfl (l' := #[.val (.long p0), .second, .val (.long p1), .second, .val (.long p2), .second, .val (.int p3), .val (.int p4), .val (.int (1 : Int32)), .val (.long p0), .second, .val (.long t1), .second, .val (.long t2), .second, .val (.ref a5), .val (.ref b2), .val (.int v35), .val (.ref b1), .unset, .unset, .unset, .unset, .unset, .unset, .unset]) rfl ?_
        show Goes p.tables e below (T36.setTop (mkF m 117 #[.val (.long p0), .second, .val (.long p1), .second, .val (.long p2), .second, .val (.int p3), .val (.int p4), .val (.int (1 : Int32)), .val (.long p0), .second, .val (.long t1), .second, .val (.long t2), .second, .val (.ref a5), .val (.ref b2), .val (.int v35), .val (.ref b1), .unset, .unset, .unset, .unset, .unset, .unset, .unset] [])) _
        refine g_new X36 hx hZ hown e36 (hw _ (List.mem_of_getElem? (i := 12) rfl)) (hw _ (List.mem_of_getElem? (i := 13) rfl)) (hw _ (List.mem_of_getElem? (i := 14) rfl)) (hb hby at_117) (by decide) (by decide) (fun T37 h37 a37 ga37 X37 e37 Ex37 Ea37 Df37 => ?_)
        have ne38 : b0 ≠ a37 := Nat.ne_of_lt (by rw [ga37]; exact fx23.lt)
        have ne39 : b1 ≠ a37 := Nat.ne_of_lt (by rw [ga37]; exact fx25.lt)
        have ne40 : b2 ≠ a37 := Nat.ne_of_lt (by rw [ga37]; exact fx27.lt)
        have ne41 : b3 ≠ a37 := Nat.ne_of_lt (by rw [ga37]; exact fx29.lt)
        have ne42 : a5 ≠ a37 := Nat.ne_of_lt (by rw [ga37]; exact fx30.lt)
        have ge43 : h0.size ≤ a37 := by rw [ga37]; exact Z33
        have fx44 : Sta Z h37 "com/example/drongo/drongo/event/RotaryEvent$Knob" "NAVIGATION" "Lcom/example/drongo/drongo/event/RotaryEvent$Knob;" (.ref b0) := Sta.ext Ex37 fx22
        have fx45 : Exa Z h37 b0 "com/example/drongo/drongo/event/RotaryEvent$Knob" := Exa.ext Ex37 fx23
        have fx46 : Sta Z h37 "com/example/drongo/drongo/event/Display" "CLUSTER" "Lcom/example/drongo/drongo/event/Display;" (.ref b1) := Sta.ext Ex37 fx24
        have fx47 : Exa Z h37 b1 "com/example/drongo/drongo/event/Display" := Exa.ext Ex37 fx25
        have fx48 : Sta Z h37 "com/example/drongo/drongo/event/RotaryEvent$Knob" "VOLUME" "Lcom/example/drongo/drongo/event/RotaryEvent$Knob;" (.ref b2) := Sta.ext Ex37 fx26
        have fx49 : Exa Z h37 b2 "com/example/drongo/drongo/event/RotaryEvent$Knob" := Exa.ext Ex37 fx27
        have fx50 : Sta Z h37 "com/example/drongo/drongo/event/Display" "MAIN" "Lcom/example/drongo/drongo/event/Display;" (.ref b3) := Sta.ext Ex37 fx28
        have fx51 : Exa Z h37 b3 "com/example/drongo/drongo/event/Display" := Exa.ext Ex37 fx29
        have fx52 : Exa Z h37 a5 "[J" := Exa.ext Ex37 fx30
        have fx53 : Ar Z h37 a5 .long [(.long p0)] := Ar.ext fx31 Ex37
        have Z54 : h0.size ≤ h37.size := Nat.le_trans Z33 Ex37.1
        have fx55 : Fld Z h37 a37 "com/example/drongo/drongo/event/RotaryEvent" "knob" "Lcom/example/drongo/drongo/event/RotaryEvent$Knob;" .null := Df37 (Or.inr (hw _ (List.mem_of_getElem? (i := 22) rfl))) (ty := (.object "com/example/drongo/drongo/event/RotaryEvent$Knob")) (by decide)
        have fx56 : Fld Z h37 a37 "com/example/drongo/drongo/event/RotaryEvent" "clockwise" "Z" (.int (0 : Int32)) := Df37 (Or.inr (hw _ (List.mem_of_getElem? (i := 24) rfl))) (ty := .boolean) (by decide)
        have fx57 : Fld Z h37 a37 "com/example/drongo/drongo/event/RotaryEvent" "display" "Lcom/example/drongo/drongo/event/Display;" .null := Df37 (Or.inr (hw _ (List.mem_of_getElem? (i := 26) rfl))) (ty := (.object "com/example/drongo/drongo/event/Display")) (by decide)
        have fx58 : Fld Z h37 a37 "com/example/drongo/drongo/event/RotaryEvent" "timesMillis" "[J" .null := Df37 (Or.inr (hw _ (List.mem_of_getElem? (i := 37) rfl))) (ty := (.array .long)) (by decide)
        show Goes p.tables e below (T37.setTop (mkF m 120 #[.val (.long p0), .second, .val (.long p1), .second, .val (.long p2), .second, .val (.int p3), .val (.int p4), .val (.int (1 : Int32)), .val (.long p0), .second, .val (.long t1), .second, .val (.long t2), .second, .val (.ref a5), .val (.ref b2), .val (.int v35), .val (.ref b1), .unset, .unset, .unset, .unset, .unset, .unset, .unset] [(.ref a37)])) _
        refine g_dup X37 hx (hb hby at_120) rfl ?_
        show Goes p.tables e below (T37.setTop (mkF m 121 #[.val (.long p0), .second, .val (.long p1), .second, .val (.long p2), .second, .val (.int p3), .val (.int p4), .val (.int (1 : Int32)), .val (.long p0), .second, .val (.long t1), .second, .val (.long t2), .second, .val (.ref a5), .val (.ref b2), .val (.int v35), .val (.ref b1), .unset, .unset, .unset, .unset, .unset, .unset, .unset] [(.ref a37), (.ref a37)])) _
        refine g_aload X37 hx (hb hby at_121) rfl rfl ?_
        show Goes p.tables e below (T37.setTop (mkF m 123 #[.val (.long p0), .second, .val (.long p1), .second, .val (.long p2), .second, .val (.int p3), .val (.int p4), .val (.int (1 : Int32)), .val (.long p0), .second, .val (.long t1), .second, .val (.long t2), .second, .val (.ref a5), .val (.ref b2), .val (.int v35), .val (.ref b1), .unset, .unset, .unset, .unset, .unset, .unset, .unset] [(.ref b2), (.ref a37), (.ref a37)])) _
        refine g_iload X37 hx (hb hby at_123) rfl ?_
        show Goes p.tables e below (T37.setTop (mkF m 125 #[.val (.long p0), .second, .val (.long p1), .second, .val (.long p2), .second, .val (.int p3), .val (.int p4), .val (.int (1 : Int32)), .val (.long p0), .second, .val (.long t1), .second, .val (.long t2), .second, .val (.ref a5), .val (.ref b2), .val (.int v35), .val (.ref b1), .unset, .unset, .unset, .unset, .unset, .unset, .unset] [(.int v35), (.ref b2), (.ref a37), (.ref a37)])) _
        refine g_aload X37 hx (hb hby at_125) rfl rfl ?_
        show Goes p.tables e below (T37.setTop (mkF m 127 #[.val (.long p0), .second, .val (.long p1), .second, .val (.long p2), .second, .val (.int p3), .val (.int p4), .val (.int (1 : Int32)), .val (.long p0), .second, .val (.long t1), .second, .val (.long t2), .second, .val (.ref a5), .val (.ref b2), .val (.int v35), .val (.ref b1), .unset, .unset, .unset, .unset, .unset, .unset, .unset] [(.ref b1), (.int v35), (.ref b2), (.ref a37), (.ref a37)])) _
        refine g_aload X37 hx (hb hby at_127) rfl rfl ?_
        show Goes p.tables e below (T37.setTop (mkF m 129 #[.val (.long p0), .second, .val (.long p1), .second, .val (.long p2), .second, .val (.int p3), .val (.int p4), .val (.int (1 : Int32)), .val (.long p0), .second, .val (.long t1), .second, .val (.long t2), .second, .val (.ref a5), .val (.ref b2), .val (.int v35), .val (.ref b1), .unset, .unset, .unset, .unset, .unset, .unset, .unset] [(.ref a5), (.ref b1), (.int v35), (.ref b2), (.ref a37), (.ref a37)])) _
        have lta := fx53.lt
        have ltb := Ea37.lt
        refine g_callI X37 hx hZ hown (by rw [hml]; rfl) e37 rfl (hw _ (List.mem_of_getElem? (i := 15) rfl)) (hw _ (List.mem_of_getElem? (i := 16) rfl)) (hw _ (List.mem_of_getElem? (i := 14) rfl)) (hw _ (List.mem_of_getElem? (i := 17) rfl)) (rmI l Z a0 hw a37 b2 v35 b1 a5 h37 h0.size Z54 [(.long p0)] (by simp) fx55 fx56 fx57 fx58 Ea37 fx53 fx52 ge43 ne42) a37 [(.ref b2), (.int v35), (.ref b1), (.ref a5)] rfl [(.ref a37)] rfl (lenOf pd_2 rfl) (hb hby at_129) (by decide) 1 (by decide) (by decide) (by first | decide | exact Nat.le_refl _) (by decide) (by decide) (fun v T59 L59 X59 hQ59 => ?_)
        obtain ⟨rfl, Nc59, Kc59, b59, gb59, hb59, fT59, Ab59⟩ := hQ59
        have fx60 : Sta Z T59.heap "com/example/drongo/drongo/event/RotaryEvent$Knob" "NAVIGATION" "Lcom/example/drongo/drongo/event/RotaryEvent$Knob;" (.ref b0) := own_stakeep fx44 Kc59 (allS (own_nst Ea37) all0)
        have fx61 : Exa Z T59.heap b0 "com/example/drongo/drongo/event/RotaryEvent$Knob" := Exa.keep fx45 Kc59
        have fx62 : Sta Z T59.heap "com/example/drongo/drongo/event/Display" "CLUSTER" "Lcom/example/drongo/drongo/event/Display;" (.ref b1) := own_stakeep fx46 Kc59 (allS (own_nst Ea37) all0)
        have fx63 : Exa Z T59.heap b1 "com/example/drongo/drongo/event/Display" := Exa.keep fx47 Kc59
        have fx64 : Sta Z T59.heap "com/example/drongo/drongo/event/RotaryEvent$Knob" "VOLUME" "Lcom/example/drongo/drongo/event/RotaryEvent$Knob;" (.ref b2) := own_stakeep fx48 Kc59 (allS (own_nst Ea37) all0)
        have fx65 : Exa Z T59.heap b2 "com/example/drongo/drongo/event/RotaryEvent$Knob" := Exa.keep fx49 Kc59
        have fx66 : Sta Z T59.heap "com/example/drongo/drongo/event/Display" "MAIN" "Lcom/example/drongo/drongo/event/Display;" (.ref b3) := own_stakeep fx50 Kc59 (allS (own_nst Ea37) all0)
        have fx67 : Exa Z T59.heap b3 "com/example/drongo/drongo/event/Display" := Exa.keep fx51 Kc59
        have fx68 : Exa Z T59.heap a5 "[J" := Exa.keep fx52 Kc59
        have fx69 : Ar Z T59.heap a5 .long [(.long p0)] := Ar.keep fx53 Kc59 (ninS ne42 nin0)
        have fx70 : Exa Z T59.heap a37 "com/example/drongo/drongo/event/RotaryEvent" := Exa.keep Ea37 Kc59
        have N71 := Fr.app N32 Nc59
        have Z72 : h0.size ≤ T59.heap.size := Nat.le_trans Z54 Kc59.1
        have ne73 : a5 ≠ b59 := Nat.ne_of_lt (Nat.lt_of_lt_of_le lta hb59)
        have ne74 : a37 ≠ b59 := Nat.ne_of_lt (Nat.lt_of_lt_of_le ltb hb59)
        show Goes p.tables e below (T59.setTop (mkF m 132 #[.val (.long p0), .second, .val (.long p1), .second, .val (.long p2), .second, .val (.int p3), .val (.int p4), .val (.int (1 : Int32)), .val (.long p0), .second, .val (.long t1), .second, .val (.long t2), .second, .val (.ref a5), .val (.ref b2), .val (.int v35), .val (.ref b1), .unset, .unset, .unset, .unset, .unset, .unset, .unset] [(.ref a37)])) _
        refine g_astore X59 hx (hb hby at_132) rfl (l' := #[.val (.long p0), .second, .val (.long p1), .second, .val (.long p2), .second, .val (.int p3), .val (.int p4), .val (.int (1 : Int32)), .val (.long p0), .second, .val (.long t1), .second, .val (.long t2), .second, .val (.ref a5), .val (.ref b2), .val (.int v35), .val (.ref b1), .val (.ref a37), .unset, .unset, .unset, .unset, .unset, .unset]) rfl ?_
        show Goes p.tables e below (T59.setTop (mkF m 134 #[.val (.long p0), .second, .val (.long p1), .second, .val (.long p2), .second, .val (.int p3), .val (.int p4), .val (.int (1 : Int32)), .val (.long p0), .second, .val (.long t1), .second, .val (.long t2), .second, .val (.ref a5), .val (.ref b2), .val (.int v35), .val (.ref b1), .val (.ref a37), .unset, .unset, .unset, .unset, .unset, .unset] [])) _
        refine g_iload X59 hx (hb hby at_134) rfl ?_
        show Goes p.tables e below (T59.setTop (mkF m 136 #[.val (.long p0), .second, .val (.long p1), .second, .val (.long p2), .second, .val (.int p3), .val (.int p4), .val (.int (1 : Int32)), .val (.long p0), .second, .val (.long t1), .second, .val (.long t2), .second, .val (.ref a5), .val (.ref b2), .val (.int v35), .val (.ref b1), .val (.ref a37), .unset, .unset, .unset, .unset, .unset, .unset] [(.int (1 : Int32))])) _
        refine g_iconst X59 hx (1 : Int32) (hb hby at_136) rfl ?_
        show Goes p.tables e below (T59.setTop (mkF m 137 #[.val (.long p0), .second, .val (.long p1), .second, .val (.long p2), .second, .val (.int p3), .val (.int p4), .val (.int (1 : Int32)), .val (.long p0), .second, .val (.long t1), .second, .val (.long t2), .second, .val (.ref a5), .val (.ref b2), .val (.int v35), .val (.ref b1), .val (.ref a37), .unset, .unset, .unset, .unset, .unset, .unset] [(.int (1 : Int32)), (.int (1 : Int32))])) _
        refine g_icmp_ne X59 hx (hb hby at_137) (by decide) (pc' := 145) (by decide) (fun q => absurd (by decide) q) (fun _ => ?_)
        show Goes p.tables e below (T59.setTop (mkF m 140 #[.val (.long p0), .second, .val (.long p1), .second, .val (.long p2), .second, .val (.int p3), .val (.int p4), .val (.int (1 : Int32)), .val (.long p0), .second, .val (.long t1), .second, .val (.long t2), .second, .val (.ref a5), .val (.ref b2), .val (.int v35), .val (.ref b1), .val (.ref a37), .unset, .unset, .unset, .unset, .unset, .unset] [])) _
        refine g_lload X59 hx (hb hby at_140) rfl ?_
        show Goes p.tables e below (T59.setTop (mkF m 142 #[.val (.long p0), .second, .val (.long p1), .second, .val (.long p2), .second, .val (.int p3), .val (.int p4), .val (.int (1 : Int32)), .val (.long p0), .second, .val (.long t1), .second, .val (.long t2), .second, .val (.ref a5), .val (.ref b2), .val (.int v35), .val (.ref b1), .val (.ref a37), .unset, .unset, .unset, .unset, .unset, .unset] [(.long p0)])) _
        refine g_goto X59 hx (hb hby at_142) (by decide) (pc' := 158) (by decide) ?_
        show Goes p.tables e below (T59.setTop (mkF m 158 #[.val (.long p0), .second, .val (.long p1), .second, .val (.long p2), .second, .val (.int p3), .val (.int p4), .val (.int (1 : Int32)), .val (.long p0), .second, .val (.long t1), .second, .val (.long t2), .second, .val (.ref a5), .val (.ref b2), .val (.int v35), .val (.ref b1), .val (.ref a37), .unset, .unset, .unset, .unset, .unset, .unset] [(.long p0)])) _
        refine g_lstore X59 hx (hb hby at_158) (l' := #[.val (.long p0), .second, .val (.long p1), .second, .val (.long p2), .second, .val (.int p3), .val (.int p4), .val (.int (1 : Int32)), .val (.long p0), .second, .val (.long t1), .second, .val (.long t2), .second, .val (.ref a5), .val (.ref b2), .val (.int v35), .val (.ref b1), .val (.ref a37), .val (.long p0), .second, .unset, .unset, .unset, .unset]) rfl ?_
        show Goes p.tables e below (T59.setTop (mkF m 160 #[.val (.long p0), .second, .val (.long p1), .second, .val (.long p2), .second, .val (.int p3), .val (.int p4), .val (.int (1 : Int32)), .val (.long p0), .second, .val (.long t1), .second, .val (.long t2), .second, .val (.ref a5), .val (.ref b2), .val (.int v35), .val (.ref b1), .val (.ref a37), .val (.long p0), .second, .unset, .unset, .unset, .unset] [])) _
        refine g_lload X59 hx (hb hby at_160) rfl ?_
        show Goes p.tables e below (T59.setTop (mkF m 162 #[.val (.long p0), .second, .val (.long p1), .second, .val (.long p2), .second, .val (.int p3), .val (.int p4), .val (.int (1 : Int32)), .val (.long p0), .second, .val (.long t1), .second, .val (.long t2), .second, .val (.ref a5), .val (.ref b2), .val (.int v35), .val (.ref b1), .val (.ref a37), .val (.long p0), .second, .unset, .unset, .unset, .unset] [(.long p0)])) _
        refine g_iload X59 hx (hb hby at_162) rfl ?_
        show Goes p.tables e below (T59.setTop (mkF m 164 #[.val (.long p0), .second, .val (.long p1), .second, .val (.long p2), .second, .val (.int p3), .val (.int p4), .val (.int (1 : Int32)), .val (.long p0), .second, .val (.long t1), .second, .val (.long t2), .second, .val (.ref a5), .val (.ref b2), .val (.int v35), .val (.ref b1), .val (.ref a37), .val (.long p0), .second, .unset, .unset, .unset, .unset] [(.int (1 : Int32)), (.long p0)])) _
        refine g_iconst X59 hx (1 : Int32) (hb hby at_164) rfl ?_
        show Goes p.tables e below (T59.setTop (mkF m 165 #[.val (.long p0), .second, .val (.long p1), .second, .val (.long p2), .second, .val (.int p3), .val (.int p4), .val (.int (1 : Int32)), .val (.long p0), .second, .val (.long t1), .second, .val (.long t2), .second, .val (.ref a5), .val (.ref b2), .val (.int v35), .val (.ref b1), .val (.ref a37), .val (.long p0), .second, .unset, .unset, .unset, .unset] [(.int (1 : Int32)), (.int (1 : Int32)), (.long p0)])) _
        refine g_icmp_le X59 hx (hb hby at_165) (by decide) (pc' := 173) (by decide) (fun _ => ?_) (fun q => absurd q (by decide))
        show Goes p.tables e below (T59.setTop (mkF m 173 #[.val (.long p0), .second, .val (.long p1), .second, .val (.long p2), .second, .val (.int p3), .val (.int p4), .val (.int (1 : Int32)), .val (.long p0), .second, .val (.long t1), .second, .val (.long t2), .second, .val (.ref a5), .val (.ref b2), .val (.int v35), .val (.ref b1), .val (.ref a37), .val (.long p0), .second, .unset, .unset, .unset, .unset] [(.long p0)])) _
        refine g_lload X59 hx (hb hby at_173) rfl ?_
        show Goes p.tables e below (T59.setTop (mkF m 175 #[.val (.long p0), .second, .val (.long p1), .second, .val (.long p2), .second, .val (.int p3), .val (.int p4), .val (.int (1 : Int32)), .val (.long p0), .second, .val (.long t1), .second, .val (.long t2), .second, .val (.ref a5), .val (.ref b2), .val (.int v35), .val (.ref b1), .val (.ref a37), .val (.long p0), .second, .unset, .unset, .unset, .unset] [(.long p0), (.long p0)])) _
        refine g_iload X59 hx (hb hby at_175) rfl ?_
        show Goes p.tables e below (T59.setTop (mkF m 177 #[.val (.long p0), .second, .val (.long p1), .second, .val (.long p2), .second, .val (.int p3), .val (.int p4), .val (.int (1 : Int32)), .val (.long p0), .second, .val (.long t1), .second, .val (.long t2), .second, .val (.ref a5), .val (.ref b2), .val (.int v35), .val (.ref b1), .val (.ref a37), .val (.long p0), .second, .unset, .unset, .unset, .unset] [(.int (1 : Int32)), (.long p0), (.long p0)])) _
        refine g_iconst X59 hx (2 : Int32) (hb hby at_177) rfl ?_
        show Goes p.tables e below (T59.setTop (mkF m 178 #[.val (.long p0), .second, .val (.long p1), .second, .val (.long p2), .second, .val (.int p3), .val (.int p4), .val (.int (1 : Int32)), .val (.long p0), .second, .val (.long t1), .second, .val (.long t2), .second, .val (.ref a5), .val (.ref b2), .val (.int v35), .val (.ref b1), .val (.ref a37), .val (.long p0), .second, .unset, .unset, .unset, .unset] [(.int (2 : Int32)), (.int (1 : Int32)), (.long p0), (.long p0)])) _
        refine g_icmp_le X59 hx (hb hby at_178) (by decide) (pc' := 186) (by decide) (fun _ => ?_) (fun q => absurd q (by decide))
        show Goes p.tables e below (T59.setTop (mkF m 186 #[.val (.long p0), .second, .val (.long p1), .second, .val (.long p2), .second, .val (.int p3), .val (.int p4), .val (.int (1 : Int32)), .val (.long p0), .second, .val (.long t1), .second, .val (.long t2), .second, .val (.ref a5), .val (.ref b2), .val (.int v35), .val (.ref b1), .val (.ref a37), .val (.long p0), .second, .unset, .unset, .unset, .unset] [(.long p0), (.long p0)])) _
        refine g_lload X59 hx (hb hby at_186) rfl ?_
        show Goes p.tables e below (T59.setTop (mkF m 188 #[.val (.long p0), .second, .val (.long p1), .second, .val (.long p2), .second, .val (.int p3), .val (.int p4), .val (.int (1 : Int32)), .val (.long p0), .second, .val (.long t1), .second, .val (.long t2), .second, .val (.ref a5), .val (.ref b2), .val (.int v35), .val (.ref b1), .val (.ref a37), .val (.long p0), .second, .unset, .unset, .unset, .unset] [(.long p0), (.long p0), (.long p0)])) _
        refine g_callS X59 hx hZ hown (by rw [hml]; rfl) rfl (hw _ (List.mem_of_getElem? (i := 1) rfl)) (hw _ (List.mem_of_getElem? (i := 2) rfl)) (hw _ (List.mem_of_getElem? (i := 3) rfl)) (hw _ (List.mem_of_getElem? (i := 4) rfl)) (rmX l Z a0 hw p0 p0 T59.heap) [(.long p0), (.long p0)] rfl [(.long p0)] rfl (lenOf pd_1 rfl) (hb hby at_188) (by decide) 2 (by decide) (by decide) (by first | decide | exact Nat.le_refl _) (by decide) (by decide) (fun v T75 L75 X75 hQ75 => ?_)
        obtain ⟨rfl, e75, rfl⟩ := hQ75
        have N76 := Fr.app N71 (Fr.nil h0.size)
        show Goes p.tables e below (T75.setTop (mkF m 191 #[.val (.long p0), .second, .val (.long p1), .second, .val (.long p2), .second, .val (.int p3), .val (.int p4), .val (.int (1 : Int32)), .val (.long p0), .second, .val (.long t1), .second, .val (.long t2), .second, .val (.ref a5), .val (.ref b2), .val (.int v35), .val (.ref b1), .val (.ref a37), .val (.long p0), .second, .unset, .unset, .unset, .unset] [(.long (maxV p0 p0)), (.long p0)])) _
        refine g_callS X75 hx hZ hown (by rw [hml]; rfl) e75 (hw _ (List.mem_of_getElem? (i := 1) rfl)) (hw _ (List.mem_of_getElem? (i := 2) rfl)) (hw _ (List.mem_of_getElem? (i := 3) rfl)) (hw _ (List.mem_of_getElem? (i := 4) rfl)) (rmX l Z a0 hw p0 (maxV p0 p0) T59.heap) [(.long p0), (.long (maxV p0 p0))] rfl [] rfl (lenOf pd_1 rfl) (hb hby at_191) (by decide) 0 (by decide) (by decide) (by first | decide | exact Nat.le_refl _) (by decide) (by decide) (fun v T77 L77 X77 hQ77 => ?_)
        obtain ⟨rfl, e77, rfl⟩ := hQ77
        have N78 := Fr.app N76 (Fr.nil h0.size)
        show Goes p.tables e below (T77.setTop (mkF m 194 #[.val (.long p0), .second, .val (.long p1), .second, .val (.long p2), .second, .val (.int p3), .val (.int p4), .val (.int (1 : Int32)), .val (.long p0), .second, .val (.long t1), .second, .val (.long t2), .second, .val (.ref a5), .val (.ref b2), .val (.int v35), .val (.ref b1), .val (.ref a37), .val (.long p0), .second, .unset, .unset, .unset, .unset] [(.long (maxV p0 (maxV p0 p0)))])) _
        obtain ⟨vlat, hvlat⟩ : ∃ z : Int64, z = (maxV p0 (maxV p0 p0)) := ⟨_, rfl⟩
        refine g_nameL hvlat ?_
        show Goes p.tables e below (T77.setTop (mkF m 194 #[.val (.long p0), .second, .val (.long p1), .second, .val (.long p2), .second, .val (.int p3), .val (.int p4), .val (.int (1 : Int32)), .val (.long p0), .second, .val (.long t1), .second, .val (.long t2), .second, .val (.ref a5), .val (.ref b2), .val (.int v35), .val (.ref b1), .val (.ref a37), .val (.long p0), .second, .unset, .unset, .unset, .unset] [(.long vlat)])) _
        refine g_lstore X77 hx (hb hby at_194) (l' := #[.val (.long p0), .second, .val (.long p1), .second, .val (.long p2), .second, .val (.int p3), .val (.int p4), .val (.int (1 : Int32)), .val (.long p0), .second, .val (.long t1), .second, .val (.long t2), .second, .val (.ref a5), .val (.ref b2), .val (.int v35), .val (.ref b1), .val (.ref a37), .val (.long p0), .second, .val (.long vlat), .second, .unset, .unset]) rfl ?_
        show Goes p.tables e below (T77.setTop (mkF m 196 #[.val (.long p0), .second, .val (.long p1), .second, .val (.long p2), .second, .val (.int p3), .val (.int p4), .val (.int (1 : Int32)), .val (.long p0), .second, .val (.long t1), .second, .val (.long t2), .second, .val (.ref a5), .val (.ref b2), .val (.int v35), .val (.ref b1), .val (.ref a37), .val (.long p0), .second, .val (.long vlat), .second, .unset, .unset] [])) _
        refine g_aload X77 hx (hb hby at_196) rfl rfl ?_
        show Goes p.tables e below (T77.setTop (mkF m 198 #[.val (.long p0), .second, .val (.long p1), .second, .val (.long p2), .second, .val (.int p3), .val (.int p4), .val (.int (1 : Int32)), .val (.long p0), .second, .val (.long t1), .second, .val (.long t2), .second, .val (.ref a5), .val (.ref b2), .val (.int v35), .val (.ref b1), .val (.ref a37), .val (.long p0), .second, .val (.long vlat), .second, .unset, .unset] [(.ref a5)])) _
        refine g_iload X77 hx (hb hby at_198) rfl ?_
        show Goes p.tables e below (T77.setTop (mkF m 200 #[.val (.long p0), .second, .val (.long p1), .second, .val (.long p2), .second, .val (.int p3), .val (.int p4), .val (.int (1 : Int32)), .val (.long p0), .second, .val (.long t1), .second, .val (.long t2), .second, .val (.ref a5), .val (.ref b2), .val (.int v35), .val (.ref b1), .val (.ref a37), .val (.long p0), .second, .val (.long vlat), .second, .unset, .unset] [(.int (1 : Int32)), (.ref a5)])) _
        refine g_iconst X77 hx (1 : Int32) (hb hby at_200) rfl ?_
        show Goes p.tables e below (T77.setTop (mkF m 201 #[.val (.long p0), .second, .val (.long p1), .second, .val (.long p2), .second, .val (.int p3), .val (.int p4), .val (.int (1 : Int32)), .val (.long p0), .second, .val (.long t1), .second, .val (.long t2), .second, .val (.ref a5), .val (.ref b2), .val (.int v35), .val (.ref b1), .val (.ref a37), .val (.long p0), .second, .val (.long vlat), .second, .unset, .unset] [(.int (1 : Int32)), (.int (1 : Int32)), (.ref a5)])) _
        refine g_isub X77 hx (hb hby at_201) ?_
        show Goes p.tables e below (T77.setTop (mkF m 202 #[.val (.long p0), .second, .val (.long p1), .second, .val (.long p2), .second, .val (.int p3), .val (.int p4), .val (.int (1 : Int32)), .val (.long p0), .second, .val (.long t1), .second, .val (.long t2), .second, .val (.ref a5), .val (.ref b2), .val (.int v35), .val (.ref b1), .val (.ref a37), .val (.long p0), .second, .val (.long vlat), .second, .unset, .unset] [(.int ((1 : Int32) - (1 : Int32))), (.ref a5)])) _
        refine g_lload X77 hx (hb hby at_202) rfl ?_
        show Goes p.tables e below (T77.setTop (mkF m 204 #[.val (.long p0), .second, .val (.long p1), .second, .val (.long p2), .second, .val (.int p3), .val (.int p4), .val (.int (1 : Int32)), .val (.long p0), .second, .val (.long t1), .second, .val (.long t2), .second, .val (.ref a5), .val (.ref b2), .val (.int v35), .val (.ref b1), .val (.ref a37), .val (.long p0), .second, .val (.long vlat), .second, .unset, .unset] [(.long p0), (.int ((1 : Int32) - (1 : Int32))), (.ref a5)])) _
        refine g_ldc2 X77 hx hZ hown (hw _ (List.mem_of_getElem? (i := 38) rfl)) (hb hby at_204) ?_
        show Goes p.tables e below (T77.setTop (mkF m 207 #[.val (.long p0), .second, .val (.long p1), .second, .val (.long p2), .second, .val (.int p3), .val (.int p4), .val (.int (1 : Int32)), .val (.long p0), .second, .val (.long t1), .second, .val (.long t2), .second, .val (.ref a5), .val (.ref b2), .val (.int v35), .val (.ref b1), .val (.ref a37), .val (.long p0), .second, .val (.long vlat), .second, .unset, .unset] [(.long (-1 : Int64)), (.long p0), (.int ((1 : Int32) - (1 : Int32))), (.ref a5)])) _
        refine g_lxor X77 hx (hb hby at_207) ?_
        show Goes p.tables e below (T77.setTop (mkF m 208 #[.val (.long p0), .second, .val (.long p1), .second, .val (.long p2), .second, .val (.int p3), .val (.int p4), .val (.int (1 : Int32)), .val (.long p0), .second, .val (.long t1), .second, .val (.long t2), .second, .val (.ref a5), .val (.ref b2), .val (.int v35), .val (.ref b1), .val (.ref a37), .val (.long p0), .second, .val (.long vlat), .second, .unset, .unset] [(.long (p0 ^^^ (-1 : Int64))), (.int ((1 : Int32) - (1 : Int32))), (.ref a5)])) _
        refine g_lastore X77 hx hZ e77 fx69 0 (by decide) (by simp) (hb hby at_208) (fun T79 h79 X79 e79 W79 A79 => ?_)
        have fx80 : Sta Z h79 "com/example/drongo/drongo/event/RotaryEvent$Knob" "NAVIGATION" "Lcom/example/drongo/drongo/event/RotaryEvent$Knob;" (.ref b0) := Sta.wr W79 fx60
        have fx81 : Exa Z h79 b0 "com/example/drongo/drongo/event/RotaryEvent$Knob" := Exa.wr W79 fx61
        have fx82 : Sta Z h79 "com/example/drongo/drongo/event/Display" "CLUSTER" "Lcom/example/drongo/drongo/event/Display;" (.ref b1) := Sta.wr W79 fx62
        have fx83 : Exa Z h79 b1 "com/example/drongo/drongo/event/Display" := Exa.wr W79 fx63
        have fx84 : Sta Z h79 "com/example/drongo/drongo/event/RotaryEvent$Knob" "VOLUME" "Lcom/example/drongo/drongo/event/RotaryEvent$Knob;" (.ref b2) := Sta.wr W79 fx64
        have fx85 : Exa Z h79 b2 "com/example/drongo/drongo/event/RotaryEvent$Knob" := Exa.wr W79 fx65
        have fx86 : Sta Z h79 "com/example/drongo/drongo/event/Display" "MAIN" "Lcom/example/drongo/drongo/event/Display;" (.ref b3) := Sta.wr W79 fx66
        have fx87 : Exa Z h79 b3 "com/example/drongo/drongo/event/Display" := Exa.wr W79 fx67
        have fx88 : Exa Z h79 a5 "[J" := Exa.wr W79 fx68
        have fx89 : Exa Z h79 a37 "com/example/drongo/drongo/event/RotaryEvent" := Exa.wr W79 fx70
        have fx90 : Fld Z h79 a37 "com/example/drongo/drongo/event/RotaryEvent" "timesMillis" "[J" (.ref b59) := Fld.other W79 fT59 (Or.inl (Ne.symm ne42))
        have fx91 : Ar Z h79 b59 .long [(.long p0)] := Ar.other Ab59 W79 (Ne.symm ne73)
        have fx92 : Ar Z h79 a5 .long (List.set [(.long p0)] 0 (.long (p0 ^^^ (-1 : Int64)))) := A79
        have N93 := Fr.snoc X79 N78 ge10
        have Z94 : h0.size ≤ h79.size := by rw [W79.size]; exact Z72
        show Goes p.tables e below (T79.setTop (mkF m 209 #[.val (.long p0), .second, .val (.long p1), .second, .val (.long p2), .second, .val (.int p3), .val (.int p4), .val (.int (1 : Int32)), .val (.long p0), .second, .val (.long t1), .second, .val (.long t2), .second, .val (.ref a5), .val (.ref b2), .val (.int v35), .val (.ref b1), .val (.ref a37), .val (.long p0), .second, .val (.long vlat), .second, .unset, .unset] [])) _
        refine g_aload X79 hx (hb hby at_209) rfl rfl ?_
        show Goes p.tables e below (T79.setTop (mkF m 211 #[.val (.long p0), .second, .val (.long p1), .second, .val (.long p2), .second, .val (.int p3), .val (.int p4), .val (.int (1 : Int32)), .val (.long p0), .second, .val (.long t1), .second, .val (.long t2), .second, .val (.ref a5), .val (.ref b2), .val (.int v35), .val (.ref b1), .val (.ref a37), .val (.long p0), .second, .val (.long vlat), .second, .unset, .unset] [(.ref a37)])) _
        refine g_callV X79 hx hZ hown (by rw [hml]; rfl) e79 (K := "com/example/drongo/drongo/event/RotaryEvent") (hw _ (List.mem_of_getElem? (i := 39) rfl)) (hw _ (List.mem_of_getElem? (i := 40) rfl)) (hw _ (List.mem_of_getElem? (i := 42) rfl)) (hw _ (List.mem_of_getElem? (i := 41) rfl)) (hw _ (List.mem_of_getElem? (i := 14) rfl)) (hw _ (List.mem_of_getElem? (i := 43) rfl)) fx89 (rmL l Z a0 hw a37 h79 b59 [(.long p0)] (1 : Int32) 0 p0 rfl (by decide) rfl fx90 fx91) [] rfl [] rfl (lenOf pd_4 rfl) (hb hby at_211) (by decide) 0 (by decide) (by decide) (by first | decide | exact Nat.le_refl _) (by decide) (by decide) (fun v T95 L95 X95 hQ95 => ?_)
        obtain ⟨rfl, e95, rfl⟩ := hQ95
        have N96 := Fr.app N93 (Fr.nil h0.size)
        show Goes p.tables e below (T95.setTop (mkF m 214 #[.val (.long p0), .second, .val (.long p1), .second, .val (.long p2), .second, .val (.int p3), .val (.int p4), .val (.int (1 : Int32)), .val (.long p0), .second, .val (.long t1), .second, .val (.long t2), .second, .val (.ref a5), .val (.ref b2), .val (.int v35), .val (.ref b1), .val (.ref a37), .val (.long p0), .second, .val (.long vlat), .second, .unset, .unset] [(.long p0)])) _
        refine g_lstore X95 hx (hb hby at_214) (l' := #[.val (.long p0), .second, .val (.long p1), .second, .val (.long p2), .second, .val (.int p3), .val (.int p4), .val (.int (1 : Int32)), .val (.long p0), .second, .val (.long t1), .second, .val (.long t2), .second, .val (.ref a5), .val (.ref b2), .val (.int v35), .val (.ref b1), .val (.ref a37), .val (.long p0), .second, .val (.long vlat), .second, .val (.long p0), .second]) rfl ?_
        show Goes p.tables e below (T95.setTop (mkF m 216 #[.val (.long p0), .second, .val (.long p1), .second, .val (.long p2), .second, .val (.int p3), .val (.int p4), .val (.int (1 : Int32)), .val (.long p0), .second, .val (.long t1), .second, .val (.long t2), .second, .val (.ref a5), .val (.ref b2), .val (.int v35), .val (.ref b1), .val (.ref a37), .val (.long p0), .second, .val (.long vlat), .second, .val (.long p0), .second] [])) _
        refine g_lload X95 hx (hb hby at_216) rfl ?_
        show Goes p.tables e below (T95.setTop (mkF m 218 #[.val (.long p0), .second, .val (.long p1), .second, .val (.long p2), .second, .val (.int p3), .val (.int p4), .val (.int (1 : Int32)), .val (.long p0), .second, .val (.long t1), .second, .val (.long t2), .second, .val (.ref a5), .val (.ref b2), .val (.int v35), .val (.ref b1), .val (.ref a37), .val (.long p0), .second, .val (.long vlat), .second, .val (.long p0), .second] [(.long p0)])) _
        refine g_lload X95 hx (hb hby at_218) rfl ?_
        show Goes p.tables e below (T95.setTop (mkF m 220 #[.val (.long p0), .second, .val (.long p1), .second, .val (.long p2), .second, .val (.int p3), .val (.int p4), .val (.int (1 : Int32)), .val (.long p0), .second, .val (.long t1), .second, .val (.long t2), .second, .val (.ref a5), .val (.ref b2), .val (.int v35), .val (.ref b1), .val (.ref a37), .val (.long p0), .second, .val (.long vlat), .second, .val (.long p0), .second] [(.long p0), (.long p0)])) _
        refine g_lcmp X95 hx (hb hby at_220) ?_
        show Goes p.tables e below (T95.setTop (mkF m 221 #[.val (.long p0), .second, .val (.long p1), .second, .val (.long p2), .second, .val (.int p3), .val (.int p4), .val (.int (1 : Int32)), .val (.long p0), .second, .val (.long t1), .second, .val (.long t2), .second, .val (.ref a5), .val (.ref b2), .val (.int v35), .val (.ref b1), .val (.ref a37), .val (.long p0), .second, .val (.long vlat), .second, .val (.long p0), .second] [(.int (XT.cmpL p0 p0))])) _
        have c221 : p0 = p0 := rfl
        refine g_lif_ne X95 hx (hb hby at_221) (by decide) (pc' := 247) (by decide) (fun q => absurd c221 q) (fun _ => ?_)
        show Goes p.tables e below (T95.setTop (mkF m 224 #[.val (.long p0), .second, .val (.long p1), .second, .val (.long p2), .second, .val (.int p3), .val (.int p4), .val (.int (1 : Int32)), .val (.long p0), .second, .val (.long t1), .second, .val (.long t2), .second, .val (.ref a5), .val (.ref b2), .val (.int v35), .val (.ref b1), .val (.ref a37), .val (.long p0), .second, .val (.long vlat), .second, .val (.long p0), .second] [])) _
        refine g_lload X95 hx (hb hby at_224) rfl ?_
        show Goes p.tables e below (T95.setTop (mkF m 226 #[.val (.long p0), .second, .val (.long p1), .second, .val (.long p2), .second, .val (.int p3), .val (.int p4), .val (.int (1 : Int32)), .val (.long p0), .second, .val (.long t1), .second, .val (.long t2), .second, .val (.ref a5), .val (.ref b2), .val (.int v35), .val (.ref b1), .val (.ref a37), .val (.long p0), .second, .val (.long vlat), .second, .val (.long p0), .second] [(.long p0)])) _
        refine g_lload X95 hx (hb hby at_226) rfl ?_
        show Goes p.tables e below (T95.setTop (mkF m 228 #[.val (.long p0), .second, .val (.long p1), .second, .val (.long p2), .second, .val (.int p3), .val (.int p4), .val (.int (1 : Int32)), .val (.long p0), .second, .val (.long t1), .second, .val (.long t2), .second, .val (.ref a5), .val (.ref b2), .val (.int v35), .val (.ref b1), .val (.ref a37), .val (.long p0), .second, .val (.long vlat), .second, .val (.long p0), .second] [(.long vlat), (.long p0)])) _
        refine g_lcmp X95 hx (hb hby at_228) ?_
        show Goes p.tables e below (T95.setTop (mkF m 229 #[.val (.long p0), .second, .val (.long p1), .second, .val (.long p2), .second, .val (.int p3), .val (.int p4), .val (.int (1 : Int32)), .val (.long p0), .second, .val (.long t1), .second, .val (.long t2), .second, .val (.ref a5), .val (.ref b2), .val (.int v35), .val (.ref b1), .val (.ref a37), .val (.long p0), .second, .val (.long vlat), .second, .val (.long p0), .second] [(.int (XT.cmpL p0 vlat))])) _
        have c229 : p0 = vlat := (by rw [hvlat, own_max1, own_max1])
        refine g_lif_ne X95 hx (hb hby at_229) (by decide) (pc' := 247) (by decide) (fun q => absurd c229 q) (fun _ => ?_)
        show Goes p.tables e below (T95.setTop (mkF m 232 #[.val (.long p0), .second, .val (.long p1), .second, .val (.long p2), .second, .val (.int p3), .val (.int p4), .val (.int (1 : Int32)), .val (.long p0), .second, .val (.long t1), .second, .val (.long t2), .second, .val (.ref a5), .val (.ref b2), .val (.int v35), .val (.ref b1), .val (.ref a37), .val (.long p0), .second, .val (.long vlat), .second, .val (.long p0), .second] [])) _
        refine g_aload X95 hx (hb hby at_232) rfl rfl ?_
        show Goes p.tables e below (T95.setTop (mkF m 234 #[.val (.long p0), .second, .val (.long p1), .second, .val (.long p2), .second, .val (.int p3), .val (.int p4), .val (.int (1 : Int32)), .val (.long p0), .second, .val (.long t1), .second, .val (.long t2), .second, .val (.ref a5), .val (.ref b2), .val (.int v35), .val (.ref b1), .val (.ref a37), .val (.long p0), .second, .val (.long vlat), .second, .val (.long p0), .second] [(.ref a37)])) _
        refine g_callV X95 hx hZ hown (by rw [hml]; rfl) e95 (K := "com/example/drongo/drongo/event/RotaryEvent") (hw _ (List.mem_of_getElem? (i := 39) rfl)) (hw _ (List.mem_of_getElem? (i := 40) rfl)) (hw _ (List.mem_of_getElem? (i := 42) rfl)) (hw _ (List.mem_of_getElem? (i := 41) rfl)) (hw _ (List.mem_of_getElem? (i := 14) rfl)) (hw _ (List.mem_of_getElem? (i := 43) rfl)) fx89 (rmL l Z a0 hw a37 h79 b59 [(.long p0)] (1 : Int32) 0 p0 rfl (by decide) rfl fx90 fx91) [] rfl [] rfl (lenOf pd_4 rfl) (hb hby at_234) (by decide) 0 (by decide) (by decide) (by first | decide | exact Nat.le_refl _) (by decide) (by decide) (fun v T97 L97 X97 hQ97 => ?_)
        obtain ⟨rfl, e97, rfl⟩ := hQ97
        have N98 := Fr.app N96 (Fr.nil h0.size)
        show Goes p.tables e below (T97.setTop (mkF m 237 #[.val (.long p0), .second, .val (.long p1), .second, .val (.long p2), .second, .val (.int p3), .val (.int p4), .val (.int (1 : Int32)), .val (.long p0), .second, .val (.long t1), .second, .val (.long t2), .second, .val (.ref a5), .val (.ref b2), .val (.int v35), .val (.ref b1), .val (.ref a37), .val (.long p0), .second, .val (.long vlat), .second, .val (.long p0), .second] [(.long p0)])) _
        refine g_lload X97 hx (hb hby at_237) rfl ?_
        show Goes p.tables e below (T97.setTop (mkF m 239 #[.val (.long p0), .second, .val (.long p1), .second, .val (.long p2), .second, .val (.int p3), .val (.int p4), .val (.int (1 : Int32)), .val (.long p0), .second, .val (.long t1), .second, .val (.long t2), .second, .val (.ref a5), .val (.ref b2), .val (.int v35), .val (.ref b1), .val (.ref a37), .val (.long p0), .second, .val (.long vlat), .second, .val (.long p0), .second] [(.long p0), (.long p0)])) _
        refine g_lcmp X97 hx (hb hby at_239) ?_
        show Goes p.tables e below (T97.setTop (mkF m 240 #[.val (.long p0), .second, .val (.long p1), .second, .val (.long p2), .second, .val (.int p3), .val (.int p4), .val (.int (1 : Int32)), .val (.long p0), .second, .val (.long t1), .second, .val (.long t2), .second, .val (.ref a5), .val (.ref b2), .val (.int v35), .val (.ref b1), .val (.ref a37), .val (.long p0), .second, .val (.long vlat), .second, .val (.long p0), .second] [(.int (XT.cmpL p0 p0))])) _
        have c240 : p0 = p0 := rfl
        refine g_lif_ne X97 hx (hb hby at_240) (by decide) (pc' := 247) (by decide) (fun q => absurd c240 q) (fun _ => ?_)
        show Goes p.tables e below (T97.setTop (mkF m 243 #[.val (.long p0), .second, .val (.long p1), .second, .val (.long p2), .second, .val (.int p3), .val (.int p4), .val (.int (1 : Int32)), .val (.long p0), .second, .val (.long t1), .second, .val (.long t2), .second, .val (.ref a5), .val (.ref b2), .val (.int v35), .val (.ref b1), .val (.ref a37), .val (.long p0), .second, .val (.long vlat), .second, .val (.long p0), .second] [])) _
        refine g_iconst X97 hx (1 : Int32) (hb hby at_243) rfl ?_
        show Goes p.tables e below (T97.setTop (mkF m 244 #[.val (.long p0), .second, .val (.long p1), .second, .val (.long p2), .second, .val (.int p3), .val (.int p4), .val (.int (1 : Int32)), .val (.long p0), .second, .val (.long t1), .second, .val (.long t2), .second, .val (.ref a5), .val (.ref b2), .val (.int v35), .val (.ref b1), .val (.ref a37), .val (.long p0), .second, .val (.long vlat), .second, .val (.long p0), .second] [(.int (1 : Int32))])) _
        refine g_goto X97 hx (hb hby at_244) (by decide) (pc' := 248) (by decide) ?_
        show Goes p.tables e below (T97.setTop (mkF m 248 #[.val (.long p0), .second, .val (.long p1), .second, .val (.long p2), .second, .val (.int p3), .val (.int p4), .val (.int (1 : Int32)), .val (.long p0), .second, .val (.long t1), .second, .val (.long t2), .second, .val (.ref a5), .val (.ref b2), .val (.int v35), .val (.ref b1), .val (.ref a37), .val (.long p0), .second, .val (.long vlat), .second, .val (.long p0), .second] [(.int (1 : Int32))])) _
        exact g_retZ X97 hx (hz := (by decide)) hret hlk (hb hby at_248) (by decide) (by decide) ⟨rfl, N98⟩
      · skip
        show Goes p.tables e below (T34.setTop (mkF m 106 #[.val (.long p0), .second, .val (.long p1), .second, .val (.long p2), .second, .val (.int p3), .val (.int p4), .val (.int (1 : Int32)), .val (.long p0), .second, .val (.long t1), .second, .val (.long t2), .second, .val (.ref a5), .val (.ref b2), .val (.int v35), .unset, .unset, .unset, .unset, .unset, .unset, .unset, .unset] [])) _
        refine g_getS X34 hx hZ hown e34 (host := "") (Or.inl (hw _ (List.mem_of_getElem? (i := 46) rfl))) fx28 (hb hby at_106) (fun T99 X99 e99 => ?_)
        show Goes p.tables e below (T99.setTop (mkF m 109 #[.val (.long p0), .second, .val (.long p1), .second, .val (.long p2), .second, .val (.int p3), .val (.int p4), .val (.int (1 : Int32)), .val (.long p0), .second, .val (.long t1), .second, .val (.long t2), .second, .val (.ref a5), .val (.ref b2), .val (.int v35), .unset, .unset, .unset, .unset, .unset, .unset, .unset, .unset] [(.ref b3)])) _
        refine g_goto X99 hx (hb hby at_109) (by decide) (pc' := 115) (by decide) ?_
        show Goes p.tables e below (T99.setTop (mkF m 115 #[.val (.long p0), .second, .val (.long p1), .second, .val (.long p2), .second, .val (.int p3), .val (.int p4), .val (.int (1 : Int32)), .val (.long p0), .second, .val (.long t1), .second, .val (.long t2), .second, .val (.ref a5), .val (.ref b2), .val (.int v35), .unset, .unset, .unset, .unset, .unset, .unset, .unset, .unset] [(.ref b3)])) _
        refine g_astore X99 hx (hb hby at_115) rfl (l' := #[.val (.long p0), .second, .val (.long p1), .second, .val (.long p2), .second, .val (.int p3), .val (.int p4), .val (.int (1 : Int32)), .val (.long p0), .second, .val (.long t1), .second, .val (.long t2), .second, .val (.ref a5), .val (.ref b2), .val (.int v35), .val (.ref b3), .unset, .unset, .unset, .unset, .unset, .unset, .unset]) rfl ?_
        show Goes p.tables e below (T99.setTop (mkF m 117 #[.val (.long p0), .second, .val (.long p1), .second, .val (.long p2), .second, .val (.int p3), .val (.int p4), .val (.int (1 : Int32)), .val (.long p0), .second, .val (.long t1), .second, .val (.long t2), .second, .val (.ref a5), .val (.ref b2), .val (.int v35), .val (.ref b3), .unset, .unset, .unset, .unset, .unset, .unset, .unset] [])) _
        refine g_new X99 hx hZ hown e99 (hw _ (List.mem_of_getElem? (i := 12) rfl)) (hw _ (List.mem_of_getElem? (i := 13) rfl)) (hw _ (List.mem_of_getElem? (i := 14) rfl)) (hb hby at_117) (by decide) (by decide) (fun T100 h100 a100 ga100 X100 e100 Ex100 Ea100 Df100 => ?_)
        have ne101 : b0 ≠ a100 := Nat.ne_of_lt (by rw [ga100]; exact fx23.lt)
        have ne102 : b1 ≠ a100 := Nat.ne_of_lt (by rw [ga100]; exact fx25.lt)
        have ne103 : b2 ≠ a100 := Nat.ne_of_lt (by rw [ga100]; exact fx27.lt)
        have ne104 : b3 ≠ a100 := Nat.ne_of_lt (by rw [ga100]; exact fx29.lt)
        have ne105 : a5 ≠ a100 := Nat.ne_of_lt (by rw [ga100]; exact fx30.lt)
        have ge106 : h0.size ≤ a100 := by rw [ga100]; exact Z33
        have fx107 : Sta Z h100 "com/example/drongo/drongo/event/RotaryEvent$Knob" "NAVIGATION" "Lcom/example/drongo/drongo/event/RotaryEvent$Knob;" (.ref b0) := Sta.ext Ex100 fx22
        have fx108 : Exa Z h100 b0 "com/example/drongo/drongo/event/RotaryEvent$Knob" := Exa.ext Ex100 fx23
        have fx109 : Sta Z h100 "com/example/drongo/drongo/event/Display" "CLUSTER" "Lcom/example/drongo/drongo/event/Display;" (.ref b1) := Sta.ext Ex100 fx24
        have fx110 : Exa Z h100 b1 "com/example/drongo/drongo/event/Display" := Exa.ext Ex100 fx25
        have fx111 : Sta Z h100 "com/example/drongo/drongo/event/RotaryEvent$Knob" "VOLUME" "Lcom/example/drongo/drongo/event/RotaryEvent$Knob;" (.ref b2) := Sta.ext Ex100 fx26
        have fx112 : Exa Z h100 b2 "com/example/drongo/drongo/event/RotaryEvent$Knob" := Exa.ext Ex100 fx27
        have fx113 : Sta Z h100 "com/example/drongo/drongo/event/Display" "MAIN" "Lcom/example/drongo/drongo/event/Display;" (.ref b3) := Sta.ext Ex100 fx28
        have fx114 : Exa Z h100 b3 "com/example/drongo/drongo/event/Display" := Exa.ext Ex100 fx29
        have fx115 : Exa Z h100 a5 "[J" := Exa.ext Ex100 fx30
        have fx116 : Ar Z h100 a5 .long [(.long p0)] := Ar.ext fx31 Ex100
        have Z117 : h0.size ≤ h100.size := Nat.le_trans Z33 Ex100.1
        have fx118 : Fld Z h100 a100 "com/example/drongo/drongo/event/RotaryEvent" "knob" "Lcom/example/drongo/drongo/event/RotaryEvent$Knob;" .null := Df100 (Or.inr (hw _ (List.mem_of_getElem? (i := 22) rfl))) (ty := (.object "com/example/drongo/drongo/event/RotaryEvent$Knob")) (by decide)
        have fx119 : Fld Z h100 a100 "com/example/drongo/drongo/event/RotaryEvent" "clockwise" "Z" (.int (0 : Int32)) := Df100 (Or.inr (hw _ (List.mem_of_getElem? (i := 24) rfl))) (ty := .boolean) (by decide)
        have fx120 : Fld Z h100 a100 "com/example/drongo/drongo/event/RotaryEvent" "display" "Lcom/example/drongo/drongo/event/Display;" .null := Df100 (Or.inr (hw _ (List.mem_of_getElem? (i := 26) rfl))) (ty := (.object "com/example/drongo/drongo/event/Display")) (by decide)
        have fx121 : Fld Z h100 a100 "com/example/drongo/drongo/event/RotaryEvent" "timesMillis" "[J" .null := Df100 (Or.inr (hw _ (List.mem_of_getElem? (i := 37) rfl))) (ty := (.array .long)) (by decide)
        show Goes p.tables e below (T100.setTop (mkF m 120 #[.val (.long p0), .second, .val (.long p1), .second, .val (.long p2), .second, .val (.int p3), .val (.int p4), .val (.int (1 : Int32)), .val (.long p0), .second, .val (.long t1), .second, .val (.long t2), .second, .val (.ref a5), .val (.ref b2), .val (.int v35), .val (.ref b3), .unset, .unset, .unset, .unset, .unset, .unset, .unset] [(.ref a100)])) _
        refine g_dup X100 hx (hb hby at_120) rfl ?_
        show Goes p.tables e below (T100.setTop (mkF m 121 #[.val (.long p0), .second, .val (.long p1), .second, .val (.long p2), .second, .val (.int p3), .val (.int p4), .val (.int (1 : Int32)), .val (.long p0), .second, .val (.long t1), .second, .val (.long t2), .second, .val (.ref a5), .val (.ref b2), .val (.int v35), .val (.ref b3), .unset, .unset, .unset, .unset, .unset, .unset, .unset] [(.ref a100), (.ref a100)])) _
        refine g_aload X100 hx (hb hby at_121) rfl rfl ?_
        show Goes p.tables e below (T100.setTop (mkF m 123 #[.val (.long p0), .second, .val (.long p1), .second, .val (.long p2), .second, .val (.int p3), .val (.int p4), .val (.int (1 : Int32)), .val (.long p0), .second, .val (.long t1), .second, .val (.long t2), .second, .val (.ref a5), .val (.ref b2), .val (.int v35), .val (.ref b3), .unset, .unset, .unset, .unset, .unset, .unset, .unset] [(.ref b2), (.ref a100), (.ref a100)])) _
        refine g_iload X100 hx (hb hby at_123) rfl ?_
        show Goes p.tables e below (T100.setTop (mkF m 125 #[.val (.long p0), .second, .val (.long p1), .second, .val (.long p2), .second, .val (.int p3), .val (.int p4), .val (.int (1 : Int32)), .val (.long p0), .second, .val (.long t1), .second, .val (.long t2), .second, .val (.ref a5), .val (.ref b2), .val (.int v35), .val (.ref b3), .unset, .unset, .unset, .unset, .unset, .unset, .unset] [(.int v35), (.ref b2), (.ref a100), (.ref a100)])) _
        refine g_aload X100 hx (hb hby at_125) rfl rfl ?_
        show Goes p.tables e below (T100.setTop (mkF m 127 #[.val (.long p0), .second, .val (.long p1), .second, .val (.long p2), .second, .val (.int p3), .val (.int p4), .val (.int (1 : Int32)), .val (.long p0), .second, .val (.long t1), .second, .val (.long t2), .second, .val (.ref a5), .val (.ref b2), .val (.int v35), .val (.ref b3), .unset, .unset, .unset, .unset, .unset, .unset, .unset] [(.ref b3), (.int v35), (.ref b2), (.ref a100), (.ref a100)])) _
        refine g_aload X100 hx (hb hby at_127) rfl rfl ?_
        show Goes p.tables e below (T100.setTop (mkF m 129 #[.val (.long p0), .second, .val (.long p1), .second, .val (.long p2), .second, .val (.int p3), .val (.int p4), .val (.int (1 : Int32)), .val (.long p0), .second, .val (.long t1), .second, .val (.long t2), .second, .val (.ref a5), .val (.ref b2), .val (.int v35), .val (.ref b3), .unset, .unset, .unset, .unset, .unset, .unset, .unset] [(.ref a5), (.ref b3), (.int v35), (.ref b2), (.ref a100), (.ref a100)])) _
        have lta := fx116.lt
        have ltb := Ea100.lt
        refine g_callI X100 hx hZ hown (by rw [hml]; rfl) e100 rfl (hw _ (List.mem_of_getElem? (i := 15) rfl)) (hw _ (List.mem_of_getElem? (i := 16) rfl)) (hw _ (List.mem_of_getElem? (i := 14) rfl)) (hw _ (List.mem_of_getElem? (i := 17) rfl)) (rmI l Z a0 hw a100 b2 v35 b3 a5 h100 h0.size Z117 [(.long p0)] (by simp) fx118 fx119 fx120 fx121 Ea100 fx116 fx115 ge106 ne105) a100 [(.ref b2), (.int v35), (.ref b3), (.ref a5)] rfl [(.ref a100)] rfl (lenOf pd_2 rfl) (hb hby at_129) (by decide) 1 (by decide) (by decide) (by first | decide | exact Nat.le_refl _) (by decide) (by decide) (fun v T122 L122 X122 hQ122 => ?_)
        obtain ⟨rfl, Nc122, Kc122, b122, gb122, hb122, fT122, Ab122⟩ := hQ122
        have fx123 : Sta Z T122.heap "com/example/drongo/drongo/event/RotaryEvent$Knob" "NAVIGATION" "Lcom/example/drongo/drongo/event/RotaryEvent$Knob;" (.ref b0) := own_stakeep fx107 Kc122 (allS (own_nst Ea100) all0)
        have fx124 : Exa Z T122.heap b0 "com/example/drongo/drongo/event/RotaryEvent$Knob" := Exa.keep fx108 Kc122
        have fx125 : Sta Z T122.heap "com/example/drongo/drongo/event/Display" "CLUSTER" "Lcom/example/drongo/drongo/event/Display;" (.ref b1) := own_stakeep fx109 Kc122 (allS (own_nst Ea100) all0)
        have fx126 : Exa Z T122.heap b1 "com/example/drongo/drongo/event/Display" := Exa.keep fx110 Kc122
        have fx127 : Sta Z T122.heap "com/example/drongo/drongo/event/RotaryEvent$Knob" "VOLUME" "Lcom/example/drongo/drongo/event/RotaryEvent$Knob;" (.ref b2) := own_stakeep fx111 Kc122 (allS (own_nst Ea100) all0)
        have fx128 : Exa Z T122.heap b2 "com/example/drongo/drongo/event/RotaryEvent$Knob" := Exa.keep fx112 Kc122
        have fx129 : Sta Z T122.heap "com/example/drongo/drongo/event/Display" "MAIN" "Lcom/example/drongo/drongo/event/Display;" (.ref b3) := own_stakeep fx113 Kc122 (allS (own_nst Ea100) all0)
        have fx130 : Exa Z T122.heap b3 "com/example/drongo/drongo/event/Display" := Exa.keep fx114 Kc122
        have fx131 : Exa Z T122.heap a5 "[J" := Exa.keep fx115 Kc122
        have fx132 : Ar Z T122.heap a5 .long [(.long p0)] := Ar.keep fx116 Kc122 (ninS ne105 nin0)
        have fx133 : Exa Z T122.heap a100 "com/example/drongo/drongo/event/RotaryEvent" := Exa.keep Ea100 Kc122
        have N134 := Fr.app N32 Nc122
        have Z135 : h0.size ≤ T122.heap.size := Nat.le_trans Z117 Kc122.1
        have ne136 : a5 ≠ b122 := Nat.ne_of_lt (Nat.lt_of_lt_of_le lta hb122)
        have ne137 : a100 ≠ b122 := Nat.ne_of_lt (Nat.lt_of_lt_of_le ltb hb122)
        show Goes p.tables e below (T122.setTop (mkF m 132 #[.val (.long p0), .second, .val (.long p1), .second, .val (.long p2), .second, .val (.int p3), .val (.int p4), .val (.int (1 : Int32)), .val (.long p0), .second, .val (.long t1), .second, .val (.long t2), .second, .val (.ref a5), .val (.ref b2), .val (.int v35), .val (.ref b3), .unset, .unset, .unset, .unset, .unset, .unset, .unset] [(.ref a100)])) _
        refine g_astore X122 hx (hb hby at_132) rfl (l' := #[.val (.long p0), .second, .val (.long p1), .second, .val (.long p2), .second, .val (.int p3), .val (.int p4), .val (.int (1 : Int32)), .val (.long p0), .second, .val (.long t1), .second, .val (.long t2), .second, .val (.ref a5), .val (.ref b2), .val (.int v35), .val (.ref b3), .val (.ref a100), .unset, .unset, .unset, .unset, .unset, .unset]) rfl ?_
        show Goes p.tables e below (T122.setTop (mkF m 134 #[.val (.long p0), .second, .val (.long p1), .second, .val (.long p2), .second, .val (.int p3), .val (.int p4), .val (.int (1 : Int32)), .val (.long p0), .second, .val (.long t1), .second, .val (.long t2), .second, .val (.ref a5), .val (.ref b2), .val (.int v35), .val (.ref b3), .val (.ref a100), .unset, .unset, .unset, .unset, .unset, .unset] [])) _
        refine g_iload X122 hx (hb hby at_134) rfl ?_
        show Goes p.tables e below (T122.setTop (mkF m 136 #[.val (.long p0), .second, .val (.long p1), .second, .val (.long p2), .second, .val (.int p3), .val (.int p4), .val (.int (1 : Int32)), .val (.long p0), .second, .val (.long t1), .second, .val (.long t2), .second, .val (.ref a5), .val (.ref b2), .val (.int v35), .val (.ref b3), .val (.ref a100), .unset, .unset, .unset, .unset, .unset, .unset] [(.int (1 : Int32))])) _
        refine g_iconst X122 hx (1 : Int32) (hb hby at_136) rfl ?_
        show Goes p.tables e below (T122.setTop (mkF m 137 #[.val (.long p0), .second, .val (.long p1), .second, .val (.long p2), .second, .val (.int p3), .val (.int p4), .val (.int (1 : Int32)), .val (.long p0), .second, .val (.long t1), .second, .val (.long t2), .second, .val (.ref a5), .val (.ref b2), .val (.int v35), .val (.ref b3), .val (.ref a100), .unset, .unset, .unset, .unset, .unset, .unset] [(.int (1 : Int32)), (.int (1 : Int32))])) _
        refine g_icmp_ne X122 hx (hb hby at_137) (by decide) (pc' := 145) (by decide) (fun q => absurd (by decide) q) (fun _ => ?_)
        show Goes p.tables e below (T122.setTop (mkF m 140 #[.val (.long p0), .second, .val (.long p1), .second, .val (.long p2), .second, .val (.int p3), .val (.int p4), .val (.int (1 : Int32)), .val (.long p0), .second, .val (.long t1), .second, .val (.long t2), .second, .val (.ref a5), .val (.ref b2), .val (.int v35), .val (.ref b3), .val (.ref a100), .unset, .unset, .unset, .unset, .unset, .unset] [])) _
        refine g_lload X122 hx (hb hby at_140) rfl ?_
        show Goes p.tables e below (T122.setTop (mkF m 142 #[.val (.long p0), .second, .val (.long p1), .second, .val (.long p2), .second, .val (.int p3), .val (.int p4), .val (.int (1 : Int32)), .val (.long p0), .second, .val (.long t1), .second, .val (.long t2), .second, .val (.ref a5), .val (.ref b2), .val (.int v35), .val (.ref b3), .val (.ref a100), .unset, .unset, .unset, .unset, .unset, .unset] [(.long p0)])) _
        refine g_goto X122 hx (hb hby at_142) (by decide) (pc' := 158) (by decide) ?_
        show Goes p.tables e below (T122.setTop (mkF m 158 #[.val (.long p0), .second, .val (.long p1), .second, .val (.long p2), .second, .val (.int p3), .val (.int p4), .val (.int (1 : Int32)), .val (.long p0), .second, .val (.long t1), .second, .val (.long t2), .second, .val (.ref a5), .val (.ref b2), .val (.int v35), .val (.ref b3), .val (.ref a100), .unset, .unset, .unset, .unset, .unset, .unset] [(.long p0)])) _
        refine g_lstore X122 hx (hb hby at_158) (l' := #[.val (.long p0), .second, .val (.long p1), .second, .val (.long p2), .second, .val (.int p3), .val (.int p4), .val (.int (1 : Int32)), .val (.long p0), .second, .val (.long t1), .second, .val (.long t2), .second, .val (.ref a5), .val (.ref b2), .val (.int v35), .val (.ref b3), .val (.ref a100), .val (.long p0), .second, .unset, .unset, .unset, .unset]) rfl ?_
        show Goes p.tables e below (T122.setTop (mkF m 160 #[.val (.long p0), .second, .val (.long p1), .second, .val (.long p2), .second, .val (.int p3), .val (.int p4), .val (.int (1 : Int32)), .val (.long p0), .second, .val (.long t1), .second, .val (.long t2), .second, .val (.ref a5), .val (.ref b2), .val (.int v35), .val (.ref b3), .val (.ref a100), .val (.long p0), .second, .unset, .unset, .unset, .unset] [])) _
        refine g_lload X122 hx (hb hby at_160) rfl ?_
        show Goes p.tables e below (T122.setTop (mkF m 162 #[.val (.long p0), .second, .val (.long p1), .second, .val (.long p2), .second, .val (.int p3), .val (.int p4), .val (.int (1 : Int32)), .val (.long p0), .second, .val (.long t1), .second, .val (.long t2), .second, .val (.ref a5), .val (.ref b2), .val (.int v35), .val (.ref b3), .val (.ref a100), .val (.long p0), .second, .unset, .unset, .unset, .unset] [(.long p0)])) _
        refine g_iload X122 hx (hb hby at_162) rfl ?_
        show Goes p.tables e below (T122.setTop (mkF m 164 #[.val (.long p0), .second, .val (.long p1), .second, .val (.long p2), .second, .val (.int p3), .val (.int p4), .val (.int (1 : Int32)), .val (.long p0), .second, .val (.long t1), .second, .val (.long t2), .second, .val (.ref a5), .val (.ref b2), .val (.int v35), .val (.ref b3), .val (.ref a100), .val (.long p0), .second, .unset, .unset, .unset, .unset] [(.int (1 : Int32)), (.long p0)])) _
        refine g_iconst X122 hx (1 : Int32) (hb hby at_164) rfl ?_
        show Goes p.tables e below (T122.setTop (mkF m 165 #[.val (.long p0), .second, .val (.long p1), .second, .val (.long p2), .second, .val (.int p3), .val (.int p4), .val (.int (1 : Int32)), .val (.long p0), .second, .val (.long t1), .second, .val (.long t2), .second, .val (.ref a5), .val (.ref b2), .val (.int v35), .val (.ref b3), .val (.ref a100), .val (.long p0), .second, .unset, .unset, .unset, .unset] [(.int (1 : Int32)), (.int (1 : Int32)), (.long p0)])) _
        refine g_icmp_le X122 hx (hb hby at_165) (by decide) (pc' := 173) (by decide) (fun _ => ?_) (fun q => absurd q (by decide))
        show Goes p.tables e below (T122.setTop (mkF m 173 #[.val (.long p0), .second, .val (.long p1), .second, .val (.long p2), .second, .val (.int p3), .val (.int p4), .val (.int (1 : Int32)), .val (.long p0), .second, .val (.long t1), .second, .val (.long t2), .second, .val (.ref a5), .val (.ref b2), .val (.int v35), .val (.ref b3), .val (.ref a100), .val (.long p0), .second, .unset, .unset, .unset, .unset] [(.long p0)])) _
        refine g_lload X122 hx (hb hby at_173) rfl ?_
        show Goes p.tables e below (T122.setTop (mkF m 175 #[.val (.long p0), .second, .val (.long p1), .second, .val (.long p2), .second, .val (.int p3), .val (.int p4), .val (.int (1 : Int32)), .val (.long p0), .second, .val (.long t1), .second, .val (.long t2), .second, .val (.ref a5), .val (.ref b2), .val (.int v35), .val (.ref b3), .val (.ref a100), .val (.long p0), .second, .unset, .unset, .unset, .unset] [(.long p0), (.long p0)])) _
        refine g_iload X122 hx (hb hby at_175) rfl ?_
        show Goes p.tables e below (T122.setTop (mkF m 177 #[.val (.long p0), .second, .val (.long p1), .second, .val (.long p2), .second, .val (.int p3), .val (.int p4), .val (.int (1 : Int32)), .val (.long p0), .second, .val (.long t1), .second, .val (.long t2), .second, .val (.ref a5), .val (.ref b2), .val (.int v35), .val (.ref b3), .val (.ref a100), .val (.long p0), .second, .unset, .unset, .unset, .unset] [(.int (1 : Int32)), (.long p0), (.long p0)])) _
        refine g_iconst X122 hx (2 : Int32) (hb hby at_177) rfl ?_
        show Goes p.tables e below (T122.setTop (mkF m 178 #[.val (.long p0), .second, .val (.long p1), .second, .val (.long p2), .second, .val (.int p3), .val (.int p4), .val (.int (1 : Int32)), .val (.long p0), .second, .val (.long t1), .second, .val (.long t2), .second, .val (.ref a5), .val (.ref b2), .val (.int v35), .val (.ref b3), .val (.ref a100), .val (.long p0), .second, .unset, .unset, .unset, .unset] [(.int (2 : Int32)), (.int (1 : Int32)), (.long p0), (.long p0)])) _
        refine g_icmp_le X122 hx (hb hby at_178) (by decide) (pc' := 186) (by decide) (fun _ => ?_) (fun q => absurd q (by decide))
        show Goes p.tables e below (T122.setTop (mkF m 186 #[.val (.long p0), .second, .val (.long p1), .second, .val (.long p2), .second, .val (.int p3), .val (.int p4), .val (.int (1 : Int32)), .val (.long p0), .second, .val (.long t1), .second, .val (.long t2), .second, .val (.ref a5), .val (.ref b2), .val (.int v35), .val (.ref b3), .val (.ref a100), .val (.long p0), .second, .unset, .unset, .unset, .unset] [(.long p0), (.long p0)])) _
        refine g_lload X122 hx (hb hby at_186) rfl ?_
        show Goes p.tables e below (T122.setTop (mkF m 188 #[.val (.long p0), .second, .val (.long p1), .second, .val (.long p2), .second, .val (.int p3), .val (.int p4), .val (.int (1 : Int32)), .val (.long p0), .second, .val (.long t1), .second, .val (.long t2), .second, .val (.ref a5), .val (.ref b2), .val (.int v35), .val (.ref b3), .val (.ref a100), .val (.long p0), .second, .unset, .unset, .unset, .unset] [(.long p0), (.long p0), (.long p0)])) _
        refine g_callS X122 hx hZ hown (by rw [hml]; rfl) rfl (hw _ (List.mem_of_getElem? (i := 1) rfl)) (hw _ (List.mem_of_getElem? (i := 2) rfl)) (hw _ (List.mem_of_getElem? (i := 3) rfl)) (hw _ (List.mem_of_getElem? (i := 4) rfl)) (rmX l Z a0 hw p0 p0 T122.heap) [(.long p0), (.long p0)] rfl [(.long p0)] rfl (lenOf pd_1 rfl) (hb hby at_188) (by decide) 2 (by decide) (by decide) (by first | decide | exact Nat.le_refl _) (by decide) (by decide) (fun v T138 L138 X138 hQ138 => ?_)
        obtain ⟨rfl, e138, rfl⟩ := hQ138
        have N139 := Fr.app N134 (Fr.nil h0.size)
        show Goes p.tables e below (T138.setTop (mkF m 191 #[.val (.long p0), .second, .val (.long p1), .second, .val (.long p2), .second, .val (.int p3), .val (.int p4), .val (.int (1 : Int32)), .val (.long p0), .second, .val (.long t1), .second, .val (.long t2), .second, .val (.ref a5), .val (.ref b2), .val (.int v35), .val (.ref b3), .val (.ref a100), .val (.long p0), .second, .unset, .unset, .unset, .unset] [(.long (maxV p0 p0)), (.long p0)])) _
        refine g_callS X138 hx hZ hown (by rw [hml]; rfl) e138 (hw _ (List.mem_of_getElem? (i := 1) rfl)) (hw _ (List.mem_of_getElem? (i := 2) rfl)) (hw _ (List.mem_of_getElem? (i := 3) rfl)) (hw _ (List.mem_of_getElem? (i := 4) rfl)) (rmX l Z a0 hw p0 (maxV p0 p0) T122.heap) [(.long p0), (.long (maxV p0 p0))] rfl [] rfl (lenOf pd_1 rfl) (hb hby at_191) (by decide) 0 (by decide) (by decide) (by first | decide | exact Nat.le_refl _) (by decide) (by decide) (fun v T140 L140 X140 hQ140 => ?_)
        obtain ⟨rfl, e140, rfl⟩ := hQ140
        have N141 := Fr.app N139 (Fr.nil h0.size)
        show Goes p.tables e below (T140.setTop (mkF m 194 #[.val (.long p0), .second, .val (.long p1), .second, .val (.long p2), .second, .val (.int p3), .val (.int p4), .val (.int (1 : Int32)), .val (.long p0), .second, .val (.long t1), .second, .val (.long t2), .second, .val (.ref a5), .val (.ref b2), .val (.int v35), .val (.ref b3), .val (.ref a100), .val (.long p0), .second, .unset, .unset, .unset, .unset] [(.long (maxV p0 (maxV p0 p0)))])) _
        obtain ⟨vlat, hvlat⟩ : ∃ z : Int64, z = (maxV p0 (maxV p0 p0)) := ⟨_, rfl⟩
        refine g_nameL hvlat ?_
        show Goes p.tables e below (T140.setTop (mkF m 194 #[.val (.long p0), .second, .val (.long p1), .second, .val (.long p2), .second, .val (.int p3), .val (.int p4), .val (.int (1 : Int32)), .val (.long p0), .second, .val (.long t1), .second, .val (.long t2), .second, .val (.ref a5), .val (.ref b2), .val (.int v35), .val (.ref b3), .val (.ref a100), .val (.long p0), .second, .unset, .unset, .unset, .unset] [(.long vlat)])) _
        refine g_lstore X140 hx (hb hby at_194) (l' := #[.val (.long p0), .second, .val (.long p1), .second, .val (.long p2), .second, .val (.int p3), .val (.int p4), .val (.int (1 : Int32)), .val (.long p0), .second, .val (.long t1), .second, .val (.long t2), .second, .val (.ref a5), .val (.ref b2), .val (.int v35), .val (.ref b3), .val (.ref a100), .val (.long p0), .second, .val (.long vlat), .second, .unset, .unset]) rfl ?_
        show Goes p.tables e below (T140.setTop (mkF m 196 #[.val (.long p0), .second, .val (.long p1), .second, .val (.long p2), .second, .val (.int p3), .val (.int p4), .val (.int (1 : Int32)), .val (.long p0), .second, .val (.long t1), .second, .val (.long t2), .second, .val (.ref a5), .val (.ref b2), .val (.int v35), .val (.ref b3), .val (.ref a100), .val (.long p0), .second, .val (.long vlat), .second, .unset, .unset] [])) _
        refine g_aload X140 hx (hb hby at_196) rfl rfl ?_
        show Goes p.tables e below (T140.setTop (mkF m 198 #[.val (.long p0), .second, .val (.long p1), .second, .val (.long p2), .second, .val (.int p3), .val (.int p4), .val (.int (1 : Int32)), .val (.long p0), .second, .val (.long t1), .second, .val (.long t2), .second, .val (.ref a5), .val (.ref b2), .val (.int v35), .val (.ref b3), .val (.ref a100), .val (.long p0), .second, .val (.long vlat), .second, .unset, .unset] [(.ref a5)])) _
        refine g_iload X140 hx (hb hby at_198) rfl ?_
        show Goes p.tables e below (T140.setTop (mkF m 200 #[.val (.long p0), .second, .val (.long p1), .second, .val (.long p2), .second, .val (.int p3), .val (.int p4), .val (.int (1 : Int32)), .val (.long p0), .second, .val (.long t1), .second, .val (.long t2), .second, .val (.ref a5), .val (.ref b2), .val (.int v35), .val (.ref b3), .val (.ref a100), .val (.long p0), .second, .val (.long vlat), .second, .unset, .unset] [(.int (1 : Int32)), (.ref a5)])) _
        refine g_iconst X140 hx (1 : Int32) (hb hby at_200) rfl ?_
        show Goes p.tables e below (T140.setTop (mkF m 201 #[.val (.long p0), .second, .val (.long p1), .second, .val (.long p2), .second, .val (.int p3), .val (.int p4), .val (.int (1 : Int32)), .val (.long p0), .second, .val (.long t1), .second, .val (.long t2), .second, .val (.ref a5), .val (.ref b2), .val (.int v35), .val (.ref b3), .val (.ref a100), .val (.long p0), .second, .val (.long vlat), .second, .unset, .unset] [(.int (1 : Int32)), (.int (1 : Int32)), (.ref a5)])) _
        refine g_isub X140 hx (hb hby at_201) ?_
        show Goes p.tables e below (T140.setTop (mkF m 202 #[.val (.long p0), .second, .val (.long p1), .second, .val (.long p2), .second, .val (.int p3), .val (.int p4), .val (.int (1 : Int32)), .val (.long p0), .second, .val (.long t1), .second, .val (.long t2), .second, .val (.ref a5), .val (.ref b2), .val (.int v35), .val (.ref b3), .val (.ref a100), .val (.long p0), .second, .val (.long vlat), .second, .unset, .unset] [(.int ((1 : Int32) - (1 : Int32))), (.ref a5)])) _
        refine g_lload X140 hx (hb hby at_202) rfl ?_
        show Goes p.tables e below (T140.setTop (mkF m 204 #[.val (.long p0), .second, .val (.long p1), .second, .val (.long p2), .second, .val (.int p3), .val (.int p4), .val (.int (1 : Int32)), .val (.long p0), .second, .val (.long t1), .second, .val (.long t2), .second, .val (.ref a5), .val (.ref b2), .val (.int v35), .val (.ref b3), .val (.ref a100), .val (.long p0), .second, .val (.long vlat), .second, .unset, .unset] [(.long p0), (.int ((1 : Int32) - (1 : Int32))), (.ref a5)])) _
        refine g_ldc2 X140 hx hZ hown (hw _ (List.mem_of_getElem? (i := 38) rfl)) (hb hby at_204) ?_
        show Goes p.tables e below (T140.setTop (mkF m 207 #[.val (.long p0), .second, .val (.long p1), .second, .val (.long p2), .second, .val (.int p3), .val (.int p4), .val (.int (1 : Int32)), .val (.long p0), .second, .val (.long t1), .second, .val (.long t2), .second, .val (.ref a5), .val (.ref b2), .val (.int v35), .val (.ref b3), .val (.ref a100), .val (.long p0), .second, .val (.long vlat), .second, .unset, .unset] [(.long (-1 : Int64)), (.long p0), (.int ((1 : Int32) - (1 : Int32))), (.ref a5)])) _
        refine g_lxor X140 hx (hb hby at_207) ?_
        show Goes p.tables e below (T140.setTop (mkF m 208 #[.val (.long p0), .second, .val (.long p1), .second, .val (.long p2), .second, .val (.int p3), .val (.int p4), .val (.int (1 : Int32)), .val (.long p0), .second, .val (.long t1), .second, .val (.long t2), .second, .val (.ref a5), .val (.ref b2), .val (.int v35), .val (.ref b3), .val (.ref a100), .val (.long p0), .second, .val (.long vlat), .second, .unset, .unset] [(.long (p0 ^^^ (-1 : Int64))), (.int ((1 : Int32) - (1 : Int32))), (.ref a5)])) _
        refine g_lastore X140 hx hZ e140 fx132 0 (by decide) (by simp) (hb hby at_208) (fun T142 h142 X142 e142 W142 A142 => ?_)
        have fx143 : Sta Z h142 "com/example/drongo/drongo/event/RotaryEvent$Knob" "NAVIGATION" "Lcom/example/drongo/drongo/event/RotaryEvent$Knob;" (.ref b0) := Sta.wr W142 fx123
        have fx144 : Exa Z h142 b0 "com/example/drongo/drongo/event/RotaryEvent$Knob" := Exa.wr W142 fx124
        have fx145 : Sta Z h142 "com/example/drongo/drongo/event/Display" "CLUSTER" "Lcom/example/drongo/drongo/event/Display;" (.ref b1) := Sta.wr W142 fx125
        have fx146 : Exa Z h142 b1 "com/example/drongo/drongo/event/Display" := Exa.wr W142 fx126
        have fx147 : Sta Z h142 "com/example/drongo/drongo/event/RotaryEvent$Knob" "VOLUME" "Lcom/example/drongo/drongo/event/RotaryEvent$Knob;" (.ref b2) := Sta.wr W142 fx127
        have fx148 : Exa Z h142 b2 "com/example/drongo/drongo/event/RotaryEvent$Knob" := Exa.wr W142 fx128
        have fx149 : Sta Z h142 "com/example/drongo/drongo/event/Display" "MAIN" "Lcom/example/drongo/drongo/event/Display;" (.ref b3) := Sta.wr W142 fx129
        have fx150 : Exa Z h142 b3 "com/example/drongo/drongo/event/Display" := Exa.wr W142 fx130
        have fx151 : Exa Z h142 a5 "[J" := Exa.wr W142 fx131
        have fx152 : Exa Z h142 a100 "com/example/drongo/drongo/event/RotaryEvent" := Exa.wr W142 fx133
        have fx153 : Fld Z h142 a100 "com/example/drongo/drongo/event/RotaryEvent" "timesMillis" "[J" (.ref b122) := Fld.other W142 fT122 (Or.inl (Ne.symm ne105))
        have fx154 : Ar Z h142 b122 .long [(.long p0)] := Ar.other Ab122 W142 (Ne.symm ne136)
        have fx155 : Ar Z h142 a5 .long (List.set [(.long p0)] 0 (.long (p0 ^^^ (-1 : Int64)))) := A142
        have N156 := Fr.snoc X142 N141 ge10
        have Z157 : h0.size ≤ h142.size := by rw [W142.size]; exact Z135
        show Goes p.tables e below (T142.setTop (mkF m 209 #[.val (.long p0), .second, .val (.long p1), .second, .val (.long p2), .second, .val (.int p3), .val (.int p4), .val (.int (1 : Int32)), .val (.long p0), .second, .val (.long t1), .second, .val (.long t2), .second, .val (.ref a5), .val (.ref b2), .val (.int v35), .val (.ref b3), .val (.ref a100), .val (.long p0), .second, .val (.long vlat), .second, .unset, .unset] [])) _
        refine g_aload X142 hx (hb hby at_209) rfl rfl ?_
        show Goes p.tables e below (T142.setTop (mkF m 211 #[.val (.long p0), .second, .val (.long p1), .second, .val (.long p2), .second, .val (.int p3), .val (.int p4), .val (.int (1 : Int32)), .val (.long p0), .second, .val (.long t1), .second, .val (.long t2), .second, .val (.ref a5), .val (.ref b2), .val (.int v35), .val (.ref b3), .val (.ref a100), .val (.long p0), .second, .val (.long vlat), .second, .unset, .unset] [(.ref a100)])) _
        refine g_callV X142 hx hZ hown (by rw [hml]; rfl) e142 (K := "com/example/drongo/drongo/event/RotaryEvent") (hw _ (List.mem_of_getElem? (i := 39) rfl)) (hw _ (List.mem_of_getElem? (i := 40) rfl)) (hw _ (List.mem_of_getElem? (i := 42) rfl)) (hw _ (List.mem_of_getElem? (i := 41) rfl)) (hw _ (List.mem_of_getElem? (i := 14) rfl)) (hw _ (List.mem_of_getElem? (i := 43) rfl)) fx152 (rmL l Z a0 hw a100 h142 b122 [(.long p0)] (1 : Int32) 0 p0 rfl (by decide) rfl fx153 fx154) [] rfl [] rfl (lenOf pd_4 rfl) (hb hby at_211) (by decide) 0 (by decide) (by decide) (by first | decide | exact Nat.le_refl _) (by decide) (by decide) (fun v T158 L158 X158 hQ158 => ?_)
        obtain ⟨rfl, e158, rfl⟩ := hQ158
        have N159 := Fr.app N156 (Fr.nil h0.size)
        show Goes p.tables e below (T158.setTop (mkF m 214 #[.val (.long p0), .second, .val (.long p1), .second, .val (.long p2), .second, .val (.int p3), .val (.int p4), .val (.int (1 : Int32)), .val (.long p0), .second, .val (.long t1), .second, .val (.long t2), .second, .val (.ref a5), .val (.ref b2), .val (.int v35), .val (.ref b3), .val (.ref a100), .val (.long p0), .second, .val (.long vlat), .second, .unset, .unset] [(.long p0)])) _
        refine g_lstore X158 hx (hb hby at_214) (l' := #[.val (.long p0), .second, .val (.long p1), .second, .val (.long p2), .second, .val (.int p3), .val (.int p4), .val (.int (1 : Int32)), .val (.long p0), .second, .val (.long t1), .second, .val (.long t2), .second, .val (.ref a5), .val (.ref b2), .val (.int v35), .val (.ref b3), .val (.ref a100), .val (.long p0), .second, .val (.long vlat), .second, .val (.long p0), .second]) rfl ?_
        show Goes p.tables e below (T158.setTop (mkF m 216 #[.val (.long p0), .second, .val (.long p1), .second, .val (.long p2), .second, .val (.int p3), .val (.int p4), .val (.int (1 : Int32)), .val (.long p0), .second, .val (.long t1), .second, .val (.long t2), .second, .val (.ref a5), .val (.ref b2), .val (.int v35), .val (.ref b3), .val (.ref a100), .val (.long p0), .second, .val (.long vlat), .second, .val (.long p0), .second] [])) _
        refine g_lload X158 hx (hb hby at_216) rfl ?_
        show Goes p.tables e below (T158.setTop (mkF m 218 #[.val (.long p0), .second, .val (.long p1), .second, .val (.long p2), .second, .val (.int p3), .val (.int p4), .val (.int (1 : Int32)), .val (.long p0), .second, .val (.long t1), .second, .val (.long t2), .second, .val (.ref a5), .val (.ref b2), .val (.int v35), .val (.ref b3), .val (.ref a100), .val (.long p0), .second, .val (.long vlat), .second, .val (.long p0), .second] [(.long p0)])) _
        refine g_lload X158 hx (hb hby at_218) rfl ?_
        show Goes p.tables e below (T158.setTop (mkF m 220 #[.val (.long p0), .second, .val (.long p1), .second, .val (.long p2), .second, .val (.int p3), .val (.int p4), .val (.int (1 : Int32)), .val (.long p0), .second, .val (.long t1), .second, .val (.long t2), .second, .val (.ref a5), .val (.ref b2), .val (.int v35), .val (.ref b3), .val (.ref a100), .val (.long p0), .second, .val (.long vlat), .second, .val (.long p0), .second] [(.long p0), (.long p0)])) _
        refine g_lcmp X158 hx (hb hby at_220) ?_
        show Goes p.tables e below (T158.setTop (mkF m 221 #[.val (.long p0), .second, .val (.long p1), .second, .val (.long p2), .second, .val (.int p3), .val (.int p4), .val (.int (1 : Int32)), .val (.long p0), .second, .val (.long t1), .second, .val (.long t2), .second, .val (.ref a5), .val (.ref b2), .val (.int v35), .val (.ref b3), .val (.ref a100), .val (.long p0), .second, .val (.long vlat), .second, .val (.long p0), .second] [(.int (XT.cmpL p0 p0))])) _
        have c221 : p0 = p0 := rfl
        refine g_lif_ne X158 hx (hb hby at_221) (by decide) (pc' := 247) (by decide) (fun q => absurd c221 q) (fun _ => ?_)
        show Goes p.tables e below (T158.setTop (mkF m 224 #[.val (.long p0), .second, .val (.long p1), .second, .val (.long p2), .second, .val (.int p3), .val (.int p4), .val (.int (1 : Int32)), .val (.long p0), .second, .val (.long t1), .second, .val (.long t2), .second, .val (.ref a5), .val (.ref b2), .val (.int v35), .val (.ref b3), .val (.ref a100), .val (.long p0), .second, .val (.long vlat), .second, .val (.long p0), .second] [])) _
        refine g_lload X158 hx (hb hby at_224) rfl ?_
        show Goes p.tables e below (T158.setTop (mkF m 226 #[.val (.long p0), .second, .val (.long p1), .second, .val (.long p2), .second, .val (.int p3), .val (.int p4), .val (.int (1 : Int32)), .val (.long p0), .second, .val (.long t1), .second, .val (.long t2), .second, .val (.ref a5), .val (.ref b2), .val (.int v35), .val (.ref b3), .val (.ref a100), .val (.long p0), .second, .val (.long vlat), .second, .val (.long p0), .second] [(.long p0)])) _
        refine g_lload X158 hx (hb hby at_226) rfl ?_
        show Goes p.tables e below (T158.setTop (mkF m 228 #[.val (.long p0), .second, .val (.long p1), .second, .val (.long p2), .second, .val (.int p3), .val (.int p4), .val (.int (1 : Int32)), .val (.long p0), .second, .val (.long t1), .second, .val (.long t2), .second, .val (.ref a5), .val (.ref b2), .val (.int v35), .val (.ref b3), .val (.ref a100), .val (.long p0), .second, .val (.long vlat), .second, .val (.long p0), .second] [(.long vlat), (.long p0)])) _
        refine g_lcmp X158 hx (hb hby at_228) ?_
        show Goes p.tables e below (T158.setTop (mkF m 229 #[.val (.long p0), .second, .val (.long p1), .second, .val (.long p2), .second, .val (.int p3), .val (.int p4), .val (.int (1 : Int32)), .val (.long p0), .second, .val (.long t1), .second, .val (.long t2), .second, .val (.ref a5), .val (.ref b2), .val (.int v35), .val (.ref b3), .val (.ref a100), .val (.long p0), .second, .val (.long vlat), .second, .val (.long p0), .second] [(.int (XT.cmpL p0 vlat))])) _
        have c229 : p0 = vlat := (by rw [hvlat, own_max1, own_max1])
        refine g_lif_ne X158 hx (hb hby at_229) (by decide) (pc' := 247) (by decide) (fun q => absurd c229 q) (fun _ => ?_)
        show Goes p.tables e below (T158.setTop (mkF m 232 #[.val (.long p0), .second, .val (.long p1), .second, .val (.long p2), .second, .val (.int p3), .val (.int p4), .val (.int (1 : Int32)), .val (.long p0), .second, .val (.long t1), .second, .val (.long t2), .second, .val (.ref a5), .val (.ref b2), .val (.int v35), .val (.ref b3), .val (.ref a100), .val (.long p0), .second, .val (.long vlat), .second, .val (.long p0), .second] [])) _
        refine g_aload X158 hx (hb hby at_232) rfl rfl ?_
        show Goes p.tables e below (T158.setTop (mkF m 234 #[.val (.long p0), .second, .val (.long p1), .second, .val (.long p2), .second, .val (.int p3), .val (.int p4), .val (.int (1 : Int32)), .val (.long p0), .second, .val (.long t1), .second, .val (.long t2), .second, .val (.ref a5), .val (.ref b2), .val (.int v35), .val (.ref b3), .val (.ref a100), .val (.long p0), .second, .val (.long vlat), .second, .val (.long p0), .second] [(.ref a100)])) _
        refine g_callV X158 hx hZ hown (by rw [hml]; rfl) e158 (K := "com/example/drongo/drongo/event/RotaryEvent") (hw _ (List.mem_of_getElem? (i := 39) rfl)) (hw _ (List.mem_of_getElem? (i := 40) rfl)) (hw _ (List.mem_of_getElem? (i := 42) rfl)) (hw _ (List.mem_of_getElem? (i := 41) rfl)) (hw _ (List.mem_of_getElem? (i := 14) rfl)) (hw _ (List.mem_of_getElem? (i := 43) rfl)) fx152 (rmL l Z a0 hw a100 h142 b122 [(.long p0)] (1 : Int32) 0 p0 rfl (by decide) rfl fx153 fx154) [] rfl [] rfl (lenOf pd_4 rfl) (hb hby at_234) (by decide) 0 (by decide) (by decide) (by first | decide | exact Nat.le_refl _) (by decide) (by decide) (fun v T160 L160 X160 hQ160 => ?_)
        obtain ⟨rfl, e160, rfl⟩ := hQ160
        have N161 := Fr.app N159 (Fr.nil h0.size)
        show Goes p.tables e below (T160.setTop (mkF m 237 #[.val (.long p0), .second, .val (.long p1), .second, .val (.long p2), .second, .val (.int p3), .val (.int p4), .val (.int (1 : Int32)), .val (.long p0), .second, .val (.long t1), .second, .val (.long t2), .second, .val (.ref a5), .val (.ref b2), .val (.int v35), .val (.ref b3), .val (.ref a100), .val (.long p0), .second, .val (.long vlat), .second, .val (.long p0), .second] [(.long p0)])) _
        refine g_lload X160 hx (hb hby at_237) rfl ?_
        show Goes p.tables e below (T160.setTop (mkF m 239 #[.val (.long p0), .second, .val (.long p1), .second, .val (.long p2), .second, .val (.int p3), .val (.int p4), .val (.int (1 : Int32)), .val (.long p0), .second, .val (.long t1), .second, .val (.long t2), .second, .val (.ref a5), .val (.ref b2), .val (.int v35), .val (.ref b3), .val (.ref a100), .val (.long p0), .second, .val (.long vlat), .second, .val (.long p0), .second] [(.long p0), (.long p0)])) _
        refine g_lcmp X160 hx (hb hby at_239) ?_
        show Goes p.tables e below (T160.setTop (mkF m 240 #[.val (.long p0), .second, .val (.long p1), .second, .val (.long p2), .second, .val (.int p3), .val (.int p4), .val (.int (1 : Int32)), .val (.long p0), .second, .val (.long t1), .second, .val (.long t2), .second, .val (.ref a5), .val (.ref b2), .val (.int v35), .val (.ref b3), .val (.ref a100), .val (.long p0), .second, .val (.long vlat), .second, .val (.long p0), .second] [(.int (XT.cmpL p0 p0))])) _
        have c240 : p0 = p0 := rfl
        refine g_lif_ne X160 hx (hb hby at_240) (by decide) (pc' := 247) (by decide) (fun q => absurd c240 q) (fun _ => ?_)
        show Goes p.tables e below (T160.setTop (mkF m 243 #[.val (.long p0), .second, .val (.long p1), .second, .val (.long p2), .second, .val (.int p3), .val (.int p4), .val (.int (1 : Int32)), .val (.long p0), .second, .val (.long t1), .second, .val (.long t2), .second, .val (.ref a5), .val (.ref b2), .val (.int v35), .val (.ref b3), .val (.ref a100), .val (.long p0), .second, .val (.long vlat), .second, .val (.long p0), .second] [])) _
        refine g_iconst X160 hx (1 : Int32) (hb hby at_243) rfl ?_
        show Goes p.tables e below (T160.setTop (mkF m 244 #[.val (.long p0), .second, .val (.long p1), .second, .val (.long p2), .second, .val (.int p3), .val (.int p4), .val (.int (1 : Int32)), .val (.long p0), .second, .val (.long t1), .second, .val (.long t2), .second, .val (.ref a5), .val (.ref b2), .val (.int v35), .val (.ref b3), .val (.ref a100), .val (.long p0), .second, .val (.long vlat), .second, .val (.long p0), .second] [(.int (1 : Int32))])) _
        refine g_goto X160 hx (hb hby at_244) (by decide) (pc' := 248) (by decide) ?_
        show Goes p.tables e below (T160.setTop (mkF m 248 #[.val (.long p0), .second, .val (.long p1), .second, .val (.long p2), .second, .val (.int p3), .val (.int p4), .val (.int (1 : Int32)), .val (.long p0), .second, .val (.long t1), .second, .val (.long t2), .second, .val (.ref a5), .val (.ref b2), .val (.int v35), .val (.ref b3), .val (.ref a100), .val (.long p0), .second, .val (.long vlat), .second, .val (.long p0), .second] [(.int (1 : Int32))])) _
        exact g_retZ X160 hx (hz := (by decide)) hret hlk (hb hby at_248) (by decide) (by decide) ⟨rfl, N161⟩
    · skip
      show Goes p.tables e below (T21.setTop (mkF m 74 #[.val (.long p0), .second, .val (.long p1), .second, .val (.long p2), .second, .val (.int p3), .val (.int p4), .val (.int (1 : Int32)), .val (.long p0), .second, .val (.long t1), .second, .val (.long t2), .second, .val (.ref a5), .unset, .unset, .unset, .unset, .unset, .unset, .unset, .unset, .unset, .unset] [])) _
      refine g_getS X21 hx hZ hown e21 (host := "") (Or.inl (hw _ (List.mem_of_getElem? (i := 6) rfl))) fx22 (hb hby at_74) (fun T162 X162 e162 => ?_)
      show Goes p.tables e below (T162.setTop (mkF m 77 #[.val (.long p0), .second, .val (.long p1), .second, .val (.long p2), .second, .val (.int p3), .val (.int p4), .val (.int (1 : Int32)), .val (.long p0), .second, .val (.long t1), .second, .val (.long t2), .second, .val (.ref a5), .unset, .unset, .unset, .unset, .unset, .unset, .unset, .unset, .unset, .unset] [(.ref b0)])) _
      refine g_goto X162 hx (hb hby at_77) (by decide) (pc' := 83) (by decide) ?_
      show Goes p.tables e below (T162.setTop (mkF m 83 #[.val (.long p0), .second, .val (.long p1), .second, .val (.long p2), .second, .val (.int p3), .val (.int p4), .val (.int (1 : Int32)), .val (.long p0), .second, .val (.long t1), .second, .val (.long t2), .second, .val (.ref a5), .unset, .unset, .unset, .unset, .unset, .unset, .unset, .unset, .unset, .unset] [(.ref b0)])) _
      refine g_astore X162 hx (hb hby at_83) rfl (l' := #[.val (.long p0), .second, .val (.long p1), .second, .val (.long p2), .second, .val (.int p3), .val (.int p4), .val (.int (1 : Int32)), .val (.long p0), .second, .val (.long t1), .second, .val (.long t2), .second, .val (.ref a5), .val (.ref b0), .unset, .unset, .unset, .unset, .unset, .unset, .unset, .unset, .unset]) rfl ?_
      show Goes p.tables e below (T162.setTop (mkF m 85 #[.val (.long p0), .second, .val (.long p1), .second, .val (.long p2), .second, .val (.int p3), .val (.int p4), .val (.int (1 : Int32)), .val (.long p0), .second, .val (.long t1), .second, .val (.long t2), .second, .val (.ref a5), .val (.ref b0), .unset, .unset, .unset, .unset, .unset, .unset, .unset, .unset, .unset] [])) _
      refine g_iload X162 hx (hb hby at_85) rfl ?_
      show Goes p.tables e below (T162.setTop (mkF m 87 #[.val (.long p0), .second, .val (.long p1), .second, .val (.long p2), .second, .val (.int p3), .val (.int p4), .val (.int (1 : Int32)), .val (.long p0), .second, .val (.long t1), .second, .val (.long t2), .second, .val (.ref a5), .val (.ref b0), .unset, .unset, .unset, .unset, .unset, .unset, .unset, .unset, .unset] [(.int p4)])) _
      refine g_iconst X162 hx (2 : Int32) (hb hby at_87) rfl ?_
      show Goes p.tables e below (T162.setTop (mkF m 88 #[.val (.long p0), .second, .val (.long p1), .second, .val (.long p2), .second, .val (.int p3), .val (.int p4), .val (.int (1 : Int32)), .val (.long p0), .second, .val (.long t1), .second, .val (.long t2), .second, .val (.ref a5), .val (.ref b0), .unset, .unset, .unset, .unset, .unset, .unset, .unset, .unset, .unset] [(.int (2 : Int32)), (.int p4)])) _
      refine g_iand X162 hx (hb hby at_88) ?_
      show Goes p.tables e below (T162.setTop (mkF m 89 #[.val (.long p0), .second, .val (.long p1), .second, .val (.long p2), .second, .val (.int p3), .val (.int p4), .val (.int (1 : Int32)), .val (.long p0), .second, .val (.long t1), .second, .val (.long t2), .second, .val (.ref a5), .val (.ref b0), .unset, .unset, .unset, .unset, .unset, .unset, .unset, .unset, .unset] [(.int (p4 &&& (2 : Int32)))])) _
      obtain ⟨v163, hv163⟩ : ∃ z : Int32, z = (if (p4 &&& (2 : Int32)) = 0 then (0 : Int32) else (1 : Int32)) := ⟨_, rfl⟩
      refine Goes.join (S' := T162.setTop (mkF m 97 #[.val (.long p0), .second, .val (.long p1), .second, .val (.long p2), .second, .val (.int p3), .val (.int p4), .val (.int (1 : Int32)), .val (.long p0), .second, .val (.long t1), .second, .val (.long t2), .second, .val (.ref a5), .val (.ref b0), .unset, .unset, .unset, .unset, .unset, .unset, .unset, .unset, .unset] [(.int v163)])) (fun J => ?_) ?_
      · skip
        refine g_if_eq X162 hx (hb hby at_89) (by decide) (pc' := 96) (by decide) (fun c89 => ?_) (fun c89 => ?_)
        · skip
          show Goes p.tables e below (T162.setTop (mkF m 96 #[.val (.long p0), .second, .val (.long p1), .second, .val (.long p2), .second, .val (.int p3), .val (.int p4), .val (.int (1 : Int32)), .val (.long p0), .second, .val (.long t1), .second, .val (.long t2), .second, .val (.ref a5), .val (.ref b0), .unset, .unset, .unset, .unset, .unset, .unset, .unset, .unset, .unset] [])) _
          refine g_iconst X162 hx (0 : Int32) (hb hby at_96) rfl ?_
          rw [show v163 = ((0 : Int32)) from by rw [hv163, if_pos c89]] at J
          exact J
        · skip
          show Goes p.tables e below (T162.setTop (mkF m 92 #[.val (.long p0), .second, .val (.long p1), .second, .val (.long p2), .second, .val (.int p3), .val (.int p4), .val (.int (1 : Int32)), .val (.long p0), .second, .val (.long t1), .second, .val (.long t2), .second, .val (.ref a5), .val (.ref b0), .unset, .unset, .unset, .unset, .unset, .unset, .unset, .unset, .unset] [])) _
          refine g_iconst X162 hx (1 : Int32) (hb hby at_92) rfl ?_
          show Goes p.tables e below (T162.setTop (mkF m 93 #[.val (.long p0), .second, .val (.long p1), .second, .val (.long p2), .second, .val (.int p3), .val (.int p4), .val (.int (1 : Int32)), .val (.long p0), .second, .val (.long t1), .second, .val (.long t2), .second, .val (.ref a5), .val (.ref b0), .unset, .unset, .unset, .unset, .unset, .unset, .unset, .unset, .unset] [(.int (1 : Int32))])) _
          refine g_goto X162 hx (hb hby at_93) (by decide) (pc' := 97) (by decide) ?_
          rw [show v163 = ((1 : Int32)) from by rw [hv163, if_neg c89]] at J
          exact J
      show Goes p.tables e below (T162.setTop (mkF m 97 #[.val (.long p0), .second, .val (.long p1), .second, .val (.long p2), .second, .val (.int p3), .val (.int p4), .val (.int (1 : Int32)), .val (.long p0), .second, .val (.long t1), .second, .val (.long t2), .second, .val (.ref a5), .val (.ref b0), .unset, .unset, .unset, .unset, .unset, .unset, .unset, .unset, .unset] [(.int v163)])) _
      refine g_istore X162 hx (hb hby at_97) (l' := #[.val (.long p0), .second, .val (.long p1), .second, .val (.long p2), .second, .val (.int p3), .val (.int p4), .val (.int (1 : Int32)), .val (.long p0), .second, .val (.long t1), .second, .val (.long t2), .second, .val (.ref a5), .val (.ref b0), .val (.int v163), .unset, .unset, .unset, .unset, .unset, .unset, .unset, .unset]) rfl ?_
      show Goes p.tables e below (T162.setTop (mkF m 99 #[.val (.long p0), .second, .val (.long p1), .second, .val (.long p2), .second, .val (.int p3), .val (.int p4), .val (.int (1 : Int32)), .val (.long p0), .second, .val (.long t1), .second, .val (.long t2), .second, .val (.ref a5), .val (.ref b0), .val (.int v163), .unset, .unset, .unset, .unset, .unset, .unset, .unset, .unset] [])) _
      refine g_iload X162 hx (hb hby at_99) rfl ?_
      show Goes p.tables e below (T162.setTop (mkF m 101 #[.val (.long p0), .second, .val (.long p1), .second, .val (.long p2), .second, .val (.int p3), .val (.int p4), .val (.int (1 : Int32)), .val (.long p0), .second, .val (.long t1), .second, .val (.long t2), .second, .val (.ref a5), .val (.ref b0), .val (.int v163), .unset, .unset, .unset, .unset, .unset, .unset, .unset, .unset] [(.int p4)])) _
      refine g_iconst X162 hx (4 : Int32) (hb hby at_101) rfl ?_
      show Goes p.tables e below (T162.setTop (mkF m 102 #[.val (.long p0), .second, .val (.long p1), .second, .val (.long p2), .second, .val (.int p3), .val (.int p4), .val (.int (1 : Int32)), .val (.long p0), .second, .val (.long t1), .second, .val (.long t2), .second, .val (.ref a5), .val (.ref b0), .val (.int v163), .unset, .unset, .unset, .unset, .unset, .unset, .unset, .unset] [(.int (4 : Int32)), (.int p4)])) _
      refine g_iand X162 hx (hb hby at_102) ?_
      show Goes p.tables e below (T162.setTop (mkF m 103 #[.val (.long p0), .second, .val (.long p1), .second, .val (.long p2), .second, .val (.int p3), .val (.int p4), .val (.int (1 : Int32)), .val (.long p0), .second, .val (.long t1), .second, .val (.long t2), .second, .val (.ref a5), .val (.ref b0), .val (.int v163), .unset, .unset, .unset, .unset, .unset, .unset, .unset, .unset] [(.int (p4 &&& (4 : Int32)))])) _
      refine g_if_eq X162 hx (hb hby at_103) (by decide) (pc' := 112) (by decide) (fun c103 => ?_) (fun c103 => ?_)
      · skip
        show Goes p.tables e below (T162.setTop (mkF m 112 #[.val (.long p0), .second, .val (.long p1), .second, .val (.long p2), .second, .val (.int p3), .val (.int p4), .val (.int (1 : Int32)), .val (.long p0), .second, .val (.long t1), .second, .val (.long t2), .second, .val (.ref a5), .val (.ref b0), .val (.int v163), .unset, .unset, .unset, .unset, .unset, .unset, .unset, .unset] [])) _
        refine g_getS X162 hx hZ hown e162 (host := "") (Or.inl (hw _ (List.mem_of_getElem? (i := 9) rfl))) fx24 (hb hby at_112) (fun T164 X164 e164 => ?_)
        show Goes p.tables e below (T164.setTop (mkF m 115 #[.val (.long p0), .second, .val (.long p1), .second, .val (.long p2), .second, .val (.int p3), .val (.int p4), .val (.int (1 : Int32)), .val (.long p0), .second, .val (.long t1), .second, .val (.long t2), .second, .val (.ref a5), .val (.ref b0), .val (.int v163), .unset, .unset, .unset, .unset, .unset, .unset, .unset, .unset] [(.ref b1)])) _
        refine g_astore X164 hx (hb hby at_115) rfl (l' := #[.val (.long p0), .second, .val (.long p1), .second, .val (.long p2), .second, .val (.int p3), .val (.int p4), .val (.int (1 : Int32)), .val (.long p0), .second, .val (.long t1), .second, .val (.long t2), .second, .val (.ref a5), .val (.ref b0), .val (.int v163), .val (.ref b1), .unset, .unset, .unset, .unset, .unset, .unset, .unset]) rfl ?_
        show Goes p.tables e below (T164.setTop (mkF m 117 #[.val (.long p0), .second, .val (.long p1), .second, .val (.long p2), .second, .val (.int p3), .val (.int p4), .val (.int (1 : Int32)), .val (.long p0), .second, .val (.long t1), .second, .val (.long t2), .second, .val (.ref a5), .val (.ref b0), .val (.int v163), .val (.ref b1), .unset, .unset, .unset, .unset, .unset, .unset, .unset] [])) _
        refine g_new X164 hx hZ hown e164 (hw _ (List.mem_of_getElem? (i := 12) rfl)) (hw _ (List.mem_of_getElem? (i := 13) rfl)) (hw _ (List.mem_of_getElem? (i := 14) rfl)) (hb hby at_117) (by decide) (by decide) (fun T165 h165 a165 ga165 X165 e165 Ex165 Ea165 Df165 => ?_)
        have ne166 : b0 ≠ a165 := Nat.ne_of_lt (by rw [ga165]; exact fx23.lt)
        have ne167 : b1 ≠ a165 := Nat.ne_of_lt (by rw [ga165]; exact fx25.lt)
        have ne168 : b2 ≠ a165 := Nat.ne_of_lt (by rw [ga165]; exact fx27.lt)
        have ne169 : b3 ≠ a165 := Nat.ne_of_lt (by rw [ga165]; exact fx29.lt)
        have ne170 : a5 ≠ a165 := Nat.ne_of_lt (by rw [ga165]; exact fx30.lt)
        have ge171 : h0.size ≤ a165 := by rw [ga165]; exact Z33
        have fx172 : Sta Z h165 "com/example/drongo/drongo/event/RotaryEvent$Knob" "NAVIGATION" "Lcom/example/drongo/drongo/event/RotaryEvent$Knob;" (.ref b0) := Sta.ext Ex165 fx22
        have fx173 : Exa Z h165 b0 "com/example/drongo/drongo/event/RotaryEvent$Knob" := Exa.ext Ex165 fx23
        have fx174 : Sta Z h165 "com/example/drongo/drongo/event/Display" "CLUSTER" "Lcom/example/drongo/drongo/event/Display;" (.ref b1) := Sta.ext Ex165 fx24
        have fx175 : Exa Z h165 b1 "com/example/drongo/drongo/event/Display" := Exa.ext Ex165 fx25
        have fx176 : Sta Z h165 "com/example/drongo/drongo/event/RotaryEvent$Knob" "VOLUME" "Lcom/example/drongo/drongo/event/RotaryEvent$Knob;" (.ref b2) := Sta.ext Ex165 fx26
        have fx177 : Exa Z h165 b2 "com/example/drongo/drongo/event/RotaryEvent$Knob" := Exa.ext Ex165 fx27
        have fx178 : Sta Z h165 "com/example/drongo/drongo/event/Display" "MAIN" "Lcom/example/drongo/drongo/event/Display;" (.ref b3) := Sta.ext Ex165 fx28
        have fx179 : Exa Z h165 b3 "com/example/drongo/drongo/event/Display" := Exa.ext Ex165 fx29
        have fx180 : Exa Z h165 a5 "[J" := Exa.ext Ex165 fx30
        have fx181 : Ar Z h165 a5 .long [(.long p0)] := Ar.ext fx31 Ex165
        have Z182 : h0.size ≤ h165.size := Nat.le_trans Z33 Ex165.1
        have fx183 : Fld Z h165 a165 "com/example/drongo/drongo/event/RotaryEvent" "knob" "Lcom/example/drongo/drongo/event/RotaryEvent$Knob;" .null := Df165 (Or.inr (hw _ (List.mem_of_getElem? (i := 22) rfl))) (ty := (.object "com/example/drongo/drongo/event/RotaryEvent$Knob")) (by decide)
        have fx184 : Fld Z h165 a165 "com/example/drongo/drongo/event/RotaryEvent" "clockwise" "Z" (.int (0 : Int32)) := Df165 (Or.inr (hw _ (List.mem_of_getElem? (i := 24) rfl))) (ty := .boolean) (by decide)
        have fx185 : Fld Z h165 a165 "com/example/drongo/drongo/event/RotaryEvent" "display" "Lcom/example/drongo/drongo/event/Display;" .null := Df165 (Or.inr (hw _ (List.mem_of_getElem? (i := 26) rfl))) (ty := (.object "com/example/drongo/drongo/event/Display")) (by decide)
        have fx186 : Fld Z h165 a165 "com/example/drongo/drongo/event/RotaryEvent" "timesMillis" "[J" .null := Df165 (Or.inr (hw _ (List.mem_of_getElem? (i := 37) rfl))) (ty := (.array .long)) (by decide)
        show Goes p.tables e below (T165.setTop (mkF m 120 #[.val (.long p0), .second, .val (.long p1), .second, .val (.long p2), .second, .val (.int p3), .val (.int p4), .val (.int (1 : Int32)), .val (.long p0), .second, .val (.long t1), .second, .val (.long t2), .second, .val (.ref a5), .val (.ref b0), .val (.int v163), .val (.ref b1), .unset, .unset, .unset, .unset, .unset, .unset, .unset] [(.ref a165)])) _
        refine g_dup X165 hx (hb hby at_120) rfl ?_
        show Goes p.tables e below (T165.setTop (mkF m 121 #[.val (.long p0), .second, .val (.long p1), .second, .val (.long p2), .second, .val (.int p3), .val (.int p4), .val (.int (1 : Int32)), .val (.long p0), .second, .val (.long t1), .second, .val (.long t2), .second, .val (.ref a5), .val (.ref b0), .val (.int v163), .val (.ref b1), .unset, .unset, .unset, .unset, .unset, .unset, .unset] [(.ref a165), (.ref a165)])) _
        refine g_aload X165 hx (hb hby at_121) rfl rfl ?_
        show Goes p.tables e below (T165.setTop (mkF m 123 #[.val (.long p0), .second, .val (.long p1), .second, .val (.long p2), .second, .val (.int p3), .val (.int p4), .val (.int (1 : Int32)), .val (.long p0), .second, .val (.long t1), .second, .val (.long t2), .second, .val (.ref a5), .val (.ref b0), .val (.int v163), .val (.ref b1), .unset, .unset, .unset, .unset, .unset, .unset, .unset] [(.ref b0), (.ref a165), (.ref a165)])) _
        refine g_iload X165 hx (hb hby at_123) rfl ?_
        show Goes p.tables e below (T165.setTop (mkF m 125 #[.val (.long p0), .second, .val (.long p1), .second, .val (.long p2), .second, .val (.int p3), .val (.int p4), .val (.int (1 : Int32)), .val (.long p0), .second, .val (.long t1), .second, .val (.long t2), .second, .val (.ref a5), .val (.ref b0), .val (.int v163), .val (.ref b1), .unset, .unset, .unset, .unset, .unset, .unset, .unset] [(.int v163), (.ref b0), (.ref a165), (.ref a165)])) _
        refine g_aload X165 hx (hb hby at_125) rfl rfl ?_
        show Goes p.tables e below (T165.setTop (mkF m 127 #[.val (.long p0), .second, .val (.long p1), .second, .val (.long p2), .second, .val (.int p3), .val (.int p4), .val (.int (1 : Int32)), .val (.long p0), .second, .val (.long t1), .second, .val (.long t2), .second, .val (.ref a5), .val (.ref b0), .val (.int v163), .val (.ref b1), .unset, .unset, .unset, .unset, .unset, .unset, .unset] [(.ref b1), (.int v163), (.ref b0), (.ref a165), (.ref a165)])) _
        refine g_aload X165 hx (hb hby at_127) rfl rfl ?_
        show Goes p.tables e below (T165.setTop (mkF m 129 #[.val (.long p0), .second, .val (.long p1), .second, .val (.long p2), .second, .val (.int p3), .val (.int p4), .val (.int (1 : Int32)), .val (.long p0), .second, .val (.long t1), .second, .val (.long t2), .second, .val (.ref a5), .val (.ref b0), .val (.int v163), .val (.ref b1), .unset, .unset, .unset, .unset, .unset, .unset, .unset] [(.ref a5), (.ref b1), (.int v163), (.ref b0), (.ref a165), (.ref a165)])) _
        have lta := fx181.lt
        have ltb := Ea165.lt
        refine g_callI X165 hx hZ hown (by rw [hml]; rfl) e165 rfl (hw _ (List.mem_of_getElem? (i := 15) rfl)) (hw _ (List.mem_of_getElem? (i := 16) rfl)) (hw _ (List.mem_of_getElem? (i := 14) rfl)) (hw _ (List.mem_of_getElem? (i := 17) rfl)) (rmI l Z a0 hw a165 b0 v163 b1 a5 h165 h0.size Z182 [(.long p0)] (by simp) fx183 fx184 fx185 fx186 Ea165 fx181 fx180 ge171 ne170) a165 [(.ref b0), (.int v163), (.ref b1), (.ref a5)] rfl [(.ref a165)] rfl (lenOf pd_2 rfl) (hb hby at_129) (by decide) 1 (by decide) (by decide) (by first | decide | exact Nat.le_refl _) (by decide) (by decide) (fun v T187 L187 X187 hQ187 => ?_)
        obtain ⟨rfl, Nc187, Kc187, b187, gb187, hb187, fT187, Ab187⟩ := hQ187
        have fx188 : Sta Z T187.heap "com/example/drongo/drongo/event/RotaryEvent$Knob" "NAVIGATION" "Lcom/example/drongo/drongo/event/RotaryEvent$Knob;" (.ref b0) := own_stakeep fx172 Kc187 (allS (own_nst Ea165) all0)
        have fx189 : Exa Z T187.heap b0 "com/example/drongo/drongo/event/RotaryEvent$Knob" := Exa.keep fx173 Kc187
        have fx190 : Sta Z T187.heap "com/example/drongo/drongo/event/Display" "CLUSTER" "Lcom/example/drongo/drongo/event/Display;" (.ref b1) := own_stakeep fx174 Kc187 (allS (own_nst Ea165) all0)
        have fx191 : Exa Z T187.heap b1 "com/example/drongo/drongo/event/Display" := Exa.keep fx175 Kc187
        have fx192 : Sta Z T187.heap "com/example/drongo/drongo/event/RotaryEvent$Knob" "VOLUME" "Lcom/example/drongo/drongo/event/RotaryEvent$Knob;" (.ref b2) := own_stakeep fx176 Kc187 (allS (own_nst Ea165) all0)
        have fx193 : Exa Z T187.heap b2 "com/example/drongo/drongo/event/RotaryEvent$Knob" := Exa.keep fx177 Kc187
        have fx194 : Sta Z T187.heap "com/example/drongo/drongo/event/Display" "MAIN" "Lcom/example/drongo/drongo/event/Display;" (.ref b3) := own_stakeep fx178 Kc187 (allS (own_nst Ea165) all0)
        have fx195 : Exa Z T187.heap b3 "com/example/drongo/drongo/event/Display" := Exa.keep fx179 Kc187
        have fx196 : Exa Z T187.heap a5 "[J" := Exa.keep fx180 Kc187
        have fx197 : Ar Z T187.heap a5 .long [(.long p0)] := Ar.keep fx181 Kc187 (ninS ne170 nin0)
        have fx198 : Exa Z T187.heap a165 "com/example/drongo/drongo/event/RotaryEvent" := Exa.keep Ea165 Kc187
        have N199 := Fr.app N32 Nc187
        have Z200 : h0.size ≤ T187.heap.size := Nat.le_trans Z182 Kc187.1
        have ne201 : a5 ≠ b187 := Nat.ne_of_lt (Nat.lt_of_lt_of_le lta hb187)
        have ne202 : a165 ≠ b187 := Nat.ne_of_lt (Nat.lt_of_lt_of_le ltb hb187)
        show Goes p.tables e below (T187.setTop (mkF m 132 #[.val (.long p0), .second, .val (.long p1), .second, .val (.long p2), .second, .val (.int p3), .val (.int p4), .val (.int (1 : Int32)), .val (.long p0), .second, .val (.long t1), .second, .val (.long t2), .second, .val (.ref a5), .val (.ref b0), .val (.int v163), .val (.ref b1), .unset, .unset, .unset, .unset, .unset, .unset, .unset] [(.ref a165)])) _
        refine g_astore X187 hx (hb hby at_132) rfl (l' := #[.val (.long p0), .second, .val (.long p1), .second, .val (.long p2), .second, .val (.int p3), .val (.int p4), .val (.int (1 : Int32)), .val (.long p0), .second, .val (.long t1), .second, .val (.long t2), .second, .val (.ref a5), .val (.ref b0), .val (.int v163), .val (.ref b1), .val (.ref a165), .unset, .unset, .unset, .unset, .unset, .unset]) rfl ?_
        show Goes p.tables e below (T187.setTop (mkF m 134 #[.val (.long p0), .second, .val (.long p1), .second, .val (.long p2), .second, .val (.int p3), .val (.int p4), .val (.int (1 : Int32)), .val (.long p0), .second, .val (.long t1), .second, .val (.long t2), .second, .val (.ref a5), .val (.ref b0), .val (.int v163), .val (.ref b1), .val (.ref a165), .unset, .unset, .unset, .unset, .unset, .unset] [])) _
        refine g_iload X187 hx (hb hby at_134) rfl ?_
        show Goes p.tables e below (T187.setTop (mkF m 136 #[.val (.long p0), .second, .val (.long p1), .second, .val (.long p2), .second, .val (.int p3), .val (.int p4), .val (.int (1 : Int32)), .val (.long p0), .second, .val (.long t1), .second, .val (.long t2), .second, .val (.ref a5), .val (.ref b0), .val (.int v163), .val (.ref b1), .val (.ref a165), .unset, .unset, .unset, .unset, .unset, .unset] [(.int (1 : Int32))])) _
        refine g_iconst X187 hx (1 : Int32) (hb hby at_136) rfl ?_
        show Goes p.tables e below (T187.setTop (mkF m 137 #[.val (.long p0), .second, .val (.long p1), .second, .val (.long p2), .second, .val (.int p3), .val (.int p4), .val (.int (1 : Int32)), .val (.long p0), .second, .val (.long t1), .second, .val (.long t2), .second, .val (.ref a5), .val (.ref b0), .val (.int v163), .val (.ref b1), .val (.ref a165), .unset, .unset, .unset, .unset, .unset, .unset] [(.int (1 : Int32)), (.int (1 : Int32))])) _
        refine g_icmp_ne X187 hx (hb hby at_137) (by decide) (pc' := 145) (by decide) (fun q => absurd (by decide) q) (fun _ => ?_)
        show Goes p.tables e below (T187.setTop (mkF m 140 #[.val (.long p0), .second, .val (.long p1), .second, .val (.long p2), .second, .val (.int p3), .val (.int p4), .val (.int (1 : Int32)), .val (.long p0), .second, .val (.long t1), .second, .val (.long t2), .second, .val (.ref a5), .val (.ref b0), .val (.int v163), .val (.ref b1), .val (.ref a165), .unset, .unset, .unset, .unset, .unset, .unset] [])) _
        refine g_lload X187 hx (hb hby at_140) rfl ?_
        show Goes p.tables e below (T187.setTop (mkF m 142 #[.val (.long p0), .second, .val (.long p1), .second, .val (.long p2), .second, .val (.int p3), .val (.int p4), .val (.int (1 : Int32)), .val (.long p0), .second, .val (.long t1), .second, .val (.long t2), .second, .val (.ref a5), .val (.ref b0), .val (.int v163), .val (.ref b1), .val (.ref a165), .unset, .unset, .unset, .unset, .unset, .unset] [(.long p0)])) _
        refine g_goto X187 hx (hb hby at_142) (by decide) (pc' := 158) (by decide) ?_
        show Goes p.tables e below (T187.setTop (mkF m 158 #[.val (.long p0), .second, .val (.long p1), .second, .val (.long p2), .second, .val (.int p3), .val (.int p4), .val (.int (1 : Int32)), .val (.long p0), .second, .val (.long t1), .second, .val (.long t2), .second, .val (.ref a5), .val (.ref b0), .val (.int v163), .val (.ref b1), .val (.ref a165), .unset, .unset, .unset, .unset, .unset, .unset] [(.long p0)])) _
        refine g_lstore X187 hx (hb hby at_158) (l' := #[.val (.long p0), .second, .val (.long p1), .second, .val (.long p2), .second, .val (.int p3), .val (.int p4), .val (.int (1 : Int32)), .val (.long p0), .second, .val (.long t1), .second, .val (.long t2), .second, .val (.ref a5), .val (.ref b0), .val (.int v163), .val (.ref b1), .val (.ref a165), .val (.long p0), .second, .unset, .unset, .unset, .unset]) rfl ?_
        show Goes p.tables e below (T187.setTop (mkF m 160 #[.val (.long p0), .second, .val (.long p1), .second, .val (.long p2), .second, .val (.int p3), .val (.int p4), .val (.int (1 : Int32)), .val (.long p0), .second, .val (.long t1), .second, .val (.long t2), .second, .val (.ref a5), .val (.ref b0), .val (.int v163), .val (.ref b1), .val (.ref a165), .val (.long p0), .second, .unset, .unset, .unset, .unset] [])) _
        refine g_lload X187 hx (hb hby at_160) rfl ?_
        show Goes p.tables e below (T187.setTop (mkF m 162 #[.val (.long p0), .second, .val (.long p1), .second, .val (.long p2), .second, .val (.int p3), .val (.int p4), .val (.int (1 : Int32)), .val (.long p0), .second, .val (.long t1), .second, .val (.long t2), .second, .val (.ref a5), .val (.ref b0), .val (.int v163), .val (.ref b1), .val (.ref a165), .val (.long p0), .second, .unset, .unset, .unset, .unset] [(.long p0)])) _
        refine g_iload X187 hx (hb hby at_162) rfl ?_
        show Goes p.tables e below (T187.setTop (mkF m 164 #[.val (.long p0), .second, .val (.long p1), .second, .val (.long p2), .second, .val (.int p3), .val (.int p4), .val (.int (1 : Int32)), .val (.long p0), .second, .val (.long t1), .second, .val (.long t2), .second, .val (.ref a5), .val (.ref b0), .val (.int v163), .val (.ref b1), .val (.ref a165), .val (.long p0), .second, .unset, .unset, .unset, .unset] [(.int (1 : Int32)), (.long p0)])) _
        refine g_iconst X187 hx (1 : Int32) (hb hby at_164) rfl ?_
        show Goes p.tables e below (T187.setTop (mkF m 165 #[.val (.long p0), .second, .val (.long p1), .second, .val (.long p2), .second, .val (.int p3), .val (.int p4), .val (.int (1 : Int32)), .val (.long p0), .second, .val (.long t1), .second, .val (.long t2), .second, .val (.ref a5), .val (.ref b0), .val (.int v163), .val (.ref b1), .val (.ref a165), .val (.long p0), .second, .unset, .unset, .unset, .unset] [(.int (1 : Int32)), (.int (1 : Int32)), (.long p0)])) _
        refine g_icmp_le X187 hx (hb hby at_165) (by decide) (pc' := 173) (by decide) (fun _ => ?_) (fun q => absurd q (by decide))
        show Goes p.tables e below (T187.setTop (mkF m 173 #[.val (.long p0), .second, .val (.long p1), .second, .val (.long p2), .second, .val (.int p3), .val (.int p4), .val (.int (1 : Int32)), .val (.long p0), .second, .val (.long t1), .second, .val (.long t2), .second, .val (.ref a5), .val (.ref b0), .val (.int v163), .val (.ref b1), .val (.ref a165), .val (.long p0), .second, .unset, .unset, .unset, .unset] [(.long p0)])) _
        refine g_lload X187 hx (hb hby at_173) rfl ?_
        show Goes p.tables e below (T187.setTop (mkF m 175 #[.val (.long p0), .second, .val (.long p1), .second, .val (.long p2), .second, .val (.int p3), .val (.int p4), .val (.int (1 : Int32)), .val (.long p0), .second, .val (.long t1), .second, .val (.long t2), .second, .val (.ref a5), .val (.ref b0), .val (.int v163), .val (.ref b1), .val (.ref a165), .val (.long p0), .second, .unset, .unset, .unset, .unset] [(.long p0), (.long p0)])) _
        refine g_iload X187 hx (hb hby at_175) rfl ?_
        show Goes p.tables e below (T187.setTop (mkF m 177 #[.val (.long p0), .second, .val (.long p1), .second, .val (.long p2), .second, .val (.int p3), .val (.int p4), .val (.int (1 : Int32)), .val (.long p0), .second, .val (.long t1), .second, .val (.long t2), .second, .val (.ref a5), .val (.ref b0), .val (.int v163), .val (.ref b1), .val (.ref a165), .val (.long p0), .second, .unset, .unset, .unset, .unset] [(.int (1 : Int32)), (.long p0), (.long p0)])) _
        refine g_iconst X187 hx (2 : Int32) (hb hby at_177) rfl ?_
        show Goes p.tables e below (T187.setTop (mkF m 178 #[.val (.long p0), .second, .val (.long p1), .second, .val (.long p2), .second, .val (.int p3), .val (.int p4), .val (.int (1 : Int32)), .val (.long p0), .second, .val (.long t1), .second, .val (.long t2), .second, .val (.ref a5), .val (.ref b0), .val (.int v163), .val (.ref b1), .val (.ref a165), .val (.long p0), .second, .unset, .unset, .unset, .unset] [(.int (2 : Int32)), (.int (1 : Int32)), (.long p0), (.long p0)])) _
        refine g_icmp_le X187 hx (hb hby at_178) (by decide) (pc' := 186) (by decide) (fun _ => ?_) (fun q => absurd q (by decide))
        show Goes p.tables e below (T187.setTop (mkF m 186 #[.val (.long p0), .second, .val (.long p1), .second, .val (.long p2), .second, .val (.int p3), .val (.int p4), .val (.int (1 : Int32)), .val (.long p0), .second, .val (.long t1), .second, .val (.long t2), .second, .val (.ref a5), .val (.ref b0), .val (.int v163), .val (.ref b1), .val (.ref a165), .val (.long p0), .second, .unset, .unset, .unset, .unset] [(.long p0), (.long p0)])) _
        refine g_lload X187 hx (hb hby at_186) rfl ?_
        show Goes p.tables e below (T187.setTop (mkF m 188 #[.val (.long p0), .second, .val (.long p1), .second, .val (.long p2), .second, .val (.int p3), .val (.int p4), .val (.int (1 : Int32)), .val (.long p0), .second, .val (.long t1), .second, .val (.long t2), .second, .val (.ref a5), .val (.ref b0), .val (.int v163), .val (.ref b1), .val (.ref a165), .val (.long p0), .second, .unset, .unset, .unset, .unset] [(.long p0), (.long p0), (.long p0)])) _
        refine g_callS X187 hx hZ hown (by rw [hml]; rfl) rfl (hw _ (List.mem_of_getElem? (i := 1) rfl)) (hw _ (List.mem_of_getElem? (i := 2) rfl)) (hw _ (List.mem_of_getElem? (i := 3) rfl)) (hw _ (List.mem_of_getElem? (i := 4) rfl)) (rmX l Z a0 hw p0 p0 T187.heap) [(.long p0), (.long p0)] rfl [(.long p0)] rfl (lenOf pd_1 rfl) (hb hby at_188) (by decide) 2 (by decide) (by decide) (by first | decide | exact Nat.le_refl _) (by decide) (by decide) (fun v T203 L203 X203 hQ203 => ?_)
        obtain ⟨rfl, e203, rfl⟩ := hQ203
        have N204 := Fr.app N199 (Fr.nil h0.size)
        show Goes p.tables e below (T203.setTop (mkF m 191 #[.val (.long p0), .second, .val (.long p1), .second, .val (.long p2), .second, .val (.int p3), .val (.int p4), .val (.int (1 : Int32)), .val (.long p0), .second, .val (.long t1), .second, .val (.long t2), .second, .val (.ref a5), .val (.ref b0), .val (.int v163), .val (.ref b1), .val (.ref a165), .val (.long p0), .second, .unset, .unset, .unset, .unset] [(.long (maxV p0 p0)), (.long p0)])) _
        refine g_callS X203 hx hZ hown (by rw [hml]; rfl) e203 (hw _ (List.mem_of_getElem? (i := 1) rfl)) (hw _ (List.mem_of_getElem? (i := 2) rfl)) (hw _ (List.mem_of_getElem? (i := 3) rfl)) (hw _ (List.mem_of_getElem? (i := 4) rfl)) (rmX l Z a0 hw p0 (maxV p0 p0) T187.heap) [(.long p0), (.long (maxV p0 p0))] rfl [] rfl (lenOf pd_1 rfl) (hb hby at_191) (by decide) 0 (by decide) (by decide) (by first | decide | exact Nat.le_refl _) (by decide) (by decide) (fun v T205 L205 X205 hQ205 => ?_)
        obtain ⟨rfl, e205, rfl⟩ := hQ205
        have N206 := Fr.app N204 (Fr.nil h0.size)
        show Goes p.tables e below (T205.setTop (mkF m 194 #[.val (.long p0), .second, .val (.long p1), .second, .val (.long p2), .second, .val (.int p3), .val (.int p4), .val (.int (1 : Int32)), .val (.long p0), .second, .val (.long t1), .second, .val (.long t2), .second, .val (.ref a5), .val (.ref b0), .val (.int v163), .val (.ref b1), .val (.ref a165), .val (.long p0), .second, .unset, .unset, .unset, .unset] [(.long (maxV p0 (maxV p0 p0)))])) _
        obtain ⟨vlat, hvlat⟩ : ∃ z : Int64, z = (maxV p0 (maxV p0 p0)) := ⟨_, rfl⟩
        refine g_nameL hvlat ?_
        show Goes p.tables e below (T205.setTop (mkF m 194 #[.val (.long p0), .second, .val (.long p1), .second, .val (.long p2), .second, .val (.int p3), .val (.int p4), .val (.int (1 : Int32)), .val (.long p0), .second, .val (.long t1), .second, .val (.long t2), .second, .val (.ref a5), .val (.ref b0), .val (.int v163), .val (.ref b1), .val (.ref a165), .val (.long p0), .second, .unset, .unset, .unset, .unset] [(.long vlat)])) _
        refine g_lstore X205 hx (hb hby at_194) (l' := #[.val (.long p0), .second, .val (.long p1), .second, .val (.long p2), .second, .val (.int p3), .val (.int p4), .val (.int (1 : Int32)), .val (.long p0), .second, .val (.long t1), .second, .val (.long t2), .second, .val (.ref a5), .val (.ref b0), .val (.int v163), .val (.ref b1), .val (.ref a165), .val (.long p0), .second, .val (.long vlat), .second, .unset, .unset]) rfl ?_
        show Goes p.tables e below (T205.setTop (mkF m 196 #[.val (.long p0), .second, .val (.long p1), .second, .val (.long p2), .second, .val (.int p3), .val (.int p4), .val (.int (1 : Int32)), .val (.long p0), .second, .val (.long t1), .second, .val (.long t2), .second, .val (.ref a5), .val (.ref b0), .val (.int v163), .val (.ref b1), .val (.ref a165), .val (.long p0), .second, .val (.long vlat), .second, .unset, .unset] [])) _
        refine g_aload X205 hx (hb hby at_196) rfl rfl ?_
        show Goes p.tables e below (T205.setTop (mkF m 198 #[.val (.long p0), .second, .val (.long p1), .second, .val (.long p2), .second, .val (.int p3), .val (.int p4), .val (.int (1 : Int32)), .val (.long p0), .second, .val (.long t1), .second, .val (.long t2), .second, .val (.ref a5), .val (.ref b0), .val (.int v163), .val (.ref b1), .val (.ref a165), .val (.long p0), .second, .val (.long vlat), .second, .unset, .unset] [(.ref a5)])) _
        refine g_iload X205 hx (hb hby at_198) rfl ?_
        show Goes p.tables e below (T205.setTop (mkF m 200 #[.val (.long p0), .second, .val (.long p1), .second, .val (.long p2), .second, .val (.int p3), .val (.int p4), .val (.int (1 : Int32)), .val (.long p0), .second, .val (.long t1), .second, .val (.long t2), .second, .val (.ref a5), .val (.ref b0), .val (.int v163), .val (.ref b1), .val (.ref a165), .val (.long p0), .second, .val (.long vlat), .second, .unset, .unset] [(.int (1 : Int32)), (.ref a5)])) _
        refine g_iconst X205 hx (1 : Int32) (hb hby at_200) rfl ?_
        show Goes p.tables e below (T205.setTop (mkF m 201 #[.val (.long p0), .second, .val (.long p1), .second, .val (.long p2), .second, .val (.int p3), .val (.int p4), .val (.int (1 : Int32)), .val (.long p0), .second, .val (.long t1), .second, .val (.long t2), .second, .val (.ref a5), .val (.ref b0), .val (.int v163), .val (.ref b1), .val (.ref a165), .val (.long p0), .second, .val (.long vlat), .second, .unset, .unset] [(.int (1 : Int32)), (.int (1 : Int32)), (.ref a5)])) _
        refine g_isub X205 hx (hb hby at_201) ?_
        show Goes p.tables e below (T205.setTop (mkF m 202 #[.val (.long p0), .second, .val (.long p1), .second, .val (.long p2), .second, .val (.int p3), .val (.int p4), .val (.int (1 : Int32)), .val (.long p0), .second, .val (.long t1), .second, .val (.long t2), .second, .val (.ref a5), .val (.ref b0), .val (.int v163), .val (.ref b1), .val (.ref a165), .val (.long p0), .second, .val (.long vlat), .second, .unset, .unset] [(.int ((1 : Int32) - (1 : Int32))), (.ref a5)])) _
        refine g_lload X205 hx (hb hby at_202) rfl ?_
        show Goes p.tables e below (T205.setTop (mkF m 204 #[.val (.long p0), .second, .val (.long p1), .second, .val (.long p2), .second, .val (.int p3), .val (.int p4), .val (.int (1 : Int32)), .val (.long p0), .second, .val (.long t1), .second, .val (.long t2), .second, .val (.ref a5), .val (.ref b0), .val (.int v163), .val (.ref b1), .val (.ref a165), .val (.long p0), .second, .val (.long vlat), .second, .unset, .unset] [(.long p0), (.int ((1 : Int32) - (1 : Int32))), (.ref a5)])) _
        refine g_ldc2 X205 hx hZ hown (hw _ (List.mem_of_getElem? (i := 38) rfl)) (hb hby at_204) ?_
        show Goes p.tables e below (T205.setTop (mkF m 207 #[.val (.long p0), .second, .val (.long p1), .second, .val (.long p2), .second, .val (.int p3), .val (.int p4), .val (.int (1 : Int32)), .val (.long p0), .second, .val (.long t1), .second, .val (.long t2), .second, .val (.ref a5), .val (.ref b0), .val (.int v163), .val (.ref b1), .val (.ref a165), .val (.long p0), .second, .val (.long vlat), .second, .unset, .unset] [(.long (-1 : Int64)), (.long p0), (.int ((1 : Int32) - (1 : Int32))), (.ref a5)])) _
        refine g_lxor X205 hx (hb hby at_207) ?_
        show Goes p.tables e below (T205.setTop (mkF m 208 #[.val (.long p0), .second, .val (.long p1), .second, .val (.long p2), .second, .val (.int p3), .val (.int p4), .val (.int (1 : Int32)), .val (.long p0), .second, .val (.long t1), .second, .val (.long t2), .second, .val (.ref a5), .val (.ref b0), .val (.int v163), .val (.ref b1), .val (.ref a165), .val (.long p0), .second, .val (.long vlat), .second, .unset, .unset] [(.long (p0 ^^^ (-1 : Int64))), (.int ((1 : Int32) - (1 : Int32))), (.ref a5)])) _
        refine g_lastore X205 hx hZ e205 fx197 0 (by decide) (by simp) (hb hby at_208) (fun T207 h207 X207 e207 W207 A207 => ?_)
        have fx208 : Sta Z h207 "com/example/drongo/drongo/event/RotaryEvent$Knob" "NAVIGATION" "Lcom/example/drongo/drongo/event/RotaryEvent$Knob;" (.ref b0) := Sta.wr W207 fx188
        have fx209 : Exa Z h207 b0 "com/example/drongo/drongo/event/RotaryEvent$Knob" := Exa.wr W207 fx189
        have fx210 : Sta Z h207 "com/example/drongo/drongo/event/Display" "CLUSTER" "Lcom/example/drongo/drongo/event/Display;" (.ref b1) := Sta.wr W207 fx190
        have fx211 : Exa Z h207 b1 "com/example/drongo/drongo/event/Display" := Exa.wr W207 fx191
        have fx212 : Sta Z h207 "com/example/drongo/drongo/event/RotaryEvent$Knob" "VOLUME" "Lcom/example/drongo/drongo/event/RotaryEvent$Knob;" (.ref b2) := Sta.wr W207 fx192
        have fx213 : Exa Z h207 b2 "com/example/drongo/drongo/event/RotaryEvent$Knob" := Exa.wr W207 fx193
        have fx214 : Sta Z h207 "com/example/drongo/drongo/event/Display" "MAIN" "Lcom/example/drongo/drongo/event/Display;" (.ref b3) := Sta.wr W207 fx194
        have fx215 : Exa Z h207 b3 "com/example/drongo/drongo/event/Display" := Exa.wr W207 fx195
        have fx216 : Exa Z h207 a5 "[J" := Exa.wr W207 fx196
        have fx217 : Exa Z h207 a165 "com/example/drongo/drongo/event/RotaryEvent" := Exa.wr W207 fx198
        have fx218 : Fld Z h207 a165 "com/example/drongo/drongo/event/RotaryEvent" "timesMillis" "[J" (.ref b187) := Fld.other W207 fT187 (Or.inl (Ne.symm ne170))
        have fx219 : Ar Z h207 b187 .long [(.long p0)] := Ar.other Ab187 W207 (Ne.symm ne201)
        have fx220 : Ar Z h207 a5 .long (List.set [(.long p0)] 0 (.long (p0 ^^^ (-1 : Int64)))) := A207
        have N221 := Fr.snoc X207 N206 ge10
        have Z222 : h0.size ≤ h207.size := by rw [W207.size]; exact Z200
        show Goes p.tables e below (T207.setTop (mkF m 209 #[.val (.long p0), .second, .val (.long p1), .second, .val (.long p2), .second, .val (.int p3), .val (.int p4), .val (.int (1 : Int32)), .val (.long p0), .second, .val (.long t1), .second, .val (.long t2), .second, .val (.ref a5), .val (.ref b0), .val (.int v163), .val (.ref b1), .val (.ref a165), .val (.long p0), .second, .val (.long vlat), .second, .unset, .unset] [])) _
        refine g_aload X207 hx (hb hby at_209) rfl rfl ?_
        show Goes p.tables e below (T207.setTop (mkF m 211 #[.val (.long p0), .second, .val (.long p1), .second, .val (.long p2), .second, .val (.int p3), .val (.int p4), .val (.int (1 : Int32)), .val (.long p0), .second, .val (.long t1), .second, .val (.long t2), .second, .val (.ref a5), .val (.ref b0), .val (.int v163), .val (.ref b1), .val (.ref a165), .val (.long p0), .second, .val (.long vlat), .second, .unset, .unset] [(.ref a165)])) _
        refine g_callV X207 hx hZ hown (by rw [hml]; rfl) e207 (K := "com/example/drongo/drongo/event/RotaryEvent") (hw _ (List.mem_of_getElem? (i := 39) rfl)) (hw _ (List.mem_of_getElem? (i := 40) rfl)) (hw _ (List.mem_of_getElem? (i := 42) rfl)) (hw _ (List.mem_of_getElem? (i := 41) rfl)) (hw _ (List.mem_of_getElem? (i := 14) rfl)) (hw _ (List.mem_of_getElem? (i := 43) rfl)) fx217 (rmL l Z a0 hw a165 h207 b187 [(.long p0)] (1 : Int32) 0 p0 rfl (by decide) rfl fx218 fx219) [] rfl [] rfl (lenOf pd_4 rfl) (hb hby at_211) (by decide) 0 (by decide) (by decide) (by first | decide | exact Nat.le_refl _) (by decide) (by decide) (fun v T223 L223 X223 hQ223 => ?_)
        obtain ⟨rfl, e223, rfl⟩ := hQ223
        have N224 := Fr.app N221 (Fr.nil h0.size)
        show Goes p.tables e below (T223.setTop (mkF m 214 #[.val (.long p0), .second, .val (.long p1), .second, .val (.long p2), .second, .val (.int p3), .val (.int p4), .val (.int (1 : Int32)), .val (.long p0), .second, .val (.long t1), .second, .val (.long t2), .second, .val (.ref a5), .val (.ref b0), .val (.int v163), .val (.ref b1), .val (.ref a165), .val (.long p0), .second, .val (.long vlat), .second, .unset, .unset] [(.long p0)])) _
        refine g_lstore X223 hx (hb hby at_214) (l' := #[.val (.long p0), .second, .val (.long p1), .second, .val (.long p2), .second, .val (.int p3), .val (.int p4), .val (.int (1 : Int32)), .val (.long p0), .second, .val (.long t1), .second, .val (.long t2), .second, .val (.ref a5), .val (.ref b0), .val (.int v163), .val (.ref b1), .val (.ref a165), .val (.long p0), .second, .val (.long vlat), .second, .val (.long p0), .second]) rfl ?_
        show Goes p.tables e below (T223.setTop (mkF m 216 #[.val (.long p0), .second, .val (.long p1), .second, .val (.long p2), .second, .val (.int p3), .val (.int p4), .val (.int (1 : Int32)), .val (.long p0), .second, .val (.long t1), .second, .val (.long t2), .second, .val (.ref a5), .val (.ref b0), .val (.int v163), .val (.ref b1), .val (.ref a165), .val (.long p0), .second, .val (.long vlat), .second, .val (.long p0), .second] [])) _
        refine g_lload X223 hx (hb hby at_216) rfl ?_
        show Goes p.tables e below (T223.setTop (mkF m 218 #[.val (.long p0), .second, .val (.long p1), .second, .val (.long p2), .second, .val (.int p3), .val (.int p4), .val (.int (1 : Int32)), .val (.long p0), .second, .val (.long t1), .second, .val (.long t2), .second, .val (.ref a5), .val (.ref b0), .val (.int v163), .val (.ref b1), .val (.ref a165), .val (.long p0), .second, .val (.long vlat), .second, .val (.long p0), .second] [(.long p0)])) _
        refine g_lload X223 hx (hb hby at_218) rfl ?_
        show Goes p.tables e below (T223.setTop (mkF m 220 #[.val (.long p0), .second, .val (.long p1), .second, .val (.long p2), .second, .val (.int p3), .val (.int p4), .val (.int (1 : Int32)), .val (.long p0), .second, .val (.long t1), .second, .val (.long t2), .second, .val (.ref a5), .val (.ref b0), .val (.int v163), .val (.ref b1), .val (.ref a165), .val (.long p0), .second, .val (.long vlat), .second, .val (.long p0), .second] [(.long p0), (.long p0)])) _
        refine g_lcmp X223 hx (hb hby at_220) ?_
        show Goes p.tables e below (T223.setTop (mkF m 221 #[.val (.long p0), .second, .val (.long p1), .second, .val (.long p2), .second, .val (.int p3), .val (.int p4), .val (.int (1 : Int32)), .val (.long p0), .second, .val (.long t1), .second, .val (.long t2), .second, .val (.ref a5), .val (.ref b0), .val (.int v163), .val (.ref b1), .val (.ref a165), .val (.long p0), .second, .val (.long vlat), .second, .val (.long p0), .second] [(.int (XT.cmpL p0 p0))])) _
        have c221 : p0 = p0 := rfl
        refine g_lif_ne X223 hx (hb hby at_221) (by decide) (pc' := 247) (by decide) (fun q => absurd c221 q) (fun _ => ?_)
        show Goes p.tables e below (T223.setTop (mkF m 224 #[.val (.long p0), .second, .val (.long p1), .second, .val (.long p2), .second, .val (.int p3), .val (.int p4), .val (.int (1 : Int32)), .val (.long p0), .second, .val (.long t1), .second, .val (.long t2), .second, .val (.ref a5), .val (.ref b0), .val (.int v163), .val (.ref b1), .val (.ref a165), .val (.long p0), .second, .val (.long vlat), .second, .val (.long p0), .second] [])) _
        refine g_lload X223 hx (hb hby at_224) rfl ?_
        show Goes p.tables e below (T223.setTop (mkF m 226 #[.val (.long p0), .second, .val (.long p1), .second, .val (.long p2), .second, .val (.int p3), .val (.int p4), .val (.int (1 : Int32)), .val (.long p0), .second, .val (.long t1), .second, .val (.long t2), .second, .val (.ref a5), .val (.ref b0), .val (.int v163), .val (.ref b1), .val (.ref a165), .val (.long p0), .second, .val (.long vlat), .second, .val (.long p0), .second] [(.long p0)])) _
        refine g_lload X223 hx (hb hby at_226) rfl ?_
        show Goes p.tables e below (T223.setTop (mkF m 228 #[.val (.long p0), .second, .val (.long p1), .second, .val (.long p2), .second, .val (.int p3), .val (.int p4), .val (.int (1 : Int32)), .val (.long p0), .second, .val (.long t1), .second, .val (.long t2), .second, .val (.ref a5), .val (.ref b0), .val (.int v163), .val (.ref b1), .val (.ref a165), .val (.long p0), .second, .val (.long vlat), .second, .val (.long p0), .second] [(.long vlat), (.long p0)])) _
        refine g_lcmp X223 hx (hb hby at_228) ?_
        show Goes p.tables e below (T223.setTop (mkF m 229 #[.val (.long p0), .second, .val (.long p1), .second, .val (.long p2), .second, .val (.int p3), .val (.int p4), .val (.int (1 : Int32)), .val (.long p0), .second, .val (.long t1), .second, .val (.long t2), .second, .val (.ref a5), .val (.ref b0), .val (.int v163), .val (.ref b1), .val (.ref a165), .val (.long p0), .second, .val (.long vlat), .second, .val (.long p0), .second] [(.int (XT.cmpL p0 vlat))])) _
        have c229 : p0 = vlat := (by rw [hvlat, own_max1, own_max1])
        refine g_lif_ne X223 hx (hb hby at_229) (by decide) (pc' := 247) (by decide) (fun q => absurd c229 q) (fun _ => ?_)
        show Goes p.tables e below (T223.setTop (mkF m 232 #[.val (.long p0), .second, .val (.long p1), .second, .val (.long p2), .second, .val (.int p3), .val (.int p4), .val (.int (1 : Int32)), .val (.long p0), .second, .val (.long t1), .second, .val (.long t2), .second, .val (.ref a5), .val (.ref b0), .val (.int v163), .val (.ref b1), .val (.ref a165), .val (.long p0), .second, .val (.long vlat), .second, .val (.long p0), .second] [])) _
        refine g_aload X223 hx (hb hby at_232) rfl rfl ?_
        show Goes p.tables e below (T223.setTop (mkF m 234 #[.val (.long p0), .second, .val (.long p1), .second, .val (.long p2), .second, .val (.int p3), .val (.int p4), .val (.int (1 : Int32)), .val (.long p0), .second, .val (.long t1), .second, .val (.long t2), .second, .val (.ref a5), .val (.ref b0), .val (.int v163), .val (.ref b1), .val (.ref a165), .val (.long p0), .second, .val (.long vlat), .second, .val (.long p0), .second] [(.ref a165)])) _
        refine g_callV X223 hx hZ hown (by rw [hml]; rfl) e223 (K := "com/example/drongo/drongo/event/RotaryEvent") (hw _ (List.mem_of_getElem? (i := 39) rfl)) (hw _ (List.mem_of_getElem? (i := 40) rfl)) (hw _ (List.mem_of_getElem? (i := 42) rfl)) (hw _ (List.mem_of_getElem? (i := 41) rfl)) (hw _ (List.mem_of_getElem? (i := 14) rfl)) (hw _ (List.mem_of_getElem? (i := 43) rfl)) fx217 (rmL l Z a0 hw a165 h207 b187 [(.long p0)] (1 : Int32) 0 p0 rfl (by decide) rfl fx218 fx219) [] rfl [] rfl (lenOf pd_4 rfl) (hb hby at_234) (by decide) 0 (by decide) (by decide) (by first | decide | exact Nat.le_refl _) (by decide) (by decide) (fun v T225 L225 X225 hQ225 => ?_)
        obtain ⟨rfl, e225, rfl⟩ := hQ225
        have N226 := Fr.app N224 (Fr.nil h0.size)
        show Goes p.tables e below (T225.setTop (mkF m 237 #[.val (.long p0), .second, .val (.long p1), .second, .val (.long p2), .second, .val (.int p3), .val (.int p4), .val (.int (1 : Int32)), .val (.long p0), .second, .val (.long t1), .second, .val (.long t2), .second, .val (.ref a5), .val (.ref b0), .val (.int v163), .val (.ref b1), .val (.ref a165), .val (.long p0), .second, .val (.long vlat), .second, .val (.long p0), .second] [(.long p0)])) _
        refine g_lload X225 hx (hb hby at_237) rfl ?_
        show Goes p.tables e below (T225.setTop (mkF m 239 #[.val (.long p0), .second, .val (.long p1), .second, .val (.long p2), .second, .val (.int p3), .val (.int p4), .val (.int (1 : Int32)), .val (.long p0), .second, .val (.long t1), .second, .val (.long t2), .second, .val (.ref a5), .val (.ref b0), .val (.int v163), .val (.ref b1), .val (.ref a165), .val (.long p0), .second, .val (.long vlat), .second, .val (.long p0), .second] [(.long p0), (.long p0)])) _
        refine g_lcmp X225 hx (hb hby at_239) ?_
        show Goes p.tables e below (T225.setTop (mkF m 240 #[.val (.long p0), .second, .val (.long p1), .second, .val (.long p2), .second, .val (.int p3), .val (.int p4), .val (.int (1 : Int32)), .val (.long p0), .second, .val (.long t1), .second, .val (.long t2), .second, .val (.ref a5), .val (.ref b0), .val (.int v163), .val (.ref b1), .val (.ref a165), .val (.long p0), .second, .val (.long vlat), .second, .val (.long p0), .second] [(.int (XT.cmpL p0 p0))])) _
        have c240 : p0 = p0 := rfl
        refine g_lif_ne X225 hx (hb hby at_240) (by decide) (pc' := 247) (by decide) (fun q => absurd c240 q) (fun _ => ?_)
        show Goes p.tables e below (T225.setTop (mkF m 243 #[.val (.long p0), .second, .val (.long p1), .second, .val (.long p2), .second, .val (.int p3), .val (.int p4), .val (.int (1 : Int32)), .val (.long p0), .second, .val (.long t1), .second, .val (.long t2), .second, .val (.ref a5), .val (.ref b0), .val (.int v163), .val (.ref b1), .val (.ref a165), .val (.long p0), .second, .val (.long vlat), .second, .val (.long p0), .second] [])) _
        refine g_iconst X225 hx (1 : Int32) (hb hby at_243) rfl ?_
        show Goes p.tables e below (T225.setTop (mkF m 244 #[.val (.long p0), .second, .val (.long p1), .second, .val (.long p2), .second, .val (.int p3), .val (.int p4), .val (.int (1 : Int32)), .val (.long p0), .second, .val (.long t1), .second, .val (.long t2), .second, .val (.ref a5), .val (.ref b0), .val (.int v163), .val (.ref b1), .val (.ref a165), .val (.long p0), .second, .val (.long vlat), .second, .val (.long p0), .second] [(.int (1 : Int32))])) _
        refine g_goto X225 hx (hb hby at_244) (by decide) (pc' := 248) (by decide) ?_
        show Goes p.tables e below (T225.setTop (mkF m 248 #[.val (.long p0), .second, .val (.long p1), .second, .val (.long p2), .second, .val (.int p3), .val (.int p4), .val (.int (1 : Int32)), .val (.long p0), .second, .val (.long t1), .second, .val (.long t2), .second, .val (.ref a5), .val (.ref b0), .val (.int v163), .val (.ref b1), .val (.ref a165), .val (.long p0), .second, .val (.long vlat), .second, .val (.long p0), .second] [(.int (1 : Int32))])) _
        exact g_retZ X225 hx (hz := (by decide)) hret hlk (hb hby at_248) (by decide) (by decide) ⟨rfl, N226⟩
      · skip
        show Goes p.tables e below (T162.setTop (mkF m 106 #[.val (.long p0), .second, .val (.long p1), .second, .val (.long p2), .second, .val (.int p3), .val (.int p4), .val (.int (1 : Int32)), .val (.long p0), .second, .val (.long t1), .second, .val (.long t2), .second, .val (.ref a5), .val (.ref b0), .val (.int v163), .unset, .unset, .unset, .unset, .unset, .unset, .unset, .unset] [])) _
        refine g_getS X162 hx hZ hown e162 (host := "") (Or.inl (hw _ (List.mem_of_getElem? (i := 46) rfl))) fx28 (hb hby at_106) (fun T227 X227 e227 => ?_)
        show Goes p.tables e below (T227.setTop (mkF m 109 #[.val (.long p0), .second, .val (.long p1), .second, .val (.long p2), .second, .val (.int p3), .val (.int p4), .val (.int (1 : Int32)), .val (.long p0), .second, .val (.long t1), .second, .val (.long t2), .second, .val (.ref a5), .val (.ref b0), .val (.int v163), .unset, .unset, .unset, .unset, .unset, .unset, .unset, .unset] [(.ref b3)])) _
        refine g_goto X227 hx (hb hby at_109) (by decide) (pc' := 115) (by decide) ?_
        show Goes p.tables e below (T227.setTop (mkF m 115 #[.val (.long p0), .second, .val (.long p1), .second, .val (.long p2), .second, .val (.int p3), .val (.int p4), .val (.int (1 : Int32)), .val (.long p0), .second, .val (.long t1), .second, .val (.long t2), .second, .val (.ref a5), .val (.ref b0), .val (.int v163), .unset, .unset, .unset, .unset, .unset, .unset, .unset, .unset] [(.ref b3)])) _
        refine g_astore X227 hx (hb hby at_115) rfl (l' := #[.val (.long p0), .second, .val (.long p1), .second, .val (.long p2), .second, .val (.int p3), .val (.int p4), .val (.int (1 : Int32)), .val (.long p0), .second, .val (.long t1), .second, .val (.long t2), .second, .val (.ref a5), .val (.ref b0), .val (.int v163), .val (.ref b3), .unset, .unset, .unset, .unset, .unset, .unset, .unset]) rfl ?_
        show Goes p.tables e below (T227.setTop (mkF m 117 #[.val (.long p0), .second, .val (.long p1), .second, .val (.long p2), .second, .val (.int p3), .val (.int p4), .val (.int (1 : Int32)), .val (.long p0), .second, .val (.long t1), .second, .val (.long t2), .second, .val (.ref a5), .val (.ref b0), .val (.int v163), .val (.ref b3), .unset, .unset, .unset, .unset, .unset, .unset, .unset] [])) _
        refine g_new X227 hx hZ hown e227 (hw _ (List.mem_of_getElem? (i := 12) rfl)) (hw _ (List.mem_of_getElem? (i := 13) rfl)) (hw _ (List.mem_of_getElem? (i := 14) rfl)) (hb hby at_117) (by decide) (by decide) (fun T228 h228 a228 ga228 X228 e228 Ex228 Ea228 Df228 => ?_)
        have ne229 : b0 ≠ a228 := Nat.ne_of_lt (by rw [ga228]; exact fx23.lt)
        have ne230 : b1 ≠ a228 := Nat.ne_of_lt (by rw [ga228]; exact fx25.lt)
        have ne231 : b2 ≠ a228 := Nat.ne_of_lt (by rw [ga228]; exact fx27.lt)
        have ne232 : b3 ≠ a228 := Nat.ne_of_lt (by rw [ga228]; exact fx29.lt)
        have ne233 : a5 ≠ a228 := Nat.ne_of_lt (by rw [ga228]; exact fx30.lt)
        have ge234 : h0.size ≤ a228 := by rw [ga228]; exact Z33
        have fx235 : Sta Z h228 "com/example/drongo/drongo/event/RotaryEvent$Knob" "NAVIGATION" "Lcom/example/drongo/drongo/event/RotaryEvent$Knob;" (.ref b0) := Sta.ext Ex228 fx22
        have fx236 : Exa Z h228 b0 "com/example/drongo/drongo/event/RotaryEvent$Knob" := Exa.ext Ex228 fx23
        have fx237 : Sta Z h228 "com/example/drongo/drongo/event/Display" "CLUSTER" "Lcom/example/drongo/drongo/event/Display;" (.ref b1) := Sta.ext Ex228 fx24
        have fx238 : Exa Z h228 b1 "com/example/drongo/drongo/event/Display" := Exa.ext Ex228 fx25
        have fx239 : Sta Z h228 "com/example/drongo/drongo/event/RotaryEvent$Knob" "VOLUME" "Lcom/example/drongo/drongo/event/RotaryEvent$Knob;" (.ref b2) := Sta.ext Ex228 fx26
        have fx240 : Exa Z h228 b2 "com/example/drongo/drongo/event/RotaryEvent$Knob" := Exa.ext Ex228 fx27
        have fx241 : Sta Z h228 "com/example/drongo/drongo/event/Display" "MAIN" "Lcom/example/drongo/drongo/event/Display;" (.ref b3) := Sta.ext Ex228 fx28
        have fx242 : Exa Z h228 b3 "com/example/drongo/drongo/event/Display" := Exa.ext Ex228 fx29
        have fx243 : Exa Z h228 a5 "[J" := Exa.ext Ex228 fx30
        have fx244 : Ar Z h228 a5 .long [(.long p0)] := Ar.ext fx31 Ex228
        have Z245 : h0.size ≤ h228.size := Nat.le_trans Z33 Ex228.1
        have fx246 : Fld Z h228 a228 "com/example/drongo/drongo/event/RotaryEvent" "knob" "Lcom/example/drongo/drongo/event/RotaryEvent$Knob;" .null := Df228 (Or.inr (hw _ (List.mem_of_getElem? (i := 22) rfl))) (ty := (.object "com/example/drongo/drongo/event/RotaryEvent$Knob")) (by decide)
        have fx247 : Fld Z h228 a228 "com/example/drongo/drongo/event/RotaryEvent" "clockwise" "Z" (.int (0 : Int32)) := Df228 (Or.inr (hw _ (List.mem_of_getElem? (i := 24) rfl))) (ty := .boolean) (by decide)
        have fx248 : Fld Z h228 a228 "com/example/drongo/drongo/event/RotaryEvent" "display" "Lcom/example/drongo/drongo/event/Display;" .null := Df228 (Or.inr (hw _ (List.mem_of_getElem? (i := 26) rfl))) (ty := (.object "com/example/drongo/drongo/event/Display")) (by decide)
        have fx249 : Fld Z h228 a228 "com/example/drongo/drongo/event/RotaryEvent" "timesMillis" "[J" .null := Df228 (Or.inr (hw _ (List.mem_of_getElem? (i := 37) rfl))) (ty := (.array .long)) (by decide)
        show Goes p.tables e below (T228.setTop (mkF m 120 #[.val (.long p0), .second, .val (.long p1), .second, .val (.long p2), .second, .val (.int p3), .val (.int p4), .val (.int (1 : Int32)), .val (.long p0), .second, .val (.long t1), .second, .val (.long t2), .second, .val (.ref a5), .val (.ref b0), .val (.int v163), .val (.ref b3), .unset, .unset, .unset, .unset, .unset, .unset, .unset] [(.ref a228)])) _
        refine g_dup X228 hx (hb hby at_120) rfl ?_
        show Goes p.tables e below (T228.setTop (mkF m 121 #[.val (.long p0), .second, .val (.long p1), .second, .val (.long p2), .second, .val (.int p3), .val (.int p4), .val (.int (1 : Int32)), .val (.long p0), .second, .val (.long t1), .second, .val (.long t2), .second, .val (.ref a5), .val (.ref b0), .val (.int v163), .val (.ref b3), .unset, .unset, .unset, .unset, .unset, .unset, .unset] [(.ref a228), (.ref a228)])) _
        refine g_aload X228 hx (hb hby at_121) rfl rfl ?_
        show Goes p.tables e below (T228.setTop (mkF m 123 #[.val (.long p0), .second, .val (.long p1), .second, .val (.long p2), .second, .val (.int p3), .val (.int p4), .val (.int (1 : Int32)), .val (.long p0), .second, .val (.long t1), .second, .val (.long t2), .second, .val (.ref a5), .val (.ref b0), .val (.int v163), .val (.ref b3), .unset, .unset, .unset, .unset, .unset, .unset, .unset] [(.ref b0), (.ref a228), (.ref a228)])) _
        refine g_iload X228 hx (hb hby at_123) rfl ?_
        show Goes p.tables e below (T228.setTop (mkF m 125 #[.val (.long p0), .second, .val (.long p1), .second, .val (.long p2), .second, .val (.int p3), .val (.int p4), .val (.int (1 : Int32)), .val (.long p0), .second, .val (.long t1), .second, .val (.long t2), .second, .val (.ref a5), .val (.ref b0), .val (.int v163), .val (.ref b3), .unset, .unset, .unset, .unset, .unset, .unset, .unset] [(.int v163), (.ref b0), (.ref a228), (.ref a228)])) _
        refine g_aload X228 hx (hb hby at_125) rfl rfl ?_
        show Goes p.tables e below (T228.setTop (mkF m 127 #[.val (.long p0), .second, .val (.long p1), .second, .val (.long p2), .second, .val (.int p3), .val (.int p4), .val (.int (1 : Int32)), .val (.long p0), .second, .val (.long t1), .second, .val (.long t2), .second, .val (.ref a5), .val (.ref b0), .val (.int v163), .val (.ref b3), .unset, .unset, .unset, .unset, .unset, .unset, .unset] [(.ref b3), (.int v163), (.ref b0), (.ref a228), (.ref a228)])) _
        refine g_aload X228 hx (hb hby at_127) rfl rfl ?_
        show Goes p.tables e below (T228.setTop (mkF m 129 #[.val (.long p0), .second, .val (.long p1), .second, .val (.long p2), .second, .val (.int p3), .val (.int p4), .val (.int (1 : Int32)), .val (.long p0), .second, .val (.long t1), .second, .val (.long t2), .second, .val (.ref a5), .val (.ref b0), .val (.int v163), .val (.ref b3), .unset, .unset, .unset, .unset, .unset, .unset, .unset] [(.ref a5), (.ref b3), (.int v163), (.ref b0), (.ref a228), (.ref a228)])) _
        have lta := fx244.lt
        have ltb := Ea228.lt
        refine g_callI X228 hx hZ hown (by rw [hml]; rfl) e228 rfl (hw _ (List.mem_of_getElem? (i := 15) rfl)) (hw _ (List.mem_of_getElem? (i := 16) rfl)) (hw _ (List.mem_of_getElem? (i := 14) rfl)) (hw _ (List.mem_of_getElem? (i := 17) rfl)) (rmI l Z a0 hw a228 b0 v163 b3 a5 h228 h0.size Z245 [(.long p0)] (by simp) fx246 fx247 fx248 fx249 Ea228 fx244 fx243 ge234 ne233) a228 [(.ref b0), (.int v163), (.ref b3), (.ref a5)] rfl [(.ref a228)] rfl (lenOf pd_2 rfl) (hb hby at_129) (by decide) 1 (by decide) (by decide) (by first | decide | exact Nat.le_refl _) (by decide) (by decide) (fun v T250 L250 X250 hQ250 => ?_)
        obtain ⟨rfl, Nc250, Kc250, b250, gb250, hb250, fT250, Ab250⟩ := hQ250
        have fx251 : Sta Z T250.heap "com/example/drongo/drongo/event/RotaryEvent$Knob" "NAVIGATION" "Lcom/example/drongo/drongo/event/RotaryEvent$Knob;" (.ref b0) := own_stakeep fx235 Kc250 (allS (own_nst Ea228) all0)
        have fx252 : Exa Z T250.heap b0 "com/example/drongo/drongo/event/RotaryEvent$Knob" := Exa.keep fx236 Kc250
        have fx253 : Sta Z T250.heap "com/example/drongo/drongo/event/Display" "CLUSTER" "Lcom/example/drongo/drongo/event/Display;" (.ref b1) := own_stakeep fx237 Kc250 (allS (own_nst Ea228) all0)
        have fx254 : Exa Z T250.heap b1 "com/example/drongo/drongo/event/Display" := Exa.keep fx238 Kc250
        have fx255 : Sta Z T250.heap "com/example/drongo/drongo/event/RotaryEvent$Knob" "VOLUME" "Lcom/example/drongo/drongo/event/RotaryEvent$Knob;" (.ref b2) := own_stakeep fx239 Kc250 (allS (own_nst Ea228) all0)
        have fx256 : Exa Z T250.heap b2 "com/example/drongo/drongo/event/RotaryEvent$Knob" := Exa.keep fx240 Kc250
        have fx257 : Sta Z T250.heap "com/example/drongo/drongo/event/Display" "MAIN" "Lcom/example/drongo/drongo/event/Display;" (.ref b3) := own_stakeep fx241 Kc250 (allS (own_nst Ea228) all0)
        have fx258 : Exa Z T250.heap b3 "com/example/drongo/drongo/event/Display" := Exa.keep fx242 Kc250
        have fx259 : Exa Z T250.heap a5 "[J" := Exa.keep fx243 Kc250
        have fx260 : Ar Z T250.heap a5 .long [(.long p0)] := Ar.keep fx244 Kc250 (ninS ne233 nin0)
        have fx261 : Exa Z T250.heap a228 "com/example/drongo/drongo/event/RotaryEvent" := Exa.keep Ea228 Kc250
        have N262 := Fr.app N32 Nc250
        have Z263 : h0.size ≤ T250.heap.size := Nat.le_trans Z245 Kc250.1
        have ne264 : a5 ≠ b250 := Nat.ne_of_lt (Nat.lt_of_lt_of_le lta hb250)
        have ne265 : a228 ≠ b250 := Nat.ne_of_lt (Nat.lt_of_lt_of_le ltb hb250)
        show Goes p.tables e below (T250.setTop (mkF m 132 #[.val (.long p0), .second, .val (.long p1), .second, .val (.long p2), .second, .val (.int p3), .val (.int p4), .val (.int (1 : Int32)), .val (.long p0), .second, .val (.long t1), .second, .val (.long t2), .second, .val (.ref a5), .val (.ref b0), .val (.int v163), .val (.ref b3), .unset, .unset, .unset, .unset, .unset, .unset, .unset] [(.ref a228)])) _
        refine g_astore X250 hx (hb hby at_132) rfl (l' := #[.val (.long p0), .second, .val (.long p1), .second, .val (.long p2), .second, .val (.int p3), .val (.int p4), .val (.int (1 : Int32)), .val (.long p0), .second, .val (.long t1), .second, .val (.long t2), .second, .val (.ref a5), .val (.ref b0), .val (.int v163), .val (.ref b3), .val (.ref a228), .unset, .unset, .unset, .unset, .unset, .unset]) rfl ?_
        show Goes p.tables e below (T250.setTop (mkF m 134 #[.val (.long p0), .second, .val (.long p1), .second, .val (.long p2), .second, .val (.int p3), .val (.int p4), .val (.int (1 : Int32)), .val (.long p0), .second, .val (.long t1), .second, .val (.long t2), .second, .val (.ref a5), .val (.ref b0), .val (.int v163), .val (.ref b3), .val (.ref a228), .unset, .unset, .unset, .unset, .unset, .unset] [])) _
        refine g_iload X250 hx (hb hby at_134) rfl ?_
        show Goes p.tables e below (T250.setTop (mkF m 136 #[.val (.long p0), .second, .val (.long p1), .second, .val (.long p2), .second, .val (.int p3), .val (.int p4), .val (.int (1 : Int32)), .val (.long p0), .second, .val (.long t1), .second, .val (.long t2), .second, .val (.ref a5), .val (.ref b0), .val (.int v163), .val (.ref b3), .val (.ref a228), .unset, .unset, .unset, .unset, .unset, .unset] [(.int (1 : Int32))])) _
        refine g_iconst X250 hx (1 : Int32) (hb hby at_136) rfl ?_
        show Goes p.tables e below (T250.setTop (mkF m 137 #[.val (.long p0), .second, .val (.long p1), .second, .val (.long p2), .second, .val (.int p3), .val (.int p4), .val (.int (1 : Int32)), .val (.long p0), .second, .val (.long t1), .second, .val (.long t2), .second, .val (.ref a5), .val (.ref b0), .val (.int v163), .val (.ref b3), .val (.ref a228), .unset, .unset, .unset, .unset, .unset, .unset] [(.int (1 : Int32)), (.int (1 : Int32))])) _
        refine g_icmp_ne X250 hx (hb hby at_137) (by decide) (pc' := 145) (by decide) (fun q => absurd (by decide) q) (fun _ => ?_)
        show Goes p.tables e below (T250.setTop (mkF m 140 #[.val (.long p0), .second, .val (.long p1), .second, .val (.long p2), .second, .val (.int p3), .val (.int p4), .val (.int (1 : Int32)), .val (.long p0), .second, .val (.long t1), .second, .val (.long t2), .second, .val (.ref a5), .val (.ref b0), .val (.int v163), .val (.ref b3), .val (.ref a228), .unset, .unset, .unset, .unset, .unset, .unset] [])) _
        refine g_lload X250 hx (hb hby at_140) rfl ?_
        show Goes p.tables e below (T250.setTop (mkF m 142 #[.val (.long p0), .second, .val (.long p1), .second, .val (.long p2), .second, .val (.int p3), .val (.int p4), .val (.int (1 : Int32)), .val (.long p0), .second, .val (.long t1), .second, .val (.long t2), .second, .val (.ref a5), .val (.ref b0), .val (.int v163), .val (.ref b3), .val (.ref a228), .unset, .unset, .unset, .unset, .unset, .unset] [(.long p0)])) _
        refine g_goto X250 hx (hb hby at_142) (by decide) (pc' := 158) (by decide) ?_
        show Goes p.tables e below (T250.setTop (mkF m 158 #[.val (.long p0), .second, .val (.long p1), .second, .val (.long p2), .second, .val (.int p3), .val (.int p4), .val (.int (1 : Int32)), .val (.long p0), .second, .val (.long t1), .second, .val (.long t2), .second, .val (.ref a5), .val (.ref b0), .val (.int v163), .val (.ref b3), .val (.ref a228), .unset, .unset, .unset, .unset, .unset, .unset] [(.long p0)])) _
        refine g_lstore X250 hx (hb hby at_158) (l' := #[.val (.long p0), .second, .val (.long p1), .second, .val (.long p2), .second, .val (.int p3), .val (.int p4), .val (.int (1 : Int32)), .val (.long p0), .second, .val (.long t1), .second, .val (.long t2), .second, .val (.ref a5), .val (.ref b0), .val (.int v163), .val (.ref b3), .val (.ref a228), .val (.long p0), .second, .unset, .unset, .unset, .unset]) rfl ?_
        show Goes p.tables e below (T250.setTop (mkF m 160 #[.val (.long p0), .second, .val (.long p1), .second, .val (.long p2), .second, .val (.int p3), .val (.int p4), .val (.int (1 : Int32)), .val (.long p0), .second, .val (.long t1), .second, .val (.long t2), .second, .val (.ref a5), .val (.ref b0), .val (.int v163), .val (.ref b3), .val (.ref a228), .val (.long p0), .second, .unset, .unset, .unset, .unset] [])) _
        refine g_lload X250 hx (hb hby at_160) rfl ?_
        show Goes p.tables e below (T250.setTop (mkF m 162 #[.val (.long p0), .second, .val (.long p1), .second, .val (.long p2), .second, .val (.int p3), .val (.int p4), .val (.int (1 : Int32)), .val (.long p0), .second, .val (.long t1), .second, .val (.long t2), .second, .val (.ref a5), .val (.ref b0), .val (.int v163), .val (.ref b3), .val (.ref a228), .val (.long p0), .second, .unset, .unset, .unset, .unset] [(.long p0)])) _
        refine g_iload X250 hx (hb hby at_162) rfl ?_
        show Goes p.tables e below (T250.setTop (mkF m 164 #[.val (.long p0), .second, .val (.long p1), .second, .val (.long p2), .second, .val (.int p3), .val (.int p4), .val (.int (1 : Int32)), .val (.long p0), .second, .val (.long t1), .second, .val (.long t2), .second, .val (.ref a5), .val (.ref b0), .val (.int v163), .val (.ref b3), .val (.ref a228), .val (.long p0), .second, .unset, .unset, .unset, .unset] [(.int (1 : Int32)), (.long p0)])) _
        refine g_iconst X250 hx (1 : Int32) (hb hby at_164) rfl ?_
        show Goes p.tables e below (T250.setTop (mkF m 165 #[.val (.long p0), .second, .val (.long p1), .second, .val (.long p2), .second, .val (.int p3), .val (.int p4), .val (.int (1 : Int32)), .val (.long p0), .second, .val (.long t1), .second, .val (.long t2), .second, .val (.ref a5), .val (.ref b0), .val (.int v163), .val (.ref b3), .val (.ref a228), .val (.long p0), .second, .unset, .unset, .unset, .unset] [(.int (1 : Int32)), (.int (1 : Int32)), (.long p0)])) _
        refine g_icmp_le X250 hx (hb hby at_165) (by decide) (pc' := 173) (by decide) (fun _ => ?_) (fun q => absurd q (by decide))
        show Goes p.tables e below (T250.setTop (mkF m 173 #[.val (.long p0), .second, .val (.long p1), .second, .val (.long p2), .second, .val (.int p3), .val (.int p4), .val (.int (1 : Int32)), .val (.long p0), .second, .val (.long t1), .second, .val (.long t2), .second, .val (.ref a5), .val (.ref b0), .val (.int v163), .val (.ref b3), .val (.ref a228), .val (.long p0), .second, .unset, .unset, .unset, .unset] [(.long p0)])) _
        refine g_lload X250 hx (hb hby at_173) rfl ?_
        show Goes p.tables e below (T250.setTop (mkF m 175 #[.val (.long p0), .second, .val (.long p1), .second, .val (.long p2), .second, .val (.int p3), .val (.int p4), .val (.int (1 : Int32)), .val (.long p0), .second, .val (.long t1), .second, .val (.long t2), .second, .val (.ref a5), .val (.ref b0), .val (.int v163), .val (.ref b3), .val (.ref a228), .val (.long p0), .second, .unset, .unset, .unset, .unset] [(.long p0), (.long p0)])) _
        refine g_iload X250 hx (hb hby at_175) rfl ?_
        show Goes p.tables e below (T250.setTop (mkF m 177 #[.val (.long p0), .second, .val (.long p1), .second, .val (.long p2), .second, .val (.int p3), .val (.int p4), .val (.int (1 : Int32)), .val (.long p0), .second, .val (.long t1), .second, .val (.long t2), .second, .val (.ref a5), .val (.ref b0), .val (.int v163), .val (.ref b3), .val (.ref a228), .val (.long p0), .second, .unset, .unset, .unset, .unset] [(.int (1 : Int32)), (.long p0), (.long p0)])) _
        refine g_iconst X250 hx (2 : Int32) (hb hby at_177) rfl ?_
        show Goes p.tables e below (T250.setTop (mkF m 178 #[.val (.long p0), .second, .val (.long p1), .second, .val (.long p2), .second, .val (.int p3), .val (.int p4), .val (.int (1 : Int32)), .val (.long p0), .second, .val (.long t1), .second, .val (.long t2), .second, .val (.ref a5), .val (.ref b0), .val (.int v163), .val (.ref b3), .val (.ref a228), .val (.long p0), .second, .unset, .unset, .unset, .unset] [(.int (2 : Int32)), (.int (1 : Int32)), (.long p0), (.long p0)])) _
        refine g_icmp_le X250 hx (hb hby at_178) (by decide) (pc' := 186) (by decide) (fun _ => ?_) (fun q => absurd q (by decide))
        show Goes p.tables e below (T250.setTop (mkF m 186 #[.val (.long p0), .second, .val (.long p1), .second, .val (.long p2), .second, .val (.int p3), .val (.int p4), .val (.int (1 : Int32)), .val (.long p0), .second, .val (.long t1), .second, .val (.long t2), .second, .val (.ref a5), .val (.ref b0), .val (.int v163), .val (.ref b3), .val (.ref a228), .val (.long p0), .second, .unset, .unset, .unset, .unset] [(.long p0), (.long p0)])) _
        refine g_lload X250 hx (hb hby at_186) rfl ?_
        show Goes p.tables e below (T250.setTop (mkF m 188 #[.val (.long p0), .second, .val (.long p1), .second, .val (.long p2), .second, .val (.int p3), .val (.int p4), .val (.int (1 : Int32)), .val (.long p0), .second, .val (.long t1), .second, .val (.long t2), .second, .val (.ref a5), .val (.ref b0), .val (.int v163), .val (.ref b3), .val (.ref a228), .val (.long p0), .second, .unset, .unset, .unset, .unset] [(.long p0), (.long p0), (.long p0)])) _
        refine g_callS X250 hx hZ hown (by rw [hml]; rfl) rfl (hw _ (List.mem_of_getElem? (i := 1) rfl)) (hw _ (List.mem_of_getElem? (i := 2) rfl)) (hw _ (List.mem_of_getElem? (i := 3) rfl)) (hw _ (List.mem_of_getElem? (i := 4) rfl)) (rmX l Z a0 hw p0 p0 T250.heap) [(.long p0), (.long p0)] rfl [(.long p0)] rfl (lenOf pd_1 rfl) (hb hby at_188) (by decide) 2 (by decide) (by decide) (by first | decide | exact Nat.le_refl _) (by decide) (by decide) (fun v T266 L266 X266 hQ266 => ?_)
        obtain ⟨rfl, e266, rfl⟩ := hQ266
        have N267 := Fr.app N262 (Fr.nil h0.size)
        show Goes p.tables e below (T266.setTop (mkF m 191 #[.val (.long p0), .second, .val (.long p1), .second, .val (.long p2), .second, .val (.int p3), .val (.int p4), .val (.int (1 : Int32)), .val (.long p0), .second, .val (.long t1), .second, .val (.long t2), .second, .val (.ref a5), .val (.ref b0), .val (.int v163), .val (.ref b3), .val (.ref a228), .val (.long p0), .second, .unset, .unset, .unset, .unset] [(.long (maxV p0 p0)), (.long p0)])) _
        refine g_callS X266 hx hZ hown (by rw [hml]; rfl) e266 (hw _ (List.mem_of_getElem? (i := 1) rfl)) (hw _ (List.mem_of_getElem? (i := 2) rfl)) (hw _ (List.mem_of_getElem? (i := 3) rfl)) (hw _ (List.mem_of_getElem? (i := 4) rfl)) (rmX l Z a0 hw p0 (maxV p0 p0) T250.heap) [(.long p0), (.long (maxV p0 p0))] rfl [] rfl (lenOf pd_1 rfl) (hb hby at_191) (by decide) 0 (by decide) (by decide) (by first | decide | exact Nat.le_refl _) (by decide) (by decide) (fun v T268 L268 X268 hQ268 => ?_)
        obtain ⟨rfl, e268, rfl⟩ := hQ268
        have N269 := Fr.app N267 (Fr.nil h0.size)
        show Goes p.tables e below (T268.setTop (mkF m 194 #[.val (.long p0), .second, .val (.long p1), .second, .val (.long p2), .second, .val (.int p3), .val (.int p4), .val (.int (1 : Int32)), .val (.long p0), .second, .val (.long t1), .second, .val (.long t2), .second, .val (.ref a5), .val (.ref b0), .val (.int v163), .val (.ref b3), .val (.ref a228), .val (.long p0), .second, .unset, .unset, .unset, .unset] [(.long (maxV p0 (maxV p0 p0)))])) _
        obtain ⟨vlat, hvlat⟩ : ∃ z : Int64, z = (maxV p0 (maxV p0 p0)) := ⟨_, rfl⟩
        refine g_nameL hvlat ?_
        show Goes p.tables e below (T268.setTop (mkF m 194 #[.val (.long p0), .second, .val (.long p1), .second, .val (.long p2), .second, .val (.int p3), .val (.int p4), .val (.int (1 : Int32)), .val (.long p0), .second, .val (.long t1), .second, .val (.long t2), .second, .val (.ref a5), .val (.ref b0), .val (.int v163), .val (.ref b3), .val (.ref a228), .val (.long p0), .second, .unset, .unset, .unset, .unset] [(.long vlat)])) _
        refine g_lstore X268 hx (hb hby at_194) (l' := #[.val (.long p0), .second, .val (.long p1), .second, .val (.long p2), .second, .val (.int p3), .val (.int p4), .val (.int (1 : Int32)), .val (.long p0), .second, .val (.long t1), .second, .val (.long t2), .second, .val (.ref a5), .val (.ref b0), .val (.int v163), .val (.ref b3), .val (.ref a228), .val (.long p0), .second, .val (.long vlat), .second, .unset, .unset]) rfl ?_
        show Goes p.tables e below (T268.setTop (mkF m 196 #[.val (.long p0), .second, .val (.long p1), .second, .val (.long p2), .second, .val (.int p3), .val (.int p4), .val (.int (1 : Int32)), .val (.long p0), .second, .val (.long t1), .second, .val (.long t2), .second, .val (.ref a5), .val (.ref b0), .val (.int v163), .val (.ref b3), .val (.ref a228), .val (.long p0), .second, .val (.long vlat), .second, .unset, .unset] [])) _
        refine g_aload X268 hx (hb hby at_196) rfl rfl ?_
        show Goes p.tables e below (T268.setTop (mkF m 198 #[.val (.long p0), .second, .val (.long p1), .second, .val (.long p2), .second, .val (.int p3), .val (.int p4), .val (.int (1 : Int32)), .val (.long p0), .second, .val (.long t1), .second, .val (.long t2), .second, .val (.ref a5), .val (.ref b0), .val (.int v163), .val (.ref b3), .val (.ref a228), .val (.long p0), .second, .val (.long vlat), .second, .unset, .unset] [(.ref a5)])) _
        refine g_iload X268 hx (hb hby at_198) rfl ?_
        show Goes p.tables e below (T268.setTop (mkF m 200 #[.val (.long p0), .second, .val (.long p1), .second, .val (.long p2), .second, .val (.int p3), .val (.int p4), .val (.int (1 : Int32)), .val (.long p0), .second, .val (.long t1), .second, .val (.long t2), .second, .val (.ref a5), .val (.ref b0), .val (.int v163), .val (.ref b3), .val (.ref a228), .val (.long p0), .second, .val (.long vlat), .second, .unset, .unset] [(.int (1 : Int32)), (.ref a5)])) _
        refine g_iconst X268 hx (1 : Int32) (hb hby at_200) rfl ?_
        show Goes p.tables e below (T268.setTop (mkF m 201 #[.val (.long p0), .second, .val (.long p1), .second, .val (.long p2), .second, .val (.int p3), .val (.int p4), .val (.int (1 : Int32)), .val (.long p0), .second, .val (.long t1), .second, .val (.long t2), .second, .val (.ref a5), .val (.ref b0), .val (.int v163), .val (.ref b3), .val (.ref a228), .val (.long p0), .second, .val (.long vlat), .second, .unset, .unset] [(.int (1 : Int32)), (.int (1 : Int32)), (.ref a5)])) _
        refine g_isub X268 hx (hb hby at_201) ?_
        show Goes p.tables e below (T268.setTop (mkF m 202 #[.val (.long p0), .second, .val (.long p1), .second, .val (.long p2), .second, .val (.int p3), .val (.int p4), .val (.int (1 : Int32)), .val (.long p0), .second, .val (.long t1), .second, .val (.long t2), .second, .val (.ref a5), .val (.ref b0), .val (.int v163), .val (.ref b3), .val (.ref a228), .val (.long p0), .second, .val (.long vlat), .second, .unset, .unset] [(.int ((1 : Int32) - (1 : Int32))), (.ref a5)])) _
        refine g_lload X268 hx (hb hby at_202) rfl ?_
        show Goes p.tables e below (T268.setTop (mkF m 204 #[.val (.long p0), .second, .val (.long p1), .second, .val (.long p2), .second, .val (.int p3), .val (.int p4), .val (.int (1 : Int32)), .val (.long p0), .second, .val (.long t1), .second, .val (.long t2), .second, .val (.ref a5), .val (.ref b0), .val (.int v163), .val (.ref b3), .val (.ref a228), .val (.long p0), .second, .val (.long vlat), .second, .unset, .unset] [(.long p0), (.int ((1 : Int32) - (1 : Int32))), (.ref a5)])) _
        refine g_ldc2 X268 hx hZ hown (hw _ (List.mem_of_getElem? (i := 38) rfl)) (hb hby at_204) ?_
        show Goes p.tables e below (T268.setTop (mkF m 207 #[.val (.long p0), .second, .val (.long p1), .second, .val (.long p2), .second, .val (.int p3), .val (.int p4), .val (.int (1 : Int32)), .val (.long p0), .second, .val (.long t1), .second, .val (.long t2), .second, .val (.ref a5), .val (.ref b0), .val (.int v163), .val (.ref b3), .val (.ref a228), .val (.long p0), .second, .val (.long vlat), .second, .unset, .unset] [(.long (-1 : Int64)), (.long p0), (.int ((1 : Int32) - (1 : Int32))), (.ref a5)])) _
        refine g_lxor X268 hx (hb hby at_207) ?_
        show Goes p.tables e below (T268.setTop (mkF m 208 #[.val (.long p0), .second, .val (.long p1), .second, .val (.long p2), .second, .val (.int p3), .val (.int p4), .val (.int (1 : Int32)), .val (.long p0), .second, .val (.long t1), .second, .val (.long t2), .second, .val (.ref a5), .val (.ref b0), .val (.int v163), .val (.ref b3), .val (.ref a228), .val (.long p0), .second, .val (.long vlat), .second, .unset, .unset] [(.long (p0 ^^^ (-1 : Int64))), (.int ((1 : Int32) - (1 : Int32))), (.ref a5)])) _
        refine g_lastore X268 hx hZ e268 fx260 0 (by decide) (by simp) (hb hby at_208) (fun T270 h270 X270 e270 W270 A270 => ?_)
        have fx271 : Sta Z h270 "com/example/drongo/drongo/event/RotaryEvent$Knob" "NAVIGATION" "Lcom/example/drongo/drongo/event/RotaryEvent$Knob;" (.ref b0) := Sta.wr W270 fx251
        have fx272 : Exa Z h270 b0 "com/example/drongo/drongo/event/RotaryEvent$Knob" := Exa.wr W270 fx252
        have fx273 : Sta Z h270 "com/example/drongo/drongo/event/Display" "CLUSTER" "Lcom/example/drongo/drongo/event/Display;" (.ref b1) := Sta.wr W270 fx253
        have fx274 : Exa Z h270 b1 "com/example/drongo/drongo/event/Display" := Exa.wr W270 fx254
        have fx275 : Sta Z h270 "com/example/drongo/drongo/event/RotaryEvent$Knob" "VOLUME" "Lcom/example/drongo/drongo/event/RotaryEvent$Knob;" (.ref b2) := Sta.wr W270 fx255
        have fx276 : Exa Z h270 b2 "com/example/drongo/drongo/event/RotaryEvent$Knob" := Exa.wr W270 fx256
        have fx277 : Sta Z h270 "com/example/drongo/drongo/event/Display" "MAIN" "Lcom/example/drongo/drongo/event/Display;" (.ref b3) := Sta.wr W270 fx257
        have fx278 : Exa Z h270 b3 "com/example/drongo/drongo/event/Display" := Exa.wr W270 fx258
        have fx279 : Exa Z h270 a5 "[J" := Exa.wr W270 fx259
        have fx280 : Exa Z h270 a228 "com/example/drongo/drongo/event/RotaryEvent" := Exa.wr W270 fx261
        have fx281 : Fld Z h270 a228 "com/example/drongo/drongo/event/RotaryEvent" "timesMillis" "[J" (.ref b250) := Fld.other W270 fT250 (Or.inl (Ne.symm ne233))
        have fx282 : Ar Z h270 b250 .long [(.long p0)] := Ar.other Ab250 W270 (Ne.symm ne264)
        have fx283 : Ar Z h270 a5 .long (List.set [(.long p0)] 0 (.long (p0 ^^^ (-1 : Int64)))) := A270
        have N284 := Fr.snoc X270 N269 ge10
        have Z285 : h0.size ≤ h270.size := by rw [W270.size]; exact Z263
        show Goes p.tables e below (T270.setTop (mkF m 209 #[.val (.long p0), .second, .val (.long p1), .second, .val (.long p2), .second, .val (.int p3), .val (.int p4), .val (.int (1 : Int32)), .val (.long p0), .second, .val (.long t1), .second, .val (.long t2), .second, .val (.ref a5), .val (.ref b0), .val (.int v163), .val (.ref b3), .val (.ref a228), .val (.long p0), .second, .val (.long vlat), .second, .unset, .unset] [])) _
        refine g_aload X270 hx (hb hby at_209) rfl rfl ?_
        show Goes p.tables e below (T270.setTop (mkF m 211 #[.val (.long p0), .second, .val (.long p1), .second, .val (.long p2), .second, .val (.int p3), .val (.int p4), .val (.int (1 : Int32)), .val (.long p0), .second, .val (.long t1), .second, .val (.long t2), .second, .val (.ref a5), .val (.ref b0), .val (.int v163), .val (.ref b3), .val (.ref a228), .val (.long p0), .second, .val (.long vlat), .second, .unset, .unset] [(.ref a228)])) _
        refine g_callV X270 hx hZ hown (by rw [hml]; rfl) e270 (K := "com/example/drongo/drongo/event/RotaryEvent") (hw _ (List.mem_of_getElem? (i := 39) rfl)) (hw _ (List.mem_of_getElem? (i := 40) rfl)) (hw _ (List.mem_of_getElem? (i := 42) rfl)) (hw _ (List.mem_of_getElem? (i := 41) rfl)) (hw _ (List.mem_of_getElem? (i := 14) rfl)) (hw _ (List.mem_of_getElem? (i := 43) rfl)) fx280 (rmL l Z a0 hw a228 h270 b250 [(.long p0)] (1 : Int32) 0 p0 rfl (by decide) rfl fx281 fx282) [] rfl [] rfl (lenOf pd_4 rfl) (hb hby at_211) (by decide) 0 (by decide) (by decide) (by first | decide | exact Nat.le_refl _) (by decide) (by decide) (fun v T286 L286 X286 hQ286 => ?_)
        obtain ⟨rfl, e286, rfl⟩ := hQ286
        have N287 := Fr.app N284 (Fr.nil h0.size)
        show Goes p.tables e below (T286.setTop (mkF m 214 #[.val (.long p0), .second, .val (.long p1), .second, .val (.long p2), .second, .val (.int p3), .val (.int p4), .val (.int (1 : Int32)), .val (.long p0), .second, .val (.long t1), .second, .val (.long t2), .second, .val (.ref a5), .val (.ref b0), .val (.int v163), .val (.ref b3), .val (.ref a228), .val (.long p0), .second, .val (.long vlat), .second, .unset, .unset] [(.long p0)])) _
        refine g_lstore X286 hx (hb hby at_214) (l' := #[.val (.long p0), .second, .val (.long p1), .second, .val (.long p2), .second, .val (.int p3), .val (.int p4), .val (.int (1 : Int32)), .val (.long p0), .second, .val (.long t1), .second, .val (.long t2), .second, .val (.ref a5), .val (.ref b0), .val (.int v163), .val (.ref b3), .val (.ref a228), .val (.long p0), .second, .val (.long vlat), .second, .val (.long p0), .second]) rfl ?_
        show Goes p.tables e below (T286.setTop (mkF m 216 #[.val (.long p0), .second, .val (.long p1), .second, .val (.long p2), .second, .val (.int p3), .val (.int p4), .val (.int (1 : Int32)), .val (.long p0), .second, .val (.long t1), .second, .val (.long t2), .second, .val (.ref a5), .val (.ref b0), .val (.int v163), .val (.ref b3), .val (.ref a228), .val (.long p0), .second, .val (.long vlat), .second, .val (.long p0), .second] [])) _
        refine g_lload X286 hx (hb hby at_216) rfl ?_
        show Goes p.tables e below (T286.setTop (mkF m 218 #[.val (.long p0), .second, .val (.long p1), .second, .val (.long p2), .second, .val (.int p3), .val (.int p4), .val (.int (1 : Int32)), .val (.long p0), .second, .val (.long t1), .second, .val (.long t2), .second, .val (.ref a5), .val (.ref b0), .val (.int v163), .val (.ref b3), .val (.ref a228), .val (.long p0), .second, .val (.long vlat), .second, .val (.long p0), .second] [(.long p0)])) _
        refine g_lload X286 hx (hb hby at_218) rfl ?_
        show Goes p.tables e below (T286.setTop (mkF m 220 #[.val (.long p0), .second, .val (.long p1), .second, .val (.long p2), .second, .val (.int p3), .val (.int p4), .val (.int (1 : Int32)), .val (.long p0), .second, .val (.long t1), .second, .val (.long t2), .second, .val (.ref a5), .val (.ref b0), .val (.int v163), .val (.ref b3), .val (.ref a228), .val (.long p0), .second, .val (.long vlat), .second, .val (.long p0), .second] [(.long p0), (.long p0)])) _
        refine g_lcmp X286 hx (hb hby at_220) ?_
        show Goes p.tables e below (T286.setTop (mkF m 221 #[.val (.long p0), .second, .val (.long p1), .second, .val (.long p2), .second, .val (.int p3), .val (.int p4), .val (.int (1 : Int32)), .val (.long p0), .second, .val (.long t1), .second, .val (.long t2), .second, .val (.ref a5), .val (.ref b0), .val (.int v163), .val (.ref b3), .val (.ref a228), .val (.long p0), .second, .val (.long vlat), .second, .val (.long p0), .second] [(.int (XT.cmpL p0 p0))])) _
        have c221 : p0 = p0 := rfl
        refine g_lif_ne X286 hx (hb hby at_221) (by decide) (pc' := 247) (by decide) (fun q => absurd c221 q) (fun _ => ?_)
        show Goes p.tables e below (T286.setTop (mkF m 224 #[.val (.long p0), .second, .val (.long p1), .second, .val (.long p2), .second, .val (.int p3), .val (.int p4), .val (.int (1 : Int32)), .val (.long p0), .second, .val (.long t1), .second, .val (.long t2), .second, .val (.ref a5), .val (.ref b0), .val (.int v163), .val (.ref b3), .val (.ref a228), .val (.long p0), .second, .val (.long vlat), .second, .val (.long p0), .second] [])) _
        refine g_lload X286 hx (hb hby at_224) rfl ?_
        show Goes p.tables e below (T286.setTop (mkF m 226 #[.val (.long p0), .second, .val (.long p1), .second, .val (.long p2), .second, .val (.int p3), .val (.int p4), .val (.int (1 : Int32)), .val (.long p0), .second, .val (.long t1), .second, .val (.long t2), .second, .val (.ref a5), .val (.ref b0), .val (.int v163), .val (.ref b3), .val (.ref a228), .val (.long p0), .second, .val (.long vlat), .second, .val (.long p0), .second] [(.long p0)])) _
        refine g_lload X286 hx (hb hby at_226) rfl ?_
        show Goes p.tables e below (T286.setTop (mkF m 228 #[.val (.long p0), .second, .val (.long p1), .second, .val (.long p2), .second, .val (.int p3), .val (.int p4), .val (.int (1 : Int32)), .val (.long p0), .second, .val (.long t1), .second, .val (.long t2), .second, .val (.ref a5), .val (.ref b0), .val (.int v163), .val (.ref b3), .val (.ref a228), .val (.long p0), .second, .val (.long vlat), .second, .val (.long p0), .second] [(.long vlat), (.long p0)])) _
        refine g_lcmp X286 hx (hb hby at_228) ?_
        show Goes p.tables e below (T286.setTop (mkF m 229 #[.val (.long p0), .second, .val (.long p1), .second, .val (.long p2), .second, .val (.int p3), .val (.int p4), .val (.int (1 : Int32)), .val (.long p0), .second, .val (.long t1), .second, .val (.long t2), .second, .val (.ref a5), .val (.ref b0), .val (.int v163), .val (.ref b3), .val (.ref a228), .val (.long p0), .second, .val (.long vlat), .second, .val (.long p0), .second] [(.int (XT.cmpL p0 vlat))])) _
        have c229 : p0 = vlat := (by rw [hvlat, own_max1, own_max1])
        refine g_lif_ne X286 hx (hb hby at_229) (by decide) (pc' := 247) (by decide) (fun q => absurd c229 q) (fun _ => ?_)
        show Goes p.tables e below (T286.setTop (mkF m 232 #[.val (.long p0), .second, .val (.long p1), .second, .val (.long p2), .second, .val (.int p3), .val (.int p4), .val (.int (1 : Int32)), .val (.long p0), .second, .val (.long t1), .second, .val (.long t2), .second, .val (.ref a5), .val (.ref b0), .val (.int v163), .val (.ref b3), .val (.ref a228), .val (.long p0), .second, .val (.long vlat), .second, .val (.long p0), .second] [])) _
        refine g_aload X286 hx (hb hby at_232) rfl rfl ?_
        show Goes p.tables e below (T286.setTop (mkF m 234 #[.val (.long p0), .second, .val (.long p1), .second, .val (.long p2), .second, .val (.int p3), .val (.int p4), .val (.int (1 : Int32)), .val (.long p0), .second, .val (.long t1), .second, .val (.long t2), .second, .val (.ref a5), .val (.ref b0), .val (.int v163), .val (.ref b3), .val (.ref a228), .val (.long p0), .second, .val (.long vlat), .second, .val (.long p0), .second] [(.ref a228)])) _
        refine g_callV X286 hx hZ hown (by rw [hml]; rfl) e286 (K := "com/example/drongo/drongo/event/RotaryEvent") (hw _ (List.mem_of_getElem? (i := 39) rfl)) (hw _ (List.mem_of_getElem? (i := 40) rfl)) (hw _ (List.mem_of_getElem? (i := 42) rfl)) (hw _ (List.mem_of_getElem? (i := 41) rfl)) (hw _ (List.mem_of_getElem? (i := 14) rfl)) (hw _ (List.mem_of_getElem? (i := 43) rfl)) fx280 (rmL l Z a0 hw a228 h270 b250 [(.long p0)] (1 : Int32) 0 p0 rfl (by decide) rfl fx281 fx282) [] rfl [] rfl (lenOf pd_4 rfl) (hb hby at_234) (by decide) 0 (by decide) (by decide) (by first | decide | exact Nat.le_refl _) (by decide) (by decide) (fun v T288 L288 X288 hQ288 => ?_)
        obtain ⟨rfl, e288, rfl⟩ := hQ288
        have N289 := Fr.app N287 (Fr.nil h0.size)
        show Goes p.tables e below (T288.setTop (mkF m 237 #[.val (.long p0), .second, .val (.long p1), .second, .val (.long p2), .second, .val (.int p3), .val (.int p4), .val (.int (1 : Int32)), .val (.long p0), .second, .val (.long t1), .second, .val (.long t2), .second, .val (.ref a5), .val (.ref b0), .val (.int v163), .val (.ref b3), .val (.ref a228), .val (.long p0), .second, .val (.long vlat), .second, .val (.long p0), .second] [(.long p0)])) _
        refine g_lload X288 hx (hb hby at_237) rfl ?_
        show Goes p.tables e below (T288.setTop (mkF m 239 #[.val (.long p0), .second, .val (.long p1), .second, .val (.long p2), .second, .val (.int p3), .val (.int p4), .val (.int (1 : Int32)), .val (.long p0), .second, .val (.long t1), .second, .val (.long t2), .second, .val (.ref a5), .val (.ref b0), .val (.int v163), .val (.ref b3), .val (.ref a228), .val (.long p0), .second, .val (.long vlat), .second, .val (.long p0), .second] [(.long p0), (.long p0)])) _
        refine g_lcmp X288 hx (hb hby at_239) ?_
        show Goes p.tables e below (T288.setTop (mkF m 240 #[.val (.long p0), .second, .val (.long p1), .second, .val (.long p2), .second, .val (.int p3), .val (.int p4), .val (.int (1 : Int32)), .val (.long p0), .second, .val (.long t1), .second, .val (.long t2), .second, .val (.ref a5), .val (.ref b0), .val (.int v163), .val (.ref b3), .val (.ref a228), .val (.long p0), .second, .val (.long vlat), .second, .val (.long p0), .second] [(.int (XT.cmpL p0 p0))])) _
        have c240 : p0 = p0 := rfl
        refine g_lif_ne X288 hx (hb hby at_240) (by decide) (pc' := 247) (by decide) (fun q => absurd c240 q) (fun _ => ?_)
        show Goes p.tables e below (T288.setTop (mkF m 243 #[.val (.long p0), .second, .val (.long p1), .second, .val (.long p2), .second, .val (.int p3), .val (.int p4), .val (.int (1 : Int32)), .val (.long p0), .second, .val (.long t1), .second, .val (.long t2), .second, .val (.ref a5), .val (.ref b0), .val (.int v163), .val (.ref b3), .val (.ref a228), .val (.long p0), .second, .val (.long vlat), .second, .val (.long p0), .second] [])) _
        refine g_iconst X288 hx (1 : Int32) (hb hby at_243) rfl ?_
        show Goes p.tables e below (T288.setTop (mkF m 244 #[.val (.long p0), .second, .val (.long p1), .second, .val (.long p2), .second, .val (.int p3), .val (.int p4), .val (.int (1 : Int32)), .val (.long p0), .second, .val (.long t1), .second, .val (.long t2), .second, .val (.ref a5), .val (.ref b0), .val (.int v163), .val (.ref b3), .val (.ref a228), .val (.long p0), .second, .val (.long vlat), .second, .val (.long p0), .second] [(.int (1 : Int32))])) _
        refine g_goto X288 hx (hb hby at_244) (by decide) (pc' := 248) (by decide) ?_
        show Goes p.tables e below (T288.setTop (mkF m 248 #[.val (.long p0), .second, .val (.long p1), .second, .val (.long p2), .second, .val (.int p3), .val (.int p4), .val (.int (1 : Int32)), .val (.long p0), .second, .val (.long t1), .second, .val (.long t2), .second, .val (.ref a5), .val (.ref b0), .val (.int v163), .val (.ref b3), .val (.ref a228), .val (.long p0), .second, .val (.long vlat), .second, .val (.long p0), .second] [(.int (1 : Int32))])) _
        exact g_retZ X288 hx (hz := (by decide)) hret hlk (hb hby at_248) (by decide) (by decide) ⟨rfl, N289⟩
  · skip
    show Goes p.tables e below (T0.setTop (mkF m 9 #[.val (.long p0), .second, .val (.long p1), .second, .val (.long p2), .second, .val (.int p3), .val (.int p4), .unset, .unset, .unset, .unset, .unset, .unset, .unset, .unset, .unset, .unset, .unset, .unset, .unset, .unset, .unset, .unset, .unset, .unset] [(.int (2 : Int32))])) _
    refine g_istore X0 hx (hb hby at_9) (l' := #[.val (.long p0), .second, .val (.long p1), .second, .val (.long p2), .second, .val (.int p3), .val (.int p4), .val (.int (2 : Int32)), .unset, .unset, .unset, .unset, .unset, .unset, .unset, .unset, .unset, .unset, .unset, .unset, .unset, .unset, .unset, .unset, .unset]) rfl ?_
    show Goes p.tables e below (T0.setTop (mkF m 11 #[.val (.long p0), .second, .val (.long p1), .second, .val (.long p2), .second, .val (.int p3), .val (.int p4), .val (.int (2 : Int32)), .unset, .unset, .unset, .unset, .unset, .unset, .unset, .unset, .unset, .unset, .unset, .unset, .unset, .unset, .unset, .unset, .unset] [])) _
    refine g_lloadN X0 hx (hb hby at_11) rfl ?_
    show Goes p.tables e below (T0.setTop (mkF m 12 #[.val (.long p0), .second, .val (.long p1), .second, .val (.long p2), .second, .val (.int p3), .val (.int p4), .val (.int (2 : Int32)), .unset, .unset, .unset, .unset, .unset, .unset, .unset, .unset, .unset, .unset, .unset, .unset, .unset, .unset, .unset, .unset, .unset] [(.long p0)])) _
    refine g_lstore X0 hx (hb hby at_12) (l' := #[.val (.long p0), .second, .val (.long p1), .second, .val (.long p2), .second, .val (.int p3), .val (.int p4), .val (.int (2 : Int32)), .val (.long p0), .second, .unset, .unset, .unset, .unset, .unset, .unset, .unset, .unset, .unset, .unset, .unset, .unset, .unset, .unset, .unset]) rfl ?_
    show Goes p.tables e below (T0.setTop (mkF m 14 #[.val (.long p0), .second, .val (.long p1), .second, .val (.long p2), .second, .val (.int p3), .val (.int p4), .val (.int (2 : Int32)), .val (.long p0), .second, .unset, .unset, .unset, .unset, .unset, .unset, .unset, .unset, .unset, .unset, .unset, .unset, .unset, .unset, .unset] [])) _
    refine g_lload X0 hx (hb hby at_14) rfl ?_
    show Goes p.tables e below (T0.setTop (mkF m 16 #[.val (.long p0), .second, .val (.long p1), .second, .val (.long p2), .second, .val (.int p3), .val (.int p4), .val (.int (2 : Int32)), .val (.long p0), .second, .unset, .unset, .unset, .unset, .unset, .unset, .unset, .unset, .unset, .unset, .unset, .unset, .unset, .unset, .unset] [(.long p0)])) _
    refine g_lloadN X0 hx (hb hby at_16) rfl ?_
    show Goes p.tables e below (T0.setTop (mkF m 17 #[.val (.long p0), .second, .val (.long p1), .second, .val (.long p2), .second, .val (.int p3), .val (.int p4), .val (.int (2 : Int32)), .val (.long p0), .second, .unset, .unset, .unset, .unset, .unset, .unset, .unset, .unset, .unset, .unset, .unset, .unset, .unset, .unset, .unset] [(.long p1), (.long p0)])) _
    refine g_callS X0 hx hZ hown (by rw [hml]; rfl) e0 (hw _ (List.mem_of_getElem? (i := 1) rfl)) (hw _ (List.mem_of_getElem? (i := 2) rfl)) (hw _ (List.mem_of_getElem? (i := 3) rfl)) (hw _ (List.mem_of_getElem? (i := 4) rfl)) (rmX l Z a0 hw p0 p1 h0) [(.long p0), (.long p1)] rfl [] rfl (lenOf pd_1 rfl) (hb hby at_17) (by decide) 0 (by decide) (by decide) (by first | decide | exact Nat.le_refl _) (by decide) (by decide) (fun v T290 L290 X290 hQ290 => ?_)
    obtain ⟨rfl, e290, rfl⟩ := hQ290
    have N291 := Fr.app N0 (Fr.nil h0.size)
    show Goes p.tables e below (T290.setTop (mkF m 20 #[.val (.long p0), .second, .val (.long p1), .second, .val (.long p2), .second, .val (.int p3), .val (.int p4), .val (.int (2 : Int32)), .val (.long p0), .second, .unset, .unset, .unset, .unset, .unset, .unset, .unset, .unset, .unset, .unset, .unset, .unset, .unset, .unset, .unset] [(.long (maxV p0 p1))])) _
    obtain ⟨t1, ht1⟩ : ∃ z : Int64, z = (maxV p0 p1) := ⟨_, rfl⟩
    refine g_nameL ht1 ?_
    show Goes p.tables e below (T290.setTop (mkF m 20 #[.val (.long p0), .second, .val (.long p1), .second, .val (.long p2), .second, .val (.int p3), .val (.int p4), .val (.int (2 : Int32)), .val (.long p0), .second, .unset, .unset, .unset, .unset, .unset, .unset, .unset, .unset, .unset, .unset, .unset, .unset, .unset, .unset, .unset] [(.long t1)])) _
    refine g_lstore X290 hx (hb hby at_20) (l' := #[.val (.long p0), .second, .val (.long p1), .second, .val (.long p2), .second, .val (.int p3), .val (.int p4), .val (.int (2 : Int32)), .val (.long p0), .second, .val (.long t1), .second, .unset, .unset, .unset, .unset, .unset, .unset, .unset, .unset, .unset, .unset, .unset, .unset, .unset]) rfl ?_
    show Goes p.tables e below (T290.setTop (mkF m 22 #[.val (.long p0), .second, .val (.long p1), .second, .val (.long p2), .second, .val (.int p3), .val (.int p4), .val (.int (2 : Int32)), .val (.long p0), .second, .val (.long t1), .second, .unset, .unset, .unset, .unset, .unset, .unset, .unset, .unset, .unset, .unset, .unset, .unset, .unset] [])) _
    refine g_lload X290 hx (hb hby at_22) rfl ?_
    show Goes p.tables e below (T290.setTop (mkF m 24 #[.val (.long p0), .second, .val (.long p1), .second, .val (.long p2), .second, .val (.int p3), .val (.int p4), .val (.int (2 : Int32)), .val (.long p0), .second, .val (.long t1), .second, .unset, .unset, .unset, .unset, .unset, .unset, .unset, .unset, .unset, .unset, .unset, .unset, .unset] [(.long t1)])) _
    refine g_lload X290 hx (hb hby at_24) rfl ?_
    show Goes p.tables e below (T290.setTop (mkF m 26 #[.val (.long p0), .second, .val (.long p1), .second, .val (.long p2), .second, .val (.int p3), .val (.int p4), .val (.int (2 : Int32)), .val (.long p0), .second, .val (.long t1), .second, .unset, .unset, .unset, .unset, .unset, .unset, .unset, .unset, .unset, .unset, .unset, .unset, .unset] [(.long p2), (.long t1)])) _
    refine g_callS X290 hx hZ hown (by rw [hml]; rfl) e290 (hw _ (List.mem_of_getElem? (i := 1) rfl)) (hw _ (List.mem_of_getElem? (i := 2) rfl)) (hw _ (List.mem_of_getElem? (i := 3) rfl)) (hw _ (List.mem_of_getElem? (i := 4) rfl)) (rmX l Z a0 hw t1 p2 h0) [(.long t1), (.long p2)] rfl [] rfl (lenOf pd_1 rfl) (hb hby at_26) (by decide) 0 (by decide) (by decide) (by first | decide | exact Nat.le_refl _) (by decide) (by decide) (fun v T292 L292 X292 hQ292 => ?_)
    obtain ⟨rfl, e292, rfl⟩ := hQ292
    have N293 := Fr.app N291 (Fr.nil h0.size)
    show Goes p.tables e below (T292.setTop (mkF m 29 #[.val (.long p0), .second, .val (.long p1), .second, .val (.long p2), .second, .val (.int p3), .val (.int p4), .val (.int (2 : Int32)), .val (.long p0), .second, .val (.long t1), .second, .unset, .unset, .unset, .unset, .unset, .unset, .unset, .unset, .unset, .unset, .unset, .unset, .unset] [(.long (maxV t1 p2))])) _
    obtain ⟨t2, ht2⟩ : ∃ z : Int64, z = (maxV t1 p2) := ⟨_, rfl⟩
    refine g_nameL ht2 ?_
    show Goes p.tables e below (T292.setTop (mkF m 29 #[.val (.long p0), .second, .val (.long p1), .second, .val (.long p2), .second, .val (.int p3), .val (.int p4), .val (.int (2 : Int32)), .val (.long p0), .second, .val (.long t1), .second, .unset, .unset, .unset, .unset, .unset, .unset, .unset, .unset, .unset, .unset, .unset, .unset, .unset] [(.long t2)])) _
    refine g_lstore X292 hx (hb hby at_29) (l' := #[.val (.long p0), .second, .val (.long p1), .second, .val (.long p2), .second, .val (.int p3), .val (.int p4), .val (.int (2 : Int32)), .val (.long p0), .second, .val (.long t1), .second, .val (.long t2), .second, .unset, .unset, .unset, .unset, .unset, .unset, .unset, .unset, .unset, .unset, .unset]) rfl ?_
    show Goes p.tables e below (T292.setTop (mkF m 31 #[.val (.long p0), .second, .val (.long p1), .second, .val (.long p2), .second, .val (.int p3), .val (.int p4), .val (.int (2 : Int32)), .val (.long p0), .second, .val (.long t1), .second, .val (.long t2), .second, .unset, .unset, .unset, .unset, .unset, .unset, .unset, .unset, .unset, .unset, .unset] [])) _
    refine g_iload X292 hx (hb hby at_31) rfl ?_
    show Goes p.tables e below (T292.setTop (mkF m 33 #[.val (.long p0), .second, .val (.long p1), .second, .val (.long p2), .second, .val (.int p3), .val (.int p4), .val (.int (2 : Int32)), .val (.long p0), .second, .val (.long t1), .second, .val (.long t2), .second, .unset, .unset, .unset, .unset, .unset, .unset, .unset, .unset, .unset, .unset, .unset] [(.int (2 : Int32))])) _
    refine g_newarr X292 hx hZ e292 (hw _ (List.mem_of_getElem? (i := 5) rfl)) (hb hby at_33) (n := 2) (by decide) 2 (by omega) (by decide) (by decide) (by decide) (ad := "[J") (by decide) rfl (fun T294 h294 a294 ga294 X294 e294 Ex294 Aa294 Ea294 => ?_)
    have ne295 : b0 ≠ a294 := Nat.ne_of_lt (by rw [ga294]; exact Eb0.lt)
    have ne296 : b1 ≠ a294 := Nat.ne_of_lt (by rw [ga294]; exact Eb1.lt)
    have ne297 : b2 ≠ a294 := Nat.ne_of_lt (by rw [ga294]; exact Eb2.lt)
    have ne298 : b3 ≠ a294 := Nat.ne_of_lt (by rw [ga294]; exact Eb3.lt)
    have ge299 : h0.size ≤ a294 := by rw [ga294]; exact Z0
    have fx300 : Sta Z h294 "com/example/drongo/drongo/event/RotaryEvent$Knob" "NAVIGATION" "Lcom/example/drongo/drongo/event/RotaryEvent$Knob;" (.ref b0) := Sta.ext Ex294 Sb0
    have fx301 : Exa Z h294 b0 "com/example/drongo/drongo/event/RotaryEvent$Knob" := Exa.ext Ex294 Eb0
    have fx302 : Sta Z h294 "com/example/drongo/drongo/event/Display" "CLUSTER" "Lcom/example/drongo/drongo/event/Display;" (.ref b1) := Sta.ext Ex294 Sb1
    have fx303 : Exa Z h294 b1 "com/example/drongo/drongo/event/Display" := Exa.ext Ex294 Eb1
    have fx304 : Sta Z h294 "com/example/drongo/drongo/event/RotaryEvent$Knob" "VOLUME" "Lcom/example/drongo/drongo/event/RotaryEvent$Knob;" (.ref b2) := Sta.ext Ex294 Sb2
    have fx305 : Exa Z h294 b2 "com/example/drongo/drongo/event/RotaryEvent$Knob" := Exa.ext Ex294 Eb2
    have fx306 : Sta Z h294 "com/example/drongo/drongo/event/Display" "MAIN" "Lcom/example/drongo/drongo/event/Display;" (.ref b3) := Sta.ext Ex294 Sb3
    have fx307 : Exa Z h294 b3 "com/example/drongo/drongo/event/Display" := Exa.ext Ex294 Eb3
    have Z308 : h0.size ≤ h294.size := Nat.le_trans Z0 Ex294.1
    have fx309 : Ar Z h294 a294 .long [(.long (0 : Int64)), (.long (0 : Int64))] := Aa294
    show Goes p.tables e below (T294.setTop (mkF m 35 #[.val (.long p0), .second, .val (.long p1), .second, .val (.long p2), .second, .val (.int p3), .val (.int p4), .val (.int (2 : Int32)), .val (.long p0), .second, .val (.long t1), .second, .val (.long t2), .second, .unset, .unset, .unset, .unset, .unset, .unset, .unset, .unset, .unset, .unset, .unset] [(.ref a294)])) _
    refine g_astore X294 hx (hb hby at_35) rfl (l' := #[.val (.long p0), .second, .val (.long p1), .second, .val (.long p2), .second, .val (.int p3), .val (.int p4), .val (.int (2 : Int32)), .val (.long p0), .second, .val (.long t1), .second, .val (.long t2), .second, .val (.ref a294), .unset, .unset, .unset, .unset, .unset, .unset, .unset, .unset, .unset, .unset]) rfl ?_
    show Goes p.tables e below (T294.setTop (mkF m 37 #[.val (.long p0), .second, .val (.long p1), .second, .val (.long p2), .second, .val (.int p3), .val (.int p4), .val (.int (2 : Int32)), .val (.long p0), .second, .val (.long t1), .second, .val (.long t2), .second, .val (.ref a294), .unset, .unset, .unset, .unset, .unset, .unset, .unset, .unset, .unset, .unset] [])) _
    refine g_aload X294 hx (hb hby at_37) rfl rfl ?_
    show Goes p.tables e below (T294.setTop (mkF m 39 #[.val (.long p0), .second, .val (.long p1), .second, .val (.long p2), .second, .val (.int p3), .val (.int p4), .val (.int (2 : Int32)), .val (.long p0), .second, .val (.long t1), .second, .val (.long t2), .second, .val (.ref a294), .unset, .unset, .unset, .unset, .unset, .unset, .unset, .unset, .unset, .unset] [(.ref a294)])) _
    refine g_iconst X294 hx (0 : Int32) (hb hby at_39) rfl ?_
    show Goes p.tables e below (T294.setTop (mkF m 40 #[.val (.long p0), .second, .val (.long p1), .second, .val (.long p2), .second, .val (.int p3), .val (.int p4), .val (.int (2 : Int32)), .val (.long p0), .second, .val (.long t1), .second, .val (.long t2), .second, .val (.ref a294), .unset, .unset, .unset, .unset, .unset, .unset, .unset, .unset, .unset, .unset] [(.int (0 : Int32)), (.ref a294)])) _
    refine g_lload X294 hx (hb hby at_40) rfl ?_
    show Goes p.tables e below (T294.setTop (mkF m 42 #[.val (.long p0), .second, .val (.long p1), .second, .val (.long p2), .second, .val (.int p3), .val (.int p4), .val (.int (2 : Int32)), .val (.long p0), .second, .val (.long t1), .second, .val (.long t2), .second, .val (.ref a294), .unset, .unset, .unset, .unset, .unset, .unset, .unset, .unset, .unset, .unset] [(.long p0), (.int (0 : Int32)), (.ref a294)])) _
    refine g_lastore X294 hx hZ e294 fx309 0 (by decide) (by show 0 < 2; decide) (hb hby at_42) (fun T310 h310 X310 e310 W310 A310 => ?_)
    have fx311 : Sta Z h310 "com/example/drongo/drongo/event/RotaryEvent$Knob" "NAVIGATION" "Lcom/example/drongo/drongo/event/RotaryEvent$Knob;" (.ref b0) := Sta.wr W310 fx300
    have fx312 : Exa Z h310 b0 "com/example/drongo/drongo/event/RotaryEvent$Knob" := Exa.wr W310 fx301
    have fx313 : Sta Z h310 "com/example/drongo/drongo/event/Display" "CLUSTER" "Lcom/example/drongo/drongo/event/Display;" (.ref b1) := Sta.wr W310 fx302
    have fx314 : Exa Z h310 b1 "com/example/drongo/drongo/event/Display" := Exa.wr W310 fx303
    have fx315 : Sta Z h310 "com/example/drongo/drongo/event/RotaryEvent$Knob" "VOLUME" "Lcom/example/drongo/drongo/event/RotaryEvent$Knob;" (.ref b2) := Sta.wr W310 fx304
    have fx316 : Exa Z h310 b2 "com/example/drongo/drongo/event/RotaryEvent$Knob" := Exa.wr W310 fx305
    have fx317 : Sta Z h310 "com/example/drongo/drongo/event/Display" "MAIN" "Lcom/example/drongo/drongo/event/Display;" (.ref b3) := Sta.wr W310 fx306
    have fx318 : Exa Z h310 b3 "com/example/drongo/drongo/event/Display" := Exa.wr W310 fx307
    have fx319 : Exa Z h310 a294 "[J" := Exa.wr W310 Ea294
    have fx320 : Ar Z h310 a294 .long [(.long p0), (.long (0 : Int64))] := A310
    have N321 := Fr.snoc X310 N293 ge299
    have Z322 : h0.size ≤ h310.size := by rw [W310.size]; exact Z308
    show Goes p.tables e below (T310.setTop (mkF m 43 #[.val (.long p0), .second, .val (.long p1), .second, .val (.long p2), .second, .val (.int p3), .val (.int p4), .val (.int (2 : Int32)), .val (.long p0), .second, .val (.long t1), .second, .val (.long t2), .second, .val (.ref a294), .unset, .unset, .unset, .unset, .unset, .unset, .unset, .unset, .unset, .unset] [])) _
    refine g_iload X310 hx (hb hby at_43) rfl ?_
    show Goes p.tables e below (T310.setTop (mkF m 45 #[.val (.long p0), .second, .val (.long p1), .second, .val (.long p2), .second, .val (.int p3), .val (.int p4), .val (.int (2 : Int32)), .val (.long p0), .second, .val (.long t1), .second, .val (.long t2), .second, .val (.ref a294), .unset, .unset, .unset, .unset, .unset, .unset, .unset, .unset, .unset, .unset] [(.int (2 : Int32))])) _
    refine g_iconst X310 hx (1 : Int32) (hb hby at_45) rfl ?_
    show Goes p.tables e below (T310.setTop (mkF m 46 #[.val (.long p0), .second, .val (.long p1), .second, .val (.long p2), .second, .val (.int p3), .val (.int p4), .val (.int (2 : Int32)), .val (.long p0), .second, .val (.long t1), .second, .val (.long t2), .second, .val (.ref a294), .unset, .unset, .unset, .unset, .unset, .unset, .unset, .unset, .unset, .unset] [(.int (1 : Int32)), (.int (2 : Int32))])) _
    refine g_icmp_le X310 hx (hb hby at_46) (by decide) (pc' := 55) (by decide) (fun q => absurd (by decide) q) (fun _ => ?_)
    show Goes p.tables e below (T310.setTop (mkF m 49 #[.val (.long p0), .second, .val (.long p1), .second, .val (.long p2), .second, .val (.int p3), .val (.int p4), .val (.int (2 : Int32)), .val (.long p0), .second, .val (.long t1), .second, .val (.long t2), .second, .val (.ref a294), .unset, .unset, .unset, .unset, .unset, .unset, .unset, .unset, .unset, .unset] [])) _
    refine g_aload X310 hx (hb hby at_49) rfl rfl ?_
    show Goes p.tables e below (T310.setTop (mkF m 51 #[.val (.long p0), .second, .val (.long p1), .second, .val (.long p2), .second, .val (.int p3), .val (.int p4), .val (.int (2 : Int32)), .val (.long p0), .second, .val (.long t1), .second, .val (.long t2), .second, .val (.ref a294), .unset, .unset, .unset, .unset, .unset, .unset, .unset, .unset, .unset, .unset] [(.ref a294)])) _
    refine g_iconst X310 hx (1 : Int32) (hb hby at_51) rfl ?_
    show Goes p.tables e below (T310.setTop (mkF m 52 #[.val (.long p0), .second, .val (.long p1), .second, .val (.long p2), .second, .val (.int p3), .val (.int p4), .val (.int (2 : Int32)), .val (.long p0), .second, .val (.long t1), .second, .val (.long t2), .second, .val (.ref a294), .unset, .unset, .unset, .unset, .unset, .unset, .unset, .unset, .unset, .unset] [(.int (1 : Int32)), (.ref a294)])) _
    refine g_lload X310 hx (hb hby at_52) rfl ?_
    show Goes p.tables e below (T310.setTop (mkF m 54 #[.val (.long p0), .second, .val (.long p1), .second, .val (.long p2), .second, .val (.int p3), .val (.int p4), .val (.int (2 : Int32)), .val (.long p0), .second, .val (.long t1), .second, .val (.long t2), .second, .val (.ref a294), .unset, .unset, .unset, .unset, .unset, .unset, .unset, .unset, .unset, .unset] [(.long t1), (.int (1 : Int32)), (.ref a294)])) _
    refine g_lastore X310 hx hZ e310 fx320 1 (by decide) (by show 1 < 2; decide) (hb hby at_54) (fun T323 h323 X323 e323 W323 A323 => ?_)
    have fx324 : Sta Z h323 "com/example/drongo/drongo/event/RotaryEvent$Knob" "NAVIGATION" "Lcom/example/drongo/drongo/event/RotaryEvent$Knob;" (.ref b0) := Sta.wr W323 fx311
    have fx325 : Exa Z h323 b0 "com/example/drongo/drongo/event/RotaryEvent$Knob" := Exa.wr W323 fx312
    have fx326 : Sta Z h323 "com/example/drongo/drongo/event/Display" "CLUSTER" "Lcom/example/drongo/drongo/event/Display;" (.ref b1) := Sta.wr W323 fx313
    have fx327 : Exa Z h323 b1 "com/example/drongo/drongo/event/Display" := Exa.wr W323 fx314
    have fx328 : Sta Z h323 "com/example/drongo/drongo/event/RotaryEvent$Knob" "VOLUME" "Lcom/example/drongo/drongo/event/RotaryEvent$Knob;" (.ref b2) := Sta.wr W323 fx315
    have fx329 : Exa Z h323 b2 "com/example/drongo/drongo/event/RotaryEvent$Knob" := Exa.wr W323 fx316
    have fx330 : Sta Z h323 "com/example/drongo/drongo/event/Display" "MAIN" "Lcom/example/drongo/drongo/event/Display;" (.ref b3) := Sta.wr W323 fx317
    have fx331 : Exa Z h323 b3 "com/example/drongo/drongo/event/Display" := Exa.wr W323 fx318
    have fx332 : Exa Z h323 a294 "[J" := Exa.wr W323 fx319
    have fx333 : Ar Z h323 a294 .long [(.long p0), (.long t1)] := A323
    have N334 := Fr.snoc X323 N321 ge299
    have Z335 : h0.size ≤ h323.size := by rw [W323.size]; exact Z322
    show Goes p.tables e below (T323.setTop (mkF m 55 #[.val (.long p0), .second, .val (.long p1), .second, .val (.long p2), .second, .val (.int p3), .val (.int p4), .val (.int (2 : Int32)), .val (.long p0), .second, .val (.long t1), .second, .val (.long t2), .second, .val (.ref a294), .unset, .unset, .unset, .unset, .unset, .unset, .unset, .unset, .unset, .unset] [])) _
    refine g_iload X323 hx (hb hby at_55) rfl ?_
    show Goes p.tables e below (T323.setTop (mkF m 57 #[.val (.long p0), .second, .val (.long p1), .second, .val (.long p2), .second, .val (.int p3), .val (.int p4), .val (.int (2 : Int32)), .val (.long p0), .second, .val (.long t1), .second, .val (.long t2), .second, .val (.ref a294), .unset, .unset, .unset, .unset, .unset, .unset, .unset, .unset, .unset, .unset] [(.int (2 : Int32))])) _
    refine g_iconst X323 hx (2 : Int32) (hb hby at_57) rfl ?_
    show Goes p.tables e below (T323.setTop (mkF m 58 #[.val (.long p0), .second, .val (.long p1), .second, .val (.long p2), .second, .val (.int p3), .val (.int p4), .val (.int (2 : Int32)), .val (.long p0), .second, .val (.long t1), .second, .val (.long t2), .second, .val (.ref a294), .unset, .unset, .unset, .unset, .unset, .unset, .unset, .unset, .unset, .unset] [(.int (2 : Int32)), (.int (2 : Int32))])) _
    refine g_icmp_le X323 hx (hb hby at_58) (by decide) (pc' := 67) (by decide) (fun _ => ?_) (fun q => absurd q (by decide))
    show Goes p.tables e below (T323.setTop (mkF m 67 #[.val (.long p0), .second, .val (.long p1), .second, .val (.long p2), .second, .val (.int p3), .val (.int p4), .val (.int (2 : Int32)), .val (.long p0), .second, .val (.long t1), .second, .val (.long t2), .second, .val (.ref a294), .unset, .unset, .unset, .unset, .unset, .unset, .unset, .unset, .unset, .unset] [])) _
    refine g_iload X323 hx (hb hby at_67) rfl ?_
    show Goes p.tables e below (T323.setTop (mkF m 69 #[.val (.long p0), .second, .val (.long p1), .second, .val (.long p2), .second, .val (.int p3), .val (.int p4), .val (.int (2 : Int32)), .val (.long p0), .second, .val (.long t1), .second, .val (.long t2), .second, .val (.ref a294), .unset, .unset, .unset, .unset, .unset, .unset, .unset, .unset, .unset, .unset] [(.int p4)])) _
    refine g_iconst X323 hx (1 : Int32) (hb hby at_69) rfl ?_
    show Goes p.tables e below (T323.setTop (mkF m 70 #[.val (.long p0), .second, .val (.long p1), .second, .val (.long p2), .second, .val (.int p3), .val (.int p4), .val (.int (2 : Int32)), .val (.long p0), .second, .val (.long t1), .second, .val (.long t2), .second, .val (.ref a294), .unset, .unset, .unset, .unset, .unset, .unset, .unset, .unset, .unset, .unset] [(.int (1 : Int32)), (.int p4)])) _
    refine g_iand X323 hx (hb hby at_70) ?_
    show Goes p.tables e below (T323.setTop (mkF m 71 #[.val (.long p0), .second, .val (.long p1), .second, .val (.long p2), .second, .val (.int p3), .val (.int p4), .val (.int (2 : Int32)), .val (.long p0), .second, .val (.long t1), .second, .val (.long t2), .second, .val (.ref a294), .unset, .unset, .unset, .unset, .unset, .unset, .unset, .unset, .unset, .unset] [(.int (p4 &&& (1 : Int32)))])) _
    refine g_if_eq X323 hx (hb hby at_71) (by decide) (pc' := 80) (by decide) (fun c71 => ?_) (fun c71 => ?_)
    · skip
      show Goes p.tables e below (T323.setTop (mkF m 80 #[.val (.long p0), .second, .val (.long p1), .second, .val (.long p2), .second, .val (.int p3), .val (.int p4), .val (.int (2 : Int32)), .val (.long p0), .second, .val (.long t1), .second, .val (.long t2), .second, .val (.ref a294), .unset, .unset, .unset, .unset, .unset, .unset, .unset, .unset, .unset, .unset] [])) _
      refine g_getS X323 hx hZ hown e323 (host := "") (Or.inl (hw _ (List.mem_of_getElem? (i := 44) rfl))) fx328 (hb hby at_80) (fun T336 X336 e336 => ?_)
      show Goes p.tables e below (T336.setTop (mkF m 83 #[.val (.long p0), .second, .val (.long p1), .second, .val (.long p2), .second, .val (.int p3), .val (.int p4), .val (.int (2 : Int32)), .val (.long p0), .second, .val (.long t1), .second, .val (.long t2), .second, .val (.ref a294), .unset, .unset, .unset, .unset, .unset, .unset, .unset, .unset, .unset, .unset] [(.ref b2)])) _
      refine g_astore X336 hx (hb hby at_83) rfl (l' := #[.val (.long p0), .second, .val (.long p1), .second, .val (.long p2), .second, .val (.int p3), .val (.int p4), .val (.int (2 : Int32)), .val (.long p0), .second, .val (.long t1), .second, .val (.long t2), .second, .val (.ref a294), .val (.ref b2), .unset, .unset, .unset, .unset, .unset, .unset, .unset, .unset, .unset]) rfl ?_
      show Goes p.tables e below (T336.setTop (mkF m 85 #[.val (.long p0), .second, .val (.long p1), .second, .val (.long p2), .second, .val (.int p3), .val (.int p4), .val (.int (2 : Int32)), .val (.long p0), .second, .val (.long t1), .second, .val (.long t2), .second, .val (.ref a294), .val (.ref b2), .unset, .unset, .unset, .unset, .unset, .unset, .unset, .unset, .unset] [])) _
      refine g_iload X336 hx (hb hby at_85) rfl ?_
      show Goes p.tables e below (T336.setTop (mkF m 87 #[.val (.long p0), .second, .val (.long p1), .second, .val (.long p2), .second, .val (.int p3), .val (.int p4), .val (.int (2 : Int32)), .val (.long p0), .second, .val (.long t1), .second, .val (.long t2), .second, .val (.ref a294), .val (.ref b2), .unset, .unset, .unset, .unset, .unset, .unset, .unset, .unset, .unset] [(.int p4)])) _
      refine g_iconst X336 hx (2 : Int32) (hb hby at_87) rfl ?_
      show Goes p.tables e below (T336.setTop (mkF m 88 #[.val (.long p0), .second, .val (.long p1), .second, .val (.long p2), .second, .val (.int p3), .val (.int p4), .val (.int (2 : Int32)), .val (.long p0), .second, .val (.long t1), .second, .val (.long t2), .second, .val (.ref a294), .val (.ref b2), .unset, .unset, .unset, .unset, .unset, .unset, .unset, .unset, .unset] [(.int (2 : Int32)), (.int p4)])) _
      refine g_iand X336 hx (hb hby at_88) ?_
      show Goes p.tables e below (T336.setTop (mkF m 89 #[.val (.long p0), .second, .val (.long p1), .second, .val (.long p2), .second, .val (.int p3), .val (.int p4), .val (.int (2 : Int32)), .val (.long p0), .second, .val (.long t1), .second, .val (.long t2), .second, .val (.ref a294), .val (.ref b2), .unset, .unset, .unset, .unset, .unset, .unset, .unset, .unset, .unset] [(.int (p4 &&& (2 : Int32)))])) _
      obtain ⟨v337, hv337⟩ : ∃ z : Int32, z = (if (p4 &&& (2 : Int32)) = 0 then (0 : Int32) else (1 : Int32)) := ⟨_, rfl⟩
      refine Goes.join (S' := T336.setTop (mkF m 97 #[.val (.long p0), .second, .val (.long p1), .second, .val (.long p2), .second, .val (.int p3), .val (.int p4), .val (.int (2 : Int32)), .val (.long p0), .second, .val (.long t1), .second, .val (.long t2), .second, .val (.ref a294), .val (.ref b2), .unset, .unset, .unset, .unset, .unset, .unset, .unset, .unset, .unset] [(.int v337)])) (fun J => ?_) ?_
      · skip
        refine g_if_eq X336 hx (hb hby at_89) (by decide) (pc' := 96) (by decide) (fun c89 => ?_) (fun c89 => ?_)
        · skip
          show Goes p.tables e below (T336.setTop (mkF m 96 #[.val (.long p0), .second, .val (.long p1), .second, .val (.long p2), .second, .val (.int p3), .val (.int p4), .val (.int (2 : Int32)), .val (.long p0), .second, .val (.long t1), .second, .val (.long t2), .second, .val (.ref a294), .val (.ref b2), .unset, .unset, .unset, .unset, .unset, .unset, .unset, .unset, .unset] [])) _
          refine g_iconst X336 hx (0 : Int32) (hb hby at_96) rfl ?_
          rw [show v337 = ((0 : Int32)) from by rw [hv337, if_pos c89]] at J
          exact J
        · skip
          show Goes p.tables e below (T336.setTop (mkF m 92 #[.val (.long p0), .second, .val (.long p1), .second, .val (.long p2), .second, .val (.int p3), .val (.int p4), .val (.int (2 : Int32)), .val (.long p0), .second, .val (.long t1), .second, .val (.long t2), .second, .val (.ref a294), .val (.ref b2), .unset, .unset, .unset, .unset, .unset, .unset, .unset, .unset, .unset] [])) _
          refine g_iconst X336 hx (1 : Int32) (hb hby at_92) rfl ?_
          show Goes p.tables e below (T336.setTop (mkF m 93 #[.val (.long p0), .second, .val (.long p1), .second, .val (.long p2), .second, .val (.int p3), .val (.int p4), .val (.int (2 : Int32)), .val (.long p0), .second, .val (.long t1), .second, .val (.long t2), .second, .val (.ref a294), .val (.ref b2), .unset, .unset, .unset, .unset, .unset, .unset, .unset, .unset, .unset] [(.int (1 : Int32))])) _
          refine g_goto X336 hx (hb hby at_93) (by decide) (pc' := 97) (by decide) ?_
          rw [show v337 = ((1 : Int32)) from by rw [hv337, if_neg c89]] at J
          exact J
      show Goes p.tables e below (T336.setTop (mkF m 97 #[.val (.long p0), .second, .val (.long p1), .second, .val (.long p2), .second, .val (.int p3), .val (.int p4), .val (.int (2 : Int32)), .val (.long p0), .second, .val (.long t1), .second, .val (.long t2), .second, .val (.ref a294), .val (.ref b2), .unset, .unset, .unset, .unset, .unset, .unset, .unset, .unset, .unset] [(.int v337)])) _
      refine g_istore X336 hx (hb hby at_97) (l' := #[.val (.long p0), .second, .val (.long p1), .second, .val (.long p2), .second, .val (.int p3), .val (.int p4), .val (.int (2 : Int32)), .val (.long p0), .second, .val (.long t1), .second, .val (.long t2), .second, .val (.ref a294), .val (.ref b2), .val (.int v337), .unset, .unset, .unset, .unset, .unset, .unset, .unset, .unset]) rfl ?_
      show Goes p.tables e below (T336.setTop (mkF m 99 #[.val (.long p0), .second, .val (.long p1), .second, .val (.long p2), .second, .val (.int p3), .val (.int p4), .val (.int (2 : Int32)), .val (.long p0), .second, .val (.long t1), .second, .val (.long t2), .second, .val (.ref a294), .val (.ref b2), .val (.int v337), .unset, .unset, .unset, .unset, .unset, .unset, .unset, .unset] [])) _
      refine g_iload X336 hx (hb hby at_99) rfl ?_
      show Goes p.tables e below (T336.setTop (mkF m 101 #[.val (.long p0), .second, .val (.long p1), .second, .val (.long p2), .second, .val (.int p3), .val (.int p4), .val (.int (2 : Int32)), .val (.long p0), .second, .val (.long t1), .second, .val (.long t2), .second, .val (.ref a294), .val (.ref b2), .val (.int v337), .unset, .unset, .unset, .unset, .unset, .unset, .unset, .unset] [(.int p4)])) _
      refine g_iconst X336 hx (4 : Int32) (hb hby at_101) rfl ?_
      show Goes p.tables e below (T336.setTop (mkF m 102 #[.val (.long p0), .second, .val (.long p1), .second, .val (.long p2), .second, .val (.int p3), .val (.int p4), .val (.int (2 : Int32)), .val (.long p0), .second, .val (.long t1), .second, .val (.long t2), .second, .val (.ref a294), .val (.ref b2), .val (.int v337), .unset, .unset, .unset, .unset, .unset, .unset, .unset, .unset] [(.int (4 : Int32)), (.int p4)])) _
      refine g_iand X336 hx (hb hby at_102) ?_
      show Goes p.tables e below (T336.setTop (mkF m 103 #[.val (.long p0), .second, .val (.long p1), .second, .val (.long p2), .second, .val (.int p3), .val (.int p4), .val (.int (2 : Int32)), .val (.long p0), .second, .val (.long t1), .second, .val (.long t2), .second, .val (.ref a294), .val (.ref b2), .val (.int v337), .unset, .unset, .unset, .unset, .unset, .unset, .unset, .unset] [(.int (p4 &&& (4 : Int32)))])) _
      refine g_if_eq X336 hx (hb hby at_103) (by decide) (pc' := 112) (by decide) (fun c103 => ?_) (fun c103 => ?_)
      · skip
        show Goes p.tables e below (T336.setTop (mkF m 112 #[.val (.long p0), .second, .val (.long p1), .second, .val (.long p2), .second, .val (.int p3), .val (.int p4), .val (.int (2 : Int32)), .val (.long p0), .second, .val (.long t1), .second, .val (.long t2), .second, .val (.ref a294), .val (.ref b2), .val (.int v337), .unset, .unset, .unset, .unset, .unset, .unset, .unset, .unset] [])) _
        refine g_getS X336 hx hZ hown e336 (host := "") (Or.inl (hw _ (List.mem_of_getElem? (i := 9) rfl))) fx326 (hb hby at_112) (fun T338 X338 e338 => ?_)
        show Goes p.tables e below (T338.setTop (mkF m 115 #[.val (.long p0), .second, .val (.long p1), .second, .val (.long p2), .second, .val (.int p3), .val (.int p4), .val (.int (2 : Int32)), .val (.long p0), .second, .val (.long t1), .second, .val (.long t2), .second, .val (.ref a294), .val (.ref b2), .val (.int v337), .unset, .unset, .unset, .unset, .unset, .unset, .unset, .unset] [(.ref b1)])) _
        refine g_astore X338 hx (hb hby at_115) rfl (l' := #[.val (.long p0), .second, .val (.long p1), .second, .val (.long p2), .second, .val (.int p3), .val (.int p4), .val (.int (2 : Int32)), .val (.long p0), .second, .val (.long t1), .second, .val (.long t2), .second, .val (.ref a294), .val (.ref b2), .val (.int v337), .val (.ref b1), .unset, .unset, .unset, .unset, .unset, .unset, .unset]) rfl ?_
        show Goes p.tables e below (T338.setTop (mkF m 117 #[.val (.long p0), .second, .val (.long p1), .second, .val (.long p2), .second, .val (.int p3), .val (.int p4), .val (.int (2 : Int32)), .val (.long p0), .second, .val (.long t1), .second, .val (.long t2), .second, .val (.ref a294), .val (.ref b2), .val (.int v337), .val (.ref b1), .unset, .unset, .unset, .unset, .unset, .unset, .unset] [])) _
        refine g_new X338 hx hZ hown e338 (hw _ (List.mem_of_getElem? (i := 12) rfl)) (hw _ (List.mem_of_getElem? (i := 13) rfl)) (hw _ (List.mem_of_getElem? (i := 14) rfl)) (hb hby at_117) (by decide) (by decide) (fun T339 h339 a339 ga339 X339 e339 Ex339 Ea339 Df339 => ?_)
        have ne340 : b0 ≠ a339 := Nat.ne_of_lt (by rw [ga339]; exact fx325.lt)
        have ne341 : b1 ≠ a339 := Nat.ne_of_lt (by rw [ga339]; exact fx327.lt)
        have ne342 : b2 ≠ a339 := Nat.ne_of_lt (by rw [ga339]; exact fx329.lt)
        have ne343 : b3 ≠ a339 := Nat.ne_of_lt (by rw [ga339]; exact fx331.lt)
        have ne344 : a294 ≠ a339 := Nat.ne_of_lt (by rw [ga339]; exact fx332.lt)
        have ge345 : h0.size ≤ a339 := by rw [ga339]; exact Z335
        have fx346 : Sta Z h339 "com/example/drongo/drongo/event/RotaryEvent$Knob" "NAVIGATION" "Lcom/example/drongo/drongo/event/RotaryEvent$Knob;" (.ref b0) := Sta.ext Ex339 fx324
        have fx347 : Exa Z h339 b0 "com/example/drongo/drongo/event/RotaryEvent$Knob" := Exa.ext Ex339 fx325
        have fx348 : Sta Z h339 "com/example/drongo/drongo/event/Display" "CLUSTER" "Lcom/example/drongo/drongo/event/Display;" (.ref b1) := Sta.ext Ex339 fx326
        have fx349 : Exa Z h339 b1 "com/example/drongo/drongo/event/Display" := Exa.ext Ex339 fx327
        have fx350 : Sta Z h339 "com/example/drongo/drongo/event/RotaryEvent$Knob" "VOLUME" "Lcom/example/drongo/drongo/event/RotaryEvent$Knob;" (.ref b2) := Sta.ext Ex339 fx328
        have fx351 : Exa Z h339 b2 "com/example/drongo/drongo/event/RotaryEvent$Knob" := Exa.ext Ex339 fx329
        have fx352 : Sta Z h339 "com/example/drongo/drongo/event/Display" "MAIN" "Lcom/example/drongo/drongo/event/Display;" (.ref b3) := Sta.ext Ex339 fx330
        have fx353 : Exa Z h339 b3 "com/example/drongo/drongo/event/Display" := Exa.ext Ex339 fx331
        have fx354 : Exa Z h339 a294 "[J" := Exa.ext Ex339 fx332
        have fx355 : Ar Z h339 a294 .long [(.long p0), (.long t1)] := Ar.ext fx333 Ex339
        have Z356 : h0.size ≤ h339.size := Nat.le_trans Z335 Ex339.1
        have fx357 : Fld Z h339 a339 "com/example/drongo/drongo/event/RotaryEvent" "knob" "Lcom/example/drongo/drongo/event/RotaryEvent$Knob;" .null := Df339 (Or.inr (hw _ (List.mem_of_getElem? (i := 22) rfl))) (ty := (.object "com/example/drongo/drongo/event/RotaryEvent$Knob")) (by decide)
        have fx358 : Fld Z h339 a339 "com/example/drongo/drongo/event/RotaryEvent" "clockwise" "Z" (.int (0 : Int32)) := Df339 (Or.inr (hw _ (List.mem_of_getElem? (i := 24) rfl))) (ty := .boolean) (by decide)
        have fx359 : Fld Z h339 a339 "com/example/drongo/drongo/event/RotaryEvent" "display" "Lcom/example/drongo/drongo/event/Display;" .null := Df339 (Or.inr (hw _ (List.mem_of_getElem? (i := 26) rfl))) (ty := (.object "com/example/drongo/drongo/event/Display")) (by decide)
        have fx360 : Fld Z h339 a339 "com/example/drongo/drongo/event/RotaryEvent" "timesMillis" "[J" .null := Df339 (Or.inr (hw _ (List.mem_of_getElem? (i := 37) rfl))) (ty := (.array .long)) (by decide)
        show Goes p.tables e below (T339.setTop (mkF m 120 #[.val (.long p0), .second, .val (.long p1), .second, .val (.long p2), .second, .val (.int p3), .val (.int p4), .val (.int (2 : Int32)), .val (.long p0), .second, .val (.long t1), .second, .val (.long t2), .second, .val (.ref a294), .val (.ref b2), .val (.int v337), .val (.ref b1), .unset, .unset, .unset, .unset, .unset, .unset, .unset] [(.ref a339)])) _
        refine g_dup X339 hx (hb hby at_120) rfl ?_
        show Goes p.tables e below (T339.setTop (mkF m 121 #[.val (.long p0), .second, .val (.long p1), .second, .val (.long p2), .second, .val (.int p3), .val (.int p4), .val (.int (2 : Int32)), .val (.long p0), .second, .val (.long t1), .second, .val (.long t2), .second, .val (.ref a294), .val (.ref b2), .val (.int v337), .val (.ref b1), .unset, .unset, .unset, .unset, .unset, .unset, .unset] [(.ref a339), (.ref a339)])) _
        refine g_aload X339 hx (hb hby at_121) rfl rfl ?_
        show Goes p.tables e below (T339.setTop (mkF m 123 #[.val (.long p0), .second, .val (.long p1), .second, .val (.long p2), .second, .val (.int p3), .val (.int p4), .val (.int (2 : Int32)), .val (.long p0), .second, .val (.long t1), .second, .val (.long t2), .second, .val (.ref a294), .val (.ref b2), .val (.int v337), .val (.ref b1), .unset, .unset, .unset, .unset, .unset, .unset, .unset] [(.ref b2), (.ref a339), (.ref a339)])) _
        refine g_iload X339 hx (hb hby at_123) rfl ?_
        show Goes p.tables e below (T339.setTop (mkF m 125 #[.val (.long p0), .second, .val (.long p1), .second, .val (.long p2), .second, .val (.int p3), .val (.int p4), .val (.int (2 : Int32)), .val (.long p0), .second, .val (.long t1), .second, .val (.long t2), .second, .val (.ref a294), .val (.ref b2), .val (.int v337), .val (.ref b1), .unset, .unset, .unset, .unset, .unset, .unset, .unset] [(.int v337), (.ref b2), (.ref a339), (.ref a339)])) _
        refine g_aload X339 hx (hb hby at_125) rfl rfl ?_
        show Goes p.tables e below (T339.setTop (mkF m 127 #[.val (.long p0), .second, .val (.long p1), .second, .val (.long p2), .second, .val (.int p3), .val (.int p4), .val (.int (2 : Int32)), .val (.long p0), .second, .val (.long t1), .second, .val (.long t2), .second, .val (.ref a294), .val (.ref b2), .val (.int v337), .val (.ref b1), .unset, .unset, .unset, .unset, .unset, .unset, .unset] [(.ref b1), (.int v337), (.ref b2), (.ref a339), (.ref a339)])) _
        refine g_aload X339 hx (hb hby at_127) rfl rfl ?_
        show Goes p.tables e below (T339.setTop (mkF m 129 #[.val (.long p0), .second, .val (.long p1), .second, .val (.long p2), .second, .val (.int p3), .val (.int p4), .val (.int (2 : Int32)), .val (.long p0), .second, .val (.long t1), .second, .val (.long t2), .second, .val (.ref a294), .val (.ref b2), .val (.int v337), .val (.ref b1), .unset, .unset, .unset, .unset, .unset, .unset, .unset] [(.ref a294), (.ref b1), (.int v337), (.ref b2), (.ref a339), (.ref a339)])) _
        have lta := fx355.lt
        have ltb := Ea339.lt
        refine g_callI X339 hx hZ hown (by rw [hml]; rfl) e339 rfl (hw _ (List.mem_of_getElem? (i := 15) rfl)) (hw _ (List.mem_of_getElem? (i := 16) rfl)) (hw _ (List.mem_of_getElem? (i := 14) rfl)) (hw _ (List.mem_of_getElem? (i := 17) rfl)) (rmI l Z a0 hw a339 b2 v337 b1 a294 h339 h0.size Z356 [(.long p0), (.long t1)] (by simp) fx357 fx358 fx359 fx360 Ea339 fx355 fx354 ge345 ne344) a339 [(.ref b2), (.int v337), (.ref b1), (.ref a294)] rfl [(.ref a339)] rfl (lenOf pd_2 rfl) (hb hby at_129) (by decide) 1 (by decide) (by decide) (by first | decide | exact Nat.le_refl _) (by decide) (by decide) (fun v T361 L361 X361 hQ361 => ?_)
        obtain ⟨rfl, Nc361, Kc361, b361, gb361, hb361, fT361, Ab361⟩ := hQ361
        have fx362 : Sta Z T361.heap "com/example/drongo/drongo/event/RotaryEvent$Knob" "NAVIGATION" "Lcom/example/drongo/drongo/event/RotaryEvent$Knob;" (.ref b0) := own_stakeep fx346 Kc361 (allS (own_nst Ea339) all0)
        have fx363 : Exa Z T361.heap b0 "com/example/drongo/drongo/event/RotaryEvent$Knob" := Exa.keep fx347 Kc361
        have fx364 : Sta Z T361.heap "com/example/drongo/drongo/event/Display" "CLUSTER" "Lcom/example/drongo/drongo/event/Display;" (.ref b1) := own_stakeep fx348 Kc361 (allS (own_nst Ea339) all0)
        have fx365 : Exa Z T361.heap b1 "com/example/drongo/drongo/event/Display" := Exa.keep fx349 Kc361
        have fx366 : Sta Z T361.heap "com/example/drongo/drongo/event/RotaryEvent$Knob" "VOLUME" "Lcom/example/drongo/drongo/event/RotaryEvent$Knob;" (.ref b2) := own_stakeep fx350 Kc361 (allS (own_nst Ea339) all0)
        have fx367 : Exa Z T361.heap b2 "com/example/drongo/drongo/event/RotaryEvent$Knob" := Exa.keep fx351 Kc361
        have fx368 : Sta Z T361.heap "com/example/drongo/drongo/event/Display" "MAIN" "Lcom/example/drongo/drongo/event/Display;" (.ref b3) := own_stakeep fx352 Kc361 (allS (own_nst Ea339) all0)
        have fx369 : Exa Z T361.heap b3 "com/example/drongo/drongo/event/Display" := Exa.keep fx353 Kc361
        have fx370 : Exa Z T361.heap a294 "[J" := Exa.keep fx354 Kc361
        have fx371 : Ar Z T361.heap a294 .long [(.long p0), (.long t1)] := Ar.keep fx355 Kc361 (ninS ne344 nin0)
        have fx372 : Exa Z T361.heap a339 "com/example/drongo/drongo/event/RotaryEvent" := Exa.keep Ea339 Kc361
        have N373 := Fr.app N334 Nc361
        have Z374 : h0.size ≤ T361.heap.size := Nat.le_trans Z356 Kc361.1
        have ne375 : a294 ≠ b361 := Nat.ne_of_lt (Nat.lt_of_lt_of_le lta hb361)
        have ne376 : a339 ≠ b361 := Nat.ne_of_lt (Nat.lt_of_lt_of_le ltb hb361)
        show Goes p.tables e below (T361.setTop (mkF m 132 #[.val (.long p0), .second, .val (.long p1), .second, .val (.long p2), .second, .val (.int p3), .val (.int p4), .val (.int (2 : Int32)), .val (.long p0), .second, .val (.long t1), .second, .val (.long t2), .second, .val (.ref a294), .val (.ref b2), .val (.int v337), .val (.ref b1), .unset, .unset, .unset, .unset, .unset, .unset, .unset] [(.ref a339)])) _
        refine g_astore X361 hx (hb hby at_132) rfl (l' := #[.val (.long p0), .second, .val (.long p1), .second, .val (.long p2), .second, .val (.int p3), .val (.int p4), .val (.int (2 : Int32)), .val (.long p0), .second, .val (.long t1), .second, .val (.long t2), .second, .val (.ref a294), .val (.ref b2), .val (.int v337), .val (.ref b1), .val (.ref a339), .unset, .unset, .unset, .unset, .unset, .unset]) rfl ?_
        show Goes p.tables e below (T361.setTop (mkF m 134 #[.val (.long p0), .second, .val (.long p1), .second, .val (.long p2), .second, .val (.int p3), .val (.int p4), .val (.int (2 : Int32)), .val (.long p0), .second, .val (.long t1), .second, .val (.long t2), .second, .val (.ref a294), .val (.ref b2), .val (.int v337), .val (.ref b1), .val (.ref a339), .unset, .unset, .unset, .unset, .unset, .unset] [])) _
        refine g_iload X361 hx (hb hby at_134) rfl ?_
        show Goes p.tables e below (T361.setTop (mkF m 136 #[.val (.long p0), .second, .val (.long p1), .second, .val (.long p2), .second, .val (.int p3), .val (.int p4), .val (.int (2 : Int32)), .val (.long p0), .second, .val (.long t1), .second, .val (.long t2), .second, .val (.ref a294), .val (.ref b2), .val (.int v337), .val (.ref b1), .val (.ref a339), .unset, .unset, .unset, .unset, .unset, .unset] [(.int (2 : Int32))])) _
        refine g_iconst X361 hx (1 : Int32) (hb hby at_136) rfl ?_
        show Goes p.tables e below (T361.setTop (mkF m 137 #[.val (.long p0), .second, .val (.long p1), .second, .val (.long p2), .second, .val (.int p3), .val (.int p4), .val (.int (2 : Int32)), .val (.long p0), .second, .val (.long t1), .second, .val (.long t2), .second, .val (.ref a294), .val (.ref b2), .val (.int v337), .val (.ref b1), .val (.ref a339), .unset, .unset, .unset, .unset, .unset, .unset] [(.int (1 : Int32)), (.int (2 : Int32))])) _
        refine g_icmp_ne X361 hx (hb hby at_137) (by decide) (pc' := 145) (by decide) (fun _ => ?_) (fun q => absurd q (by decide))
        show Goes p.tables e below (T361.setTop (mkF m 145 #[.val (.long p0), .second, .val (.long p1), .second, .val (.long p2), .second, .val (.int p3), .val (.int p4), .val (.int (2 : Int32)), .val (.long p0), .second, .val (.long t1), .second, .val (.long t2), .second, .val (.ref a294), .val (.ref b2), .val (.int v337), .val (.ref b1), .val (.ref a339), .unset, .unset, .unset, .unset, .unset, .unset] [])) _
        refine g_iload X361 hx (hb hby at_145) rfl ?_
        show Goes p.tables e below (T361.setTop (mkF m 147 #[.val (.long p0), .second, .val (.long p1), .second, .val (.long p2), .second, .val (.int p3), .val (.int p4), .val (.int (2 : Int32)), .val (.long p0), .second, .val (.long t1), .second, .val (.long t2), .second, .val (.ref a294), .val (.ref b2), .val (.int v337), .val (.ref b1), .val (.ref a339), .unset, .unset, .unset, .unset, .unset, .unset] [(.int (2 : Int32))])) _
        refine g_iconst X361 hx (2 : Int32) (hb hby at_147) rfl ?_
        show Goes p.tables e below (T361.setTop (mkF m 148 #[.val (.long p0), .second, .val (.long p1), .second, .val (.long p2), .second, .val (.int p3), .val (.int p4), .val (.int (2 : Int32)), .val (.long p0), .second, .val (.long t1), .second, .val (.long t2), .second, .val (.ref a294), .val (.ref b2), .val (.int v337), .val (.ref b1), .val (.ref a339), .unset, .unset, .unset, .unset, .unset, .unset] [(.int (2 : Int32)), (.int (2 : Int32))])) _
        refine g_icmp_ne X361 hx (hb hby at_148) (by decide) (pc' := 156) (by decide) (fun q => absurd (by decide) q) (fun _ => ?_)
        show Goes p.tables e below (T361.setTop (mkF m 151 #[.val (.long p0), .second, .val (.long p1), .second, .val (.long p2), .second, .val (.int p3), .val (.int p4), .val (.int (2 : Int32)), .val (.long p0), .second, .val (.long t1), .second, .val (.long t2), .second, .val (.ref a294), .val (.ref b2), .val (.int v337), .val (.ref b1), .val (.ref a339), .unset, .unset, .unset, .unset, .unset, .unset] [])) _
        refine g_lload X361 hx (hb hby at_151) rfl ?_
        show Goes p.tables e below (T361.setTop (mkF m 153 #[.val (.long p0), .second, .val (.long p1), .second, .val (.long p2), .second, .val (.int p3), .val (.int p4), .val (.int (2 : Int32)), .val (.long p0), .second, .val (.long t1), .second, .val (.long t2), .second, .val (.ref a294), .val (.ref b2), .val (.int v337), .val (.ref b1), .val (.ref a339), .unset, .unset, .unset, .unset, .unset, .unset] [(.long t1)])) _
        refine g_goto X361 hx (hb hby at_153) (by decide) (pc' := 158) (by decide) ?_
        show Goes p.tables e below (T361.setTop (mkF m 158 #[.val (.long p0), .second, .val (.long p1), .second, .val (.long p2), .second, .val (.int p3), .val (.int p4), .val (.int (2 : Int32)), .val (.long p0), .second, .val (.long t1), .second, .val (.long t2), .second, .val (.ref a294), .val (.ref b2), .val (.int v337), .val (.ref b1), .val (.ref a339), .unset, .unset, .unset, .unset, .unset, .unset] [(.long t1)])) _
        refine g_lstore X361 hx (hb hby at_158) (l' := #[.val (.long p0), .second, .val (.long p1), .second, .val (.long p2), .second, .val (.int p3), .val (.int p4), .val (.int (2 : Int32)), .val (.long p0), .second, .val (.long t1), .second, .val (.long t2), .second, .val (.ref a294), .val (.ref b2), .val (.int v337), .val (.ref b1), .val (.ref a339), .val (.long t1), .second, .unset, .unset, .unset, .unset]) rfl ?_
        show Goes p.tables e below (T361.setTop (mkF m 160 #[.val (.long p0), .second, .val (.long p1), .second, .val (.long p2), .second, .val (.int p3), .val (.int p4), .val (.int (2 : Int32)), .val (.long p0), .second, .val (.long t1), .second, .val (.long t2), .second, .val (.ref a294), .val (.ref b2), .val (.int v337), .val (.ref b1), .val (.ref a339), .val (.long t1), .second, .unset, .unset, .unset, .unset] [])) _
        refine g_lload X361 hx (hb hby at_160) rfl ?_
        show Goes p.tables e below (T361.setTop (mkF m 162 #[.val (.long p0), .second, .val (.long p1), .second, .val (.long p2), .second, .val (.int p3), .val (.int p4), .val (.int (2 : Int32)), .val (.long p0), .second, .val (.long t1), .second, .val (.long t2), .second, .val (.ref a294), .val (.ref b2), .val (.int v337), .val (.ref b1), .val (.ref a339), .val (.long t1), .second, .unset, .unset, .unset, .unset] [(.long p0)])) _
        refine g_iload X361 hx (hb hby at_162) rfl ?_
        show Goes p.tables e below (T361.setTop (mkF m 164 #[.val (.long p0), .second, .val (.long p1), .second, .val (.long p2), .second, .val (.int p3), .val (.int p4), .val (.int (2 : Int32)), .val (.long p0), .second, .val (.long t1), .second, .val (.long t2), .second, .val (.ref a294), .val (.ref b2), .val (.int v337), .val (.ref b1), .val (.ref a339), .val (.long t1), .second, .unset, .unset, .unset, .unset] [(.int (2 : Int32)), (.long p0)])) _
        refine g_iconst X361 hx (1 : Int32) (hb hby at_164) rfl ?_
        show Goes p.tables e below (T361.setTop (mkF m 165 #[.val (.long p0), .second, .val (.long p1), .second, .val (.long p2), .second, .val (.int p3), .val (.int p4), .val (.int (2 : Int32)), .val (.long p0), .second, .val (.long t1), .second, .val (.long t2), .second, .val (.ref a294), .val (.ref b2), .val (.int v337), .val (.ref b1), .val (.ref a339), .val (.long t1), .second, .unset, .unset, .unset, .unset] [(.int (1 : Int32)), (.int (2 : Int32)), (.long p0)])) _
        refine g_icmp_le X361 hx (hb hby at_165) (by decide) (pc' := 173) (by decide) (fun q => absurd (by decide) q) (fun _ => ?_)
        show Goes p.tables e below (T361.setTop (mkF m 168 #[.val (.long p0), .second, .val (.long p1), .second, .val (.long p2), .second, .val (.int p3), .val (.int p4), .val (.int (2 : Int32)), .val (.long p0), .second, .val (.long t1), .second, .val (.long t2), .second, .val (.ref a294), .val (.ref b2), .val (.int v337), .val (.ref b1), .val (.ref a339), .val (.long t1), .second, .unset, .unset, .unset, .unset] [(.long p0)])) _
        refine g_lload X361 hx (hb hby at_168) rfl ?_
        show Goes p.tables e below (T361.setTop (mkF m 170 #[.val (.long p0), .second, .val (.long p1), .second, .val (.long p2), .second, .val (.int p3), .val (.int p4), .val (.int (2 : Int32)), .val (.long p0), .second, .val (.long t1), .second, .val (.long t2), .second, .val (.ref a294), .val (.ref b2), .val (.int v337), .val (.ref b1), .val (.ref a339), .val (.long t1), .second, .unset, .unset, .unset, .unset] [(.long t1), (.long p0)])) _
        refine g_goto X361 hx (hb hby at_170) (by decide) (pc' := 175) (by decide) ?_
        show Goes p.tables e below (T361.setTop (mkF m 175 #[.val (.long p0), .second, .val (.long p1), .second, .val (.long p2), .second, .val (.int p3), .val (.int p4), .val (.int (2 : Int32)), .val (.long p0), .second, .val (.long t1), .second, .val (.long t2), .second, .val (.ref a294), .val (.ref b2), .val (.int v337), .val (.ref b1), .val (.ref a339), .val (.long t1), .second, .unset, .unset, .unset, .unset] [(.long t1), (.long p0)])) _
        refine g_iload X361 hx (hb hby at_175) rfl ?_
        show Goes p.tables e below (T361.setTop (mkF m 177 #[.val (.long p0), .second, .val (.long p1), .second, .val (.long p2), .second, .val (.int p3), .val (.int p4), .val (.int (2 : Int32)), .val (.long p0), .second, .val (.long t1), .second, .val (.long t2), .second, .val (.ref a294), .val (.ref b2), .val (.int v337), .val (.ref b1), .val (.ref a339), .val (.long t1), .second, .unset, .unset, .unset, .unset] [(.int (2 : Int32)), (.long t1), (.long p0)])) _
        refine g_iconst X361 hx (2 : Int32) (hb hby at_177) rfl ?_
        show Goes p.tables e below (T361.setTop (mkF m 178 #[.val (.long p0), .second, .val (.long p1), .second, .val (.long p2), .second, .val (.int p3), .val (.int p4), .val (.int (2 : Int32)), .val (.long p0), .second, .val (.long t1), .second, .val (.long t2), .second, .val (.ref a294), .val (.ref b2), .val (.int v337), .val (.ref b1), .val (.ref a339), .val (.long t1), .second, .unset, .unset, .unset, .unset] [(.int (2 : Int32)), (.int (2 : Int32)), (.long t1), (.long p0)])) _
        refine g_icmp_le X361 hx (hb hby at_178) (by decide) (pc' := 186) (by decide) (fun _ => ?_) (fun q => absurd q (by decide))
        show Goes p.tables e below (T361.setTop (mkF m 186 #[.val (.long p0), .second, .val (.long p1), .second, .val (.long p2), .second, .val (.int p3), .val (.int p4), .val (.int (2 : Int32)), .val (.long p0), .second, .val (.long t1), .second, .val (.long t2), .second, .val (.ref a294), .val (.ref b2), .val (.int v337), .val (.ref b1), .val (.ref a339), .val (.long t1), .second, .unset, .unset, .unset, .unset] [(.long t1), (.long p0)])) _
        refine g_lload X361 hx (hb hby at_186) rfl ?_
        show Goes p.tables e below (T361.setTop (mkF m 188 #[.val (.long p0), .second, .val (.long p1), .second, .val (.long p2), .second, .val (.int p3), .val (.int p4), .val (.int (2 : Int32)), .val (.long p0), .second, .val (.long t1), .second, .val (.long t2), .second, .val (.ref a294), .val (.ref b2), .val (.int v337), .val (.ref b1), .val (.ref a339), .val (.long t1), .second, .unset, .unset, .unset, .unset] [(.long p0), (.long t1), (.long p0)])) _
        refine g_callS X361 hx hZ hown (by rw [hml]; rfl) rfl (hw _ (List.mem_of_getElem? (i := 1) rfl)) (hw _ (List.mem_of_getElem? (i := 2) rfl)) (hw _ (List.mem_of_getElem? (i := 3) rfl)) (hw _ (List.mem_of_getElem? (i := 4) rfl)) (rmX l Z a0 hw t1 p0 T361.heap) [(.long t1), (.long p0)] rfl [(.long p0)] rfl (lenOf pd_1 rfl) (hb hby at_188) (by decide) 2 (by decide) (by decide) (by first | decide | exact Nat.le_refl _) (by decide) (by decide) (fun v T377 L377 X377 hQ377 => ?_)
        obtain ⟨rfl, e377, rfl⟩ := hQ377
        have N378 := Fr.app N373 (Fr.nil h0.size)
        show Goes p.tables e below (T377.setTop (mkF m 191 #[.val (.long p0), .second, .val (.long p1), .second, .val (.long p2), .second, .val (.int p3), .val (.int p4), .val (.int (2 : Int32)), .val (.long p0), .second, .val (.long t1), .second, .val (.long t2), .second, .val (.ref a294), .val (.ref b2), .val (.int v337), .val (.ref b1), .val (.ref a339), .val (.long t1), .second, .unset, .unset, .unset, .unset] [(.long (maxV t1 p0)), (.long p0)])) _
        refine g_callS X377 hx hZ hown (by rw [hml]; rfl) e377 (hw _ (List.mem_of_getElem? (i := 1) rfl)) (hw _ (List.mem_of_getElem? (i := 2) rfl)) (hw _ (List.mem_of_getElem? (i := 3) rfl)) (hw _ (List.mem_of_getElem? (i := 4) rfl)) (rmX l Z a0 hw p0 (maxV t1 p0) T361.heap) [(.long p0), (.long (maxV t1 p0))] rfl [] rfl (lenOf pd_1 rfl) (hb hby at_191) (by decide) 0 (by decide) (by decide) (by first | decide | exact Nat.le_refl _) (by decide) (by decide) (fun v T379 L379 X379 hQ379 => ?_)
        obtain ⟨rfl, e379, rfl⟩ := hQ379
        have N380 := Fr.app N378 (Fr.nil h0.size)
        show Goes p.tables e below (T379.setTop (mkF m 194 #[.val (.long p0), .second, .val (.long p1), .second, .val (.long p2), .second, .val (.int p3), .val (.int p4), .val (.int (2 : Int32)), .val (.long p0), .second, .val (.long t1), .second, .val (.long t2), .second, .val (.ref a294), .val (.ref b2), .val (.int v337), .val (.ref b1), .val (.ref a339), .val (.long t1), .second, .unset, .unset, .unset, .unset] [(.long (maxV p0 (maxV t1 p0)))])) _
        obtain ⟨vlat, hvlat⟩ : ∃ z : Int64, z = (maxV p0 (maxV t1 p0)) := ⟨_, rfl⟩
        refine g_nameL hvlat ?_
        show Goes p.tables e below (T379.setTop (mkF m 194 #[.val (.long p0), .second, .val (.long p1), .second, .val (.long p2), .second, .val (.int p3), .val (.int p4), .val (.int (2 : Int32)), .val (.long p0), .second, .val (.long t1), .second, .val (.long t2), .second, .val (.ref a294), .val (.ref b2), .val (.int v337), .val (.ref b1), .val (.ref a339), .val (.long t1), .second, .unset, .unset, .unset, .unset] [(.long vlat)])) _
        refine g_lstore X379 hx (hb hby at_194) (l' := #[.val (.long p0), .second, .val (.long p1), .second, .val (.long p2), .second, .val (.int p3), .val (.int p4), .val (.int (2 : Int32)), .val (.long p0), .second, .val (.long t1), .second, .val (.long t2), .second, .val (.ref a294), .val (.ref b2), .val (.int v337), .val (.ref b1), .val (.ref a339), .val (.long t1), .second, .val (.long vlat), .second, .unset, .unset]) rfl ?_
        show Goes p.tables e below (T379.setTop (mkF m 196 #[.val (.long p0), .second, .val (.long p1), .second, .val (.long p2), .second, .val (.int p3), .val (.int p4), .val (.int (2 : Int32)), .val (.long p0), .second, .val (.long t1), .second, .val (.long t2), .second, .val (.ref a294), .val (.ref b2), .val (.int v337), .val (.ref b1), .val (.ref a339), .val (.long t1), .second, .val (.long vlat), .second, .unset, .unset] [])) _
        refine g_aload X379 hx (hb hby at_196) rfl rfl ?_
        show Goes p.tables e below (T379.setTop (mkF m 198 #[.val (.long p0), .second, .val (.long p1), .second, .val (.long p2), .second, .val (.int p3), .val (.int p4), .val (.int (2 : Int32)), .val (.long p0), .second, .val (.long t1), .second, .val (.long t2), .second, .val (.ref a294), .val (.ref b2), .val (.int v337), .val (.ref b1), .val (.ref a339), .val (.long t1), .second, .val (.long vlat), .second, .unset, .unset] [(.ref a294)])) _
        refine g_iload X379 hx (hb hby at_198) rfl ?_
        show Goes p.tables e below (T379.setTop (mkF m 200 #[.val (.long p0), .second, .val (.long p1), .second, .val (.long p2), .second, .val (.int p3), .val (.int p4), .val (.int (2 : Int32)), .val (.long p0), .second, .val (.long t1), .second, .val (.long t2), .second, .val (.ref a294), .val (.ref b2), .val (.int v337), .val (.ref b1), .val (.ref a339), .val (.long t1), .second, .val (.long vlat), .second, .unset, .unset] [(.int (2 : Int32)), (.ref a294)])) _
        refine g_iconst X379 hx (1 : Int32) (hb hby at_200) rfl ?_
        show Goes p.tables e below (T379.setTop (mkF m 201 #[.val (.long p0), .second, .val (.long p1), .second, .val (.long p2), .second, .val (.int p3), .val (.int p4), .val (.int (2 : Int32)), .val (.long p0), .second, .val (.long t1), .second, .val (.long t2), .second, .val (.ref a294), .val (.ref b2), .val (.int v337), .val (.ref b1), .val (.ref a339), .val (.long t1), .second, .val (.long vlat), .second, .unset, .unset] [(.int (1 : Int32)), (.int (2 : Int32)), (.ref a294)])) _
        refine g_isub X379 hx (hb hby at_201) ?_
        show Goes p.tables e below (T379.setTop (mkF m 202 #[.val (.long p0), .second, .val (.long p1), .second, .val (.long p2), .second, .val (.int p3), .val (.int p4), .val (.int (2 : Int32)), .val (.long p0), .second, .val (.long t1), .second, .val (.long t2), .second, .val (.ref a294), .val (.ref b2), .val (.int v337), .val (.ref b1), .val (.ref a339), .val (.long t1), .second, .val (.long vlat), .second, .unset, .unset] [(.int ((2 : Int32) - (1 : Int32))), (.ref a294)])) _
        refine g_lload X379 hx (hb hby at_202) rfl ?_
        show Goes p.tables e below (T379.setTop (mkF m 204 #[.val (.long p0), .second, .val (.long p1), .second, .val (.long p2), .second, .val (.int p3), .val (.int p4), .val (.int (2 : Int32)), .val (.long p0), .second, .val (.long t1), .second, .val (.long t2), .second, .val (.ref a294), .val (.ref b2), .val (.int v337), .val (.ref b1), .val (.ref a339), .val (.long t1), .second, .val (.long vlat), .second, .unset, .unset] [(.long t1), (.int ((2 : Int32) - (1 : Int32))), (.ref a294)])) _
        refine g_ldc2 X379 hx hZ hown (hw _ (List.mem_of_getElem? (i := 38) rfl)) (hb hby at_204) ?_
        show Goes p.tables e below (T379.setTop (mkF m 207 #[.val (.long p0), .second, .val (.long p1), .second, .val (.long p2), .second, .val (.int p3), .val (.int p4), .val (.int (2 : Int32)), .val (.long p0), .second, .val (.long t1), .second, .val (.long t2), .second, .val (.ref a294), .val (.ref b2), .val (.int v337), .val (.ref b1), .val (.ref a339), .val (.long t1), .second, .val (.long vlat), .second, .unset, .unset] [(.long (-1 : Int64)), (.long t1), (.int ((2 : Int32) - (1 : Int32))), (.ref a294)])) _
        refine g_lxor X379 hx (hb hby at_207) ?_
        show Goes p.tables e below (T379.setTop (mkF m 208 #[.val (.long p0), .second, .val (.long p1), .second, .val (.long p2), .second, .val (.int p3), .val (.int p4), .val (.int (2 : Int32)), .val (.long p0), .second, .val (.long t1), .second, .val (.long t2), .second, .val (.ref a294), .val (.ref b2), .val (.int v337), .val (.ref b1), .val (.ref a339), .val (.long t1), .second, .val (.long vlat), .second, .unset, .unset] [(.long (t1 ^^^ (-1 : Int64))), (.int ((2 : Int32) - (1 : Int32))), (.ref a294)])) _
        refine g_lastore X379 hx hZ e379 fx371 1 (by decide) (by simp) (hb hby at_208) (fun T381 h381 X381 e381 W381 A381 => ?_)
        have fx382 : Sta Z h381 "com/example/drongo/drongo/event/RotaryEvent$Knob" "NAVIGATION" "Lcom/example/drongo/drongo/event/RotaryEvent$Knob;" (.ref b0) := Sta.wr W381 fx362
        have fx383 : Exa Z h381 b0 "com/example/drongo/drongo/event/RotaryEvent$Knob" := Exa.wr W381 fx363
        have fx384 : Sta Z h381 "com/example/drongo/drongo/event/Display" "CLUSTER" "Lcom/example/drongo/drongo/event/Display;" (.ref b1) := Sta.wr W381 fx364
        have fx385 : Exa Z h381 b1 "com/example/drongo/drongo/event/Display" := Exa.wr W381 fx365
        have fx386 : Sta Z h381 "com/example/drongo/drongo/event/RotaryEvent$Knob" "VOLUME" "Lcom/example/drongo/drongo/event/RotaryEvent$Knob;" (.ref b2) := Sta.wr W381 fx366
        have fx387 : Exa Z h381 b2 "com/example/drongo/drongo/event/RotaryEvent$Knob" := Exa.wr W381 fx367
        have fx388 : Sta Z h381 "com/example/drongo/drongo/event/Display" "MAIN" "Lcom/example/drongo/drongo/event/Display;" (.ref b3) := Sta.wr W381 fx368
        have fx389 : Exa Z h381 b3 "com/example/drongo/drongo/event/Display" := Exa.wr W381 fx369
        have fx390 : Exa Z h381 a294 "[J" := Exa.wr W381 fx370
        have fx391 : Exa Z h381 a339 "com/example/drongo/drongo/event/RotaryEvent" := Exa.wr W381 fx372
        have fx392 : Fld Z h381 a339 "com/example/drongo/drongo/event/RotaryEvent" "timesMillis" "[J" (.ref b361) := Fld.other W381 fT361 (Or.inl (Ne.symm ne344))
        have fx393 : Ar Z h381 b361 .long [(.long p0), (.long t1)] := Ar.other Ab361 W381 (Ne.symm ne375)
        have fx394 : Ar Z h381 a294 .long (List.set [(.long p0), (.long t1)] 1 (.long (t1 ^^^ (-1 : Int64)))) := A381
        have N395 := Fr.snoc X381 N380 ge299
        have Z396 : h0.size ≤ h381.size := by rw [W381.size]; exact Z374
        show Goes p.tables e below (T381.setTop (mkF m 209 #[.val (.long p0), .second, .val (.long p1), .second, .val (.long p2), .second, .val (.int p3), .val (.int p4), .val (.int (2 : Int32)), .val (.long p0), .second, .val (.long t1), .second, .val (.long t2), .second, .val (.ref a294), .val (.ref b2), .val (.int v337), .val (.ref b1), .val (.ref a339), .val (.long t1), .second, .val (.long vlat), .second, .unset, .unset] [])) _
        refine g_aload X381 hx (hb hby at_209) rfl rfl ?_
        show Goes p.tables e below (T381.setTop (mkF m 211 #[.val (.long p0), .second, .val (.long p1), .second, .val (.long p2), .second, .val (.int p3), .val (.int p4), .val (.int (2 : Int32)), .val (.long p0), .second, .val (.long t1), .second, .val (.long t2), .second, .val (.ref a294), .val (.ref b2), .val (.int v337), .val (.ref b1), .val (.ref a339), .val (.long t1), .second, .val (.long vlat), .second, .unset, .unset] [(.ref a339)])) _
        refine g_callV X381 hx hZ hown (by rw [hml]; rfl) e381 (K := "com/example/drongo/drongo/event/RotaryEvent") (hw _ (List.mem_of_getElem? (i := 39) rfl)) (hw _ (List.mem_of_getElem? (i := 40) rfl)) (hw _ (List.mem_of_getElem? (i := 42) rfl)) (hw _ (List.mem_of_getElem? (i := 41) rfl)) (hw _ (List.mem_of_getElem? (i := 14) rfl)) (hw _ (List.mem_of_getElem? (i := 43) rfl)) fx391 (rmL l Z a0 hw a339 h381 b361 [(.long p0), (.long t1)] (2 : Int32) 1 t1 rfl (by decide) rfl fx392 fx393) [] rfl [] rfl (lenOf pd_4 rfl) (hb hby at_211) (by decide) 0 (by decide) (by decide) (by first | decide | exact Nat.le_refl _) (by decide) (by decide) (fun v T397 L397 X397 hQ397 => ?_)
        obtain ⟨rfl, e397, rfl⟩ := hQ397
        have N398 := Fr.app N395 (Fr.nil h0.size)
        show Goes p.tables e below (T397.setTop (mkF m 214 #[.val (.long p0), .second, .val (.long p1), .second, .val (.long p2), .second, .val (.int p3), .val (.int p4), .val (.int (2 : Int32)), .val (.long p0), .second, .val (.long t1), .second, .val (.long t2), .second, .val (.ref a294), .val (.ref b2), .val (.int v337), .val (.ref b1), .val (.ref a339), .val (.long t1), .second, .val (.long vlat), .second, .unset, .unset] [(.long t1)])) _
        refine g_lstore X397 hx (hb hby at_214) (l' := #[.val (.long p0), .second, .val (.long p1), .second, .val (.long p2), .second, .val (.int p3), .val (.int p4), .val (.int (2 : Int32)), .val (.long p0), .second, .val (.long t1), .second, .val (.long t2), .second, .val (.ref a294), .val (.ref b2), .val (.int v337), .val (.ref b1), .val (.ref a339), .val (.long t1), .second, .val (.long vlat), .second, .val (.long t1), .second]) rfl ?_
        show Goes p.tables e below (T397.setTop (mkF m 216 #[.val (.long p0), .second, .val (.long p1), .second, .val (.long p2), .second, .val (.int p3), .val (.int p4), .val (.int (2 : Int32)), .val (.long p0), .second, .val (.long t1), .second, .val (.long t2), .second, .val (.ref a294), .val (.ref b2), .val (.int v337), .val (.ref b1), .val (.ref a339), .val (.long t1), .second, .val (.long vlat), .second, .val (.long t1), .second] [])) _
        refine g_lload X397 hx (hb hby at_216) rfl ?_
        show Goes p.tables e below (T397.setTop (mkF m 218 #[.val (.long p0), .second, .val (.long p1), .second, .val (.long p2), .second, .val (.int p3), .val (.int p4), .val (.int (2 : Int32)), .val (.long p0), .second, .val (.long t1), .second, .val (.long t2), .second, .val (.ref a294), .val (.ref b2), .val (.int v337), .val (.ref b1), .val (.ref a339), .val (.long t1), .second, .val (.long vlat), .second, .val (.long t1), .second] [(.long t1)])) _
        refine g_lload X397 hx (hb hby at_218) rfl ?_
        show Goes p.tables e below (T397.setTop (mkF m 220 #[.val (.long p0), .second, .val (.long p1), .second, .val (.long p2), .second, .val (.int p3), .val (.int p4), .val (.int (2 : Int32)), .val (.long p0), .second, .val (.long t1), .second, .val (.long t2), .second, .val (.ref a294), .val (.ref b2), .val (.int v337), .val (.ref b1), .val (.ref a339), .val (.long t1), .second, .val (.long vlat), .second, .val (.long t1), .second] [(.long t1), (.long t1)])) _
        refine g_lcmp X397 hx (hb hby at_220) ?_
        show Goes p.tables e below (T397.setTop (mkF m 221 #[.val (.long p0), .second, .val (.long p1), .second, .val (.long p2), .second, .val (.int p3), .val (.int p4), .val (.int (2 : Int32)), .val (.long p0), .second, .val (.long t1), .second, .val (.long t2), .second, .val (.ref a294), .val (.ref b2), .val (.int v337), .val (.ref b1), .val (.ref a339), .val (.long t1), .second, .val (.long vlat), .second, .val (.long t1), .second] [(.int (XT.cmpL t1 t1))])) _
        have c221 : t1 = t1 := rfl
        refine g_lif_ne X397 hx (hb hby at_221) (by decide) (pc' := 247) (by decide) (fun q => absurd c221 q) (fun _ => ?_)
        show Goes p.tables e below (T397.setTop (mkF m 224 #[.val (.long p0), .second, .val (.long p1), .second, .val (.long p2), .second, .val (.int p3), .val (.int p4), .val (.int (2 : Int32)), .val (.long p0), .second, .val (.long t1), .second, .val (.long t2), .second, .val (.ref a294), .val (.ref b2), .val (.int v337), .val (.ref b1), .val (.ref a339), .val (.long t1), .second, .val (.long vlat), .second, .val (.long t1), .second] [])) _
        refine g_lload X397 hx (hb hby at_224) rfl ?_
        show Goes p.tables e below (T397.setTop (mkF m 226 #[.val (.long p0), .second, .val (.long p1), .second, .val (.long p2), .second, .val (.int p3), .val (.int p4), .val (.int (2 : Int32)), .val (.long p0), .second, .val (.long t1), .second, .val (.long t2), .second, .val (.ref a294), .val (.ref b2), .val (.int v337), .val (.ref b1), .val (.ref a339), .val (.long t1), .second, .val (.long vlat), .second, .val (.long t1), .second] [(.long t1)])) _
        refine g_lload X397 hx (hb hby at_226) rfl ?_
        show Goes p.tables e below (T397.setTop (mkF m 228 #[.val (.long p0), .second, .val (.long p1), .second, .val (.long p2), .second, .val (.int p3), .val (.int p4), .val (.int (2 : Int32)), .val (.long p0), .second, .val (.long t1), .second, .val (.long t2), .second, .val (.ref a294), .val (.ref b2), .val (.int v337), .val (.ref b1), .val (.ref a339), .val (.long t1), .second, .val (.long vlat), .second, .val (.long t1), .second] [(.long vlat), (.long t1)])) _
        refine g_lcmp X397 hx (hb hby at_228) ?_
        show Goes p.tables e below (T397.setTop (mkF m 229 #[.val (.long p0), .second, .val (.long p1), .second, .val (.long p2), .second, .val (.int p3), .val (.int p4), .val (.int (2 : Int32)), .val (.long p0), .second, .val (.long t1), .second, .val (.long t2), .second, .val (.ref a294), .val (.ref b2), .val (.int v337), .val (.ref b1), .val (.ref a339), .val (.long t1), .second, .val (.long vlat), .second, .val (.long t1), .second] [(.int (XT.cmpL t1 vlat))])) _
        have c229 : t1 = vlat := (by rw [hvlat, ht1]; exact (own_max2 p0 p1).symm)
        refine g_lif_ne X397 hx (hb hby at_229) (by decide) (pc' := 247) (by decide) (fun q => absurd c229 q) (fun _ => ?_)
        show Goes p.tables e below (T397.setTop (mkF m 232 #[.val (.long p0), .second, .val (.long p1), .second, .val (.long p2), .second, .val (.int p3), .val (.int p4), .val (.int (2 : Int32)), .val (.long p0), .second, .val (.long t1), .second, .val (.long t2), .second, .val (.ref a294), .val (.ref b2), .val (.int v337), .val (.ref b1), .val (.ref a339), .val (.long t1), .second, .val (.long vlat), .second, .val (.long t1), .second] [])) _
        refine g_aload X397 hx (hb hby at_232) rfl rfl ?_
        show Goes p.tables e below (T397.setTop (mkF m 234 #[.val (.long p0), .second, .val (.long p1), .second, .val (.long p2), .second, .val (.int p3), .val (.int p4), .val (.int (2 : Int32)), .val (.long p0), .second, .val (.long t1), .second, .val (.long t2), .second, .val (.ref a294), .val (.ref b2), .val (.int v337), .val (.ref b1), .val (.ref a339), .val (.long t1), .second, .val (.long vlat), .second, .val (.long t1), .second] [(.ref a339)])) _
        refine g_callV X397 hx hZ hown (by rw [hml]; rfl) e397 (K := "com/example/drongo/drongo/event/RotaryEvent") (hw _ (List.mem_of_getElem? (i := 39) rfl)) (hw _ (List.mem_of_getElem? (i := 40) rfl)) (hw _ (List.mem_of_getElem? (i := 42) rfl)) (hw _ (List.mem_of_getElem? (i := 41) rfl)) (hw _ (List.mem_of_getElem? (i := 14) rfl)) (hw _ (List.mem_of_getElem? (i := 43) rfl)) fx391 (rmL l Z a0 hw a339 h381 b361 [(.long p0), (.long t1)] (2 : Int32) 1 t1 rfl (by decide) rfl fx392 fx393) [] rfl [] rfl (lenOf pd_4 rfl) (hb hby at_234) (by decide) 0 (by decide) (by decide) (by first | decide | exact Nat.le_refl _) (by decide) (by decide) (fun v T399 L399 X399 hQ399 => ?_)
        obtain ⟨rfl, e399, rfl⟩ := hQ399
        have N400 := Fr.app N398 (Fr.nil h0.size)
        show Goes p.tables e below (T399.setTop (mkF m 237 #[.val (.long p0), .second, .val (.long p1), .second, .val (.long p2), .second, .val (.int p3), .val (.int p4), .val (.int (2 : Int32)), .val (.long p0), .second, .val (.long t1), .second, .val (.long t2), .second, .val (.ref a294), .val (.ref b2), .val (.int v337), .val (.ref b1), .val (.ref a339), .val (.long t1), .second, .val (.long vlat), .second, .val (.long t1), .second] [(.long t1)])) _
        refine g_lload X399 hx (hb hby at_237) rfl ?_
        show Goes p.tables e below (T399.setTop (mkF m 239 #[.val (.long p0), .second, .val (.long p1), .second, .val (.long p2), .second, .val (.int p3), .val (.int p4), .val (.int (2 : Int32)), .val (.long p0), .second, .val (.long t1), .second, .val (.long t2), .second, .val (.ref a294), .val (.ref b2), .val (.int v337), .val (.ref b1), .val (.ref a339), .val (.long t1), .second, .val (.long vlat), .second, .val (.long t1), .second] [(.long t1), (.long t1)])) _
        refine g_lcmp X399 hx (hb hby at_239) ?_
        show Goes p.tables e below (T399.setTop (mkF m 240 #[.val (.long p0), .second, .val (.long p1), .second, .val (.long p2), .second, .val (.int p3), .val (.int p4), .val (.int (2 : Int32)), .val (.long p0), .second, .val (.long t1), .second, .val (.long t2), .second, .val (.ref a294), .val (.ref b2), .val (.int v337), .val (.ref b1), .val (.ref a339), .val (.long t1), .second, .val (.long vlat), .second, .val (.long t1), .second] [(.int (XT.cmpL t1 t1))])) _
        have c240 : t1 = t1 := rfl
        refine g_lif_ne X399 hx (hb hby at_240) (by decide) (pc' := 247) (by decide) (fun q => absurd c240 q) (fun _ => ?_)
        show Goes p.tables e below (T399.setTop (mkF m 243 #[.val (.long p0), .second, .val (.long p1), .second, .val (.long p2), .second, .val (.int p3), .val (.int p4), .val (.int (2 : Int32)), .val (.long p0), .second, .val (.long t1), .second, .val (.long t2), .second, .val (.ref a294), .val (.ref b2), .val (.int v337), .val (.ref b1), .val (.ref a339), .val (.long t1), .second, .val (.long vlat), .second, .val (.long t1), .second] [])) _
        refine g_iconst X399 hx (1 : Int32) (hb hby at_243) rfl ?_
        show Goes p.tables e below (T399.setTop (mkF m 244 #[.val (.long p0), .second, .val (.long p1), .second, .val (.long p2), .second, .val (.int p3), .val (.int p4), .val (.int (2 : Int32)), .val (.long p0), .second, .val (.long t1), .second, .val (.long t2), .second, .val (.ref a294), .val (.ref b2), .val (.int v337), .val (.ref b1), .val (.ref a339), .val (.long t1), .second, .val (.long vlat), .second, .val (.long t1), .second] [(.int (1 : Int32))])) _
        refine g_goto X399 hx (hb hby at_244) (by decide) (pc' := 248) (by decide) ?_
        show Goes p.tables e below (T399.setTop (mkF m 248 #[.val (.long p0), .second, .val (.long p1), .second, .val (.long p2), .second, .val (.int p3), .val (.int p4), .val (.int (2 : Int32)), .val (.long p0), .second, .val (.long t1), .second, .val (.long t2), .second, .val (.ref a294), .val (.ref b2), .val (.int v337), .val (.ref b1), .val (.ref a339), .val (.long t1), .second, .val (.long vlat), .second, .val (.long t1), .second] [(.int (1 : Int32))])) _
        exact g_retZ X399 hx (hz := (by decide)) hret hlk (hb hby at_248) (by decide) (by decide) ⟨rfl, N400⟩
      · skip
        show Goes p.tables e below (T336.setTop (mkF m 106 #[.val (.long p0), .second, .val (.long p1), .second, .val (.long p2), .second, .val (.int p3), .val (.int p4), .val (.int (2 : Int32)), .val (.long p0), .second, .val (.long t1), .second, .val (.long t2), .second, .val (.ref a294), .val (.ref b2), .val (.int v337), .unset, .unset, .unset, .unset, .unset, .unset, .unset, .unset] [])) _
        refine g_getS X336 hx hZ hown e336 (host := "") (Or.inl (hw _ (List.mem_of_getElem? (i := 46) rfl))) fx330 (hb hby at_106) (fun T401 X401 e401 => ?_)
        show Goes p.tables e below (T401.setTop (mkF m 109 #[.val (.long p0), .second, .val (.long p1), .second, .val (.long p2), .second, .val (.int p3), .val (.int p4), .val (.int (2 : Int32)), .val (.long p0), .second, .val (.long t1), .second, .val (.long t2), .second, .val (.ref a294), .val (.ref b2), .val (.int v337), .unset, .unset, .unset, .unset, .unset, .unset, .unset, .unset] [(.ref b3)])) _
        refine g_goto X401 hx (hb hby at_109) (by decide) (pc' := 115) (by decide) ?_
        show Goes p.tables e below (T401.setTop (mkF m 115 #[.val (.long p0), .second, .val (.long p1), .second, .val (.long p2), .second, .val (.int p3), .val (.int p4), .val (.int (2 : Int32)), .val (.long p0), .second, .val (.long t1), .second, .val (.long t2), .second, .val (.ref a294), .val (.ref b2), .val (.int v337), .unset, .unset, .unset, .unset, .unset, .unset, .unset, .unset] [(.ref b3)])) _
        refine g_astore X401 hx (hb hby at_115) rfl (l' := #[.val (.long p0), .second, .val (.long p1), .second, .val (.long p2), .second, .val (.int p3), .val (.int p4), .val (.int (2 : Int32)), .val (.long p0), .second, .val (.long t1), .second, .val (.long t2), .second, .val (.ref a294), .val (.ref b2), .val (.int v337), .val (.ref b3), .unset, .unset, .unset, .unset, .unset, .unset, .unset]) rfl ?_
        show Goes p.tables e below (T401.setTop (mkF m 117 #[.val (.long p0), .second, .val (.long p1), .second, .val (.long p2), .second, .val (.int p3), .val (.int p4), .val (.int (2 : Int32)), .val (.long p0), .second, .val (.long t1), .second, .val (.long t2), .second, .val (.ref a294), .val (.ref b2), .val (.int v337), .val (.ref b3), .unset, .unset, .unset, .unset, .unset, .unset, .unset] [])) _
        refine g_new X401 hx hZ hown e401 (hw _ (List.mem_of_getElem? (i := 12) rfl)) (hw _ (List.mem_of_getElem? (i := 13) rfl)) (hw _ (List.mem_of_getElem? (i := 14) rfl)) (hb hby at_117) (by decide) (by decide) (fun T402 h402 a402 ga402 X402 e402 Ex402 Ea402 Df402 => ?_)
        have ne403 : b0 ≠ a402 := Nat.ne_of_lt (by rw [ga402]; exact fx325.lt)
        have ne404 : b1 ≠ a402 := Nat.ne_of_lt (by rw [ga402]; exact fx327.lt)
        have ne405 : b2 ≠ a402 := Nat.ne_of_lt (by rw [ga402]; exact fx329.lt)
        have ne406 : b3 ≠ a402 := Nat.ne_of_lt (by rw [ga402]; exact fx331.lt)
        have ne407 : a294 ≠ a402 := Nat.ne_of_lt (by rw [ga402]; exact fx332.lt)
        have ge408 : h0.size ≤ a402 := by rw [ga402]; exact Z335
        have fx409 : Sta Z h402 "com/example/drongo/drongo/event/RotaryEvent$Knob" "NAVIGATION" "Lcom/example/drongo/drongo/event/RotaryEvent$Knob;" (.ref b0) := Sta.ext Ex402 fx324
        have fx410 : Exa Z h402 b0 "com/example/drongo/drongo/event/RotaryEvent$Knob" := Exa.ext Ex402 fx325
        have fx411 : Sta Z h402 "com/example/drongo/drongo/event/Display" "CLUSTER" "Lcom/example/drongo/drongo/event/Display;" (.ref b1) := Sta.ext Ex402 fx326
        have fx412 : Exa Z h402 b1 "com/example/drongo/drongo/event/Display" := Exa.ext Ex402 fx327
        have fx413 : Sta Z h402 "com/example/drongo/drongo/event/RotaryEvent$Knob" "VOLUME" "Lcom/example/drongo/drongo/event/RotaryEvent$Knob;" (.ref b2) := Sta.ext Ex402 fx328
        have fx414 : Exa Z h402 b2 "com/example/drongo/drongo/event/RotaryEvent$Knob" := Exa.ext Ex402 fx329
        have fx415 : Sta Z h402 "com/example/drongo/drongo/event/Display" "MAIN" "Lcom/example/drongo/drongo/event/Display;" (.ref b3) := Sta.ext Ex402 fx330
        have fx416 : Exa Z h402 b3 "com/example/drongo/drongo/event/Display" := Exa.ext Ex402 fx331
        have fx417 : Exa Z h402 a294 "[J" := Exa.ext Ex402 fx332
        have fx418 : Ar Z h402 a294 .long [(.long p0), (.long t1)] := Ar.ext fx333 Ex402
        have Z419 : h0.size ≤ h402.size := Nat.le_trans Z335 Ex402.1
        have fx420 : Fld Z h402 a402 "com/example/drongo/drongo/event/RotaryEvent" "knob" "Lcom/example/drongo/drongo/event/RotaryEvent$Knob;" .null := Df402 (Or.inr (hw _ (List.mem_of_getElem? (i := 22) rfl))) (ty := (.object "com/example/drongo/drongo/event/RotaryEvent$Knob")) (by decide)
        have fx421 : Fld Z h402 a402 "com/example/drongo/drongo/event/RotaryEvent" "clockwise" "Z" (.int (0 : Int32)) := Df402 (Or.inr (hw _ (List.mem_of_getElem? (i := 24) rfl))) (ty := .boolean) (by decide)
        have fx422 : Fld Z h402 a402 "com/example/drongo/drongo/event/RotaryEvent" "display" "Lcom/example/drongo/drongo/event/Display;" .null := Df402 (Or.inr (hw _ (List.mem_of_getElem? (i := 26) rfl))) (ty := (.object "com/example/drongo/drongo/event/Display")) (by decide)
        have fx423 : Fld Z h402 a402 "com/example/drongo/drongo/event/RotaryEvent" "timesMillis" "[J" .null := Df402 (Or.inr (hw _ (List.mem_of_getElem? (i := 37) rfl))) (ty := (.array .long)) (by decide)
        show Goes p.tables e below (T402.setTop (mkF m 120 #[.val (.long p0), .second, .val (.long p1), .second, .val (.long p2), .second, .val (.int p3), .val (.int p4), .val (.int (2 : Int32)), .val (.long p0), .second, .val (.long t1), .second, .val (.long t2), .second, .val (.ref a294), .val (.ref b2), .val (.int v337), .val (.ref b3), .unset, .unset, .unset, .unset, .unset, .unset, .unset] [(.ref a402)])) _
        refine g_dup X402 hx (hb hby at_120) rfl ?_
        show Goes p.tables e below (T402.setTop (mkF m 121 #[.val (.long p0), .second, .val (.long p1), .second, .val (.long p2), .second, .val (.int p3), .val (.int p4), .val (.int (2 : Int32)), .val (.long p0), .second, .val (.long t1), .second, .val (.long t2), .second, .val (.ref a294), .val (.ref b2), .val (.int v337), .val (.ref b3), .unset, .unset, .unset, .unset, .unset, .unset, .unset] [(.ref a402), (.ref a402)])) _
        refine g_aload X402 hx (hb hby at_121) rfl rfl ?_
        show Goes p.tables e below (T402.setTop (mkF m 123 #[.val (.long p0), .second, .val (.long p1), .second, .val (.long p2), .second, .val (.int p3), .val (.int p4), .val (.int (2 : Int32)), .val (.long p0), .second, .val (.long t1), .second, .val (.long t2), .second, .val (.ref a294), .val (.ref b2), .val (.int v337), .val (.ref b3), .unset, .unset, .unset, .unset, .unset, .unset, .unset] [(.ref b2), (.ref a402), (.ref a402)])) _
        refine g_iload X402 hx (hb hby at_123) rfl ?_
        show Goes p.tables e below (T402.setTop (mkF m 125 #[.val (.long p0), .second, .val (.long p1), .second, .val (.long p2), .second, .val (.int p3), .val (.int p4), .val (.int (2 : Int32)), .val (.long p0), .second, .val (.long t1), .second, .val (.long t2), .second, .val (.ref a294), .val (.ref b2), .val (.int v337), .val (.ref b3), .unset, .unset, .unset, .unset, .unset, .unset, .unset] [(.int v337), (.ref b2), (.ref a402), (.ref a402)])) _
        refine g_aload X402 hx (hb hby at_125) rfl rfl ?_
        show Goes p.tables e below (T402.setTop (mkF m 127 #[.val (.long p0), .second, .val (.long p1), .second, .val (.long p2), .second, .val (.int p3), .val (.int p4), .val (.int (2 : Int32)), .val (.long p0), .second, .val (.long t1), .second, .val (.long t2), .second, .val (.ref a294), .val (.ref b2), .val (.int v337), .val (.ref b3), .unset, .unset, .unset, .unset, .unset, .unset, .unset] [(.ref b3), (.int v337), (.ref b2), (.ref a402), (.ref a402)])) _
        refine g_aload X402 hx (hb hby at_127) rfl rfl ?_
        show Goes p.tables e below (T402.setTop (mkF m 129 #[.val (.long p0), .second, .val (.long p1), .second, .val (.long p2), .second, .val (.int p3), .val (.int p4), .val (.int (2 : Int32)), .val (.long p0), .second, .val (.long t1), .second, .val (.long t2), .second, .val (.ref a294), .val (.ref b2), .val (.int v337), .val (.ref b3), .unset, .unset, .unset, .unset, .unset, .unset, .unset] [(.ref a294), (.ref b3), (.int v337), (.ref b2), (.ref a402), (.ref a402)])) _
        have lta := fx418.lt
        have ltb := Ea402.lt
        refine g_callI X402 hx hZ hown (by rw [hml]; rfl) e402 rfl (hw _ (List.mem_of_getElem? (i := 15) rfl)) (hw _ (List.mem_of_getElem? (i := 16) rfl)) (hw _ (List.mem_of_getElem? (i := 14) rfl)) (hw _ (List.mem_of_getElem? (i := 17) rfl)) (rmI l Z a0 hw a402 b2 v337 b3 a294 h402 h0.size Z419 [(.long p0), (.long t1)] (by simp) fx420 fx421 fx422 fx423 Ea402 fx418 fx417 ge408 ne407) a402 [(.ref b2), (.int v337), (.ref b3), (.ref a294)] rfl [(.ref a402)] rfl (lenOf pd_2 rfl) (hb hby at_129) (by decide) 1 (by decide) (by decide) (by first | decide | exact Nat.le_refl _) (by decide) (by decide) (fun v T424 L424 X424 hQ424 => ?_)
        obtain ⟨rfl, Nc424, Kc424, b424, gb424, hb424, fT424, Ab424⟩ := hQ424
        have fx425 : Sta Z T424.heap "com/example/drongo/drongo/event/RotaryEvent$Knob" "NAVIGATION" "Lcom/example/drongo/drongo/event/RotaryEvent$Knob;" (.ref b0) := own_stakeep fx409 Kc424 (allS (own_nst Ea402) all0)
        have fx426 : Exa Z T424.heap b0 "com/example/drongo/drongo/event/RotaryEvent$Knob" := Exa.keep fx410 Kc424
        have fx427 : Sta Z T424.heap "com/example/drongo/drongo/event/Display" "CLUSTER" "Lcom/example/drongo/drongo/event/Display;" (.ref b1) := own_stakeep fx411 Kc424 (allS (own_nst Ea402) all0)
        have fx428 : Exa Z T424.heap b1 "com/example/drongo/drongo/event/Display" := Exa.keep fx412 Kc424
        have fx429 : Sta Z T424.heap "com/example/drongo/drongo/event/RotaryEvent$Knob" "VOLUME" "Lcom/example/drongo/drongo/event/RotaryEvent$Knob;" (.ref b2) := own_stakeep fx413 Kc424 (allS (own_nst Ea402) all0)
        have fx430 : Exa Z T424.heap b2 "com/example/drongo/drongo/event/RotaryEvent$Knob" := Exa.keep fx414 Kc424
        have fx431 : Sta Z T424.heap "com/example/drongo/drongo/event/Display" "MAIN" "Lcom/example/drongo/drongo/event/Display;" (.ref b3) := own_stakeep fx415 Kc424 (allS (own_nst Ea402) all0)
        have fx432 : Exa Z T424.heap b3 "com/example/drongo/drongo/event/Display" := Exa.keep fx416 Kc424
        have fx433 : Exa Z T424.heap a294 "[J" := Exa.keep fx417 Kc424
        have fx434 : Ar Z T424.heap a294 .long [(.long p0), (.long t1)] := Ar.keep fx418 Kc424 (ninS ne407 nin0)
        have fx435 : Exa Z T424.heap a402 "com/example/drongo/drongo/event/RotaryEvent" := Exa.keep Ea402 Kc424
        have N436 := Fr.app N334 Nc424
        have Z437 : h0.size ≤ T424.heap.size := Nat.le_trans Z419 Kc424.1
        have ne438 : a294 ≠ b424 := Nat.ne_of_lt (Nat.lt_of_lt_of_le lta hb424)
        have ne439 : a402 ≠ b424 := Nat.ne_of_lt (Nat.lt_of_lt_of_le ltb hb424)
        show Goes p.tables e below (T424.setTop (mkF m 132 #[.val (.long p0), .second, .val (.long p1), .second, .val (.long p2), .second, .val (.int p3), .val (.int p4), .val (.int (2 : Int32)), .val (.long p0), .second, .val (.long t1), .second, .val (.long t2), .second, .val (.ref a294), .val (.ref b2), .val (.int v337), .val (.ref b3), .unset, .unset, .unset, .unset, .unset, .unset, .unset] [(.ref a402)])) _
        refine g_astore X424 hx (hb hby at_132) rfl (l' := #[.val (.long p0), .second, .val (.long p1), .second, .val (.long p2), .second, .val (.int p3), .val (.int p4), .val (.int (2 : Int32)), .val (.long p0), .second, .val (.long t1), .second, .val (.long t2), .second, .val (.ref a294), .val (.ref b2), .val (.int v337), .val (.ref b3), .val (.ref a402), .unset, .unset, .unset, .unset, .unset, .unset]) rfl ?_
        show Goes p.tables e below (T424.setTop (mkF m 134 #[.val (.long p0), .second, .val (.long p1), .second, .val (.long p2), .second, .val (.int p3), .val (.int p4), .val (.int (2 : Int32)), .val (.long p0), .second, .val (.long t1), .second, .val (.long t2), .second, .val (.ref a294), .val (.ref b2), .val (.int v337), .val (.ref b3), .val (.ref a402), .unset, .unset, .unset, .unset, .unset, .unset] [])) _
        refine g_iload X424 hx (hb hby at_134) rfl ?_
        show Goes p.tables e below (T424.setTop (mkF m 136 #[.val (.long p0), .second, .val (.long p1), .second, .val (.long p2), .second, .val (.int p3), .val (.int p4), .val (.int (2 : Int32)), .val (.long p0), .second, .val (.long t1), .second, .val (.long t2), .second, .val (.ref a294), .val (.ref b2), .val (.int v337), .val (.ref b3), .val (.ref a402), .unset, .unset, .unset, .unset, .unset, .unset] [(.int (2 : Int32))])) _
        refine g_iconst X424 hx (1 : Int32) (hb hby at_136) rfl ?_
        show Goes p.tables e below (T424.setTop (mkF m 137 #[.val (.long p0), .second, .val (.long p1), .second, .val (.long p2), .second, .val (.int p3), .val (.int p4), .val (.int (2 : Int32)), .val (.long p0), .second, .val (.long t1), .second, .val (.long t2), .second, .val (.ref a294), .val (.ref b2), .val (.int v337), .val (.ref b3), .val (.ref a402), .unset, .unset, .unset, .unset, .unset, .unset] [(.int (1 : Int32)), (.int (2 : Int32))])) _
        refine g_icmp_ne X424 hx (hb hby at_137) (by decide) (pc' := 145) (by decide) (fun _ => ?_) (fun q => absurd q (by decide))
        show Goes p.tables e below (T424.setTop (mkF m 145 #[.val (.long p0), .second, .val (.long p1), .second, .val (.long p2), .second, .val (.int p3), .val (.int p4), .val (.int (2 : Int32)), .val (.long p0), .second, .val (.long t1), .second, .val (.long t2), .second, .val (.ref a294), .val (.ref b2), .val (.int v337), .val (.ref b3), .val (.ref a402), .unset, .unset, .unset, .unset, .unset, .unset] [])) _
        refine g_iload X424 hx (hb hby at_145) rfl ?_
        show Goes p.tables e below (T424.setTop (mkF m 147 #[.val (.long p0), .second, .val (.long p1), .second, .val (.long p2), .second, .val (.int p3), .val (.int p4), .val (.int (2 : Int32)), .val (.long p0), .second, .val (.long t1), .second, .val (.long t2), .second, .val (.ref a294), .val (.ref b2), .val (.int v337), .val (.ref b3), .val (.ref a402), .unset, .unset, .unset, .unset, .unset, .unset] [(.int (2 : Int32))])) _
        refine g_iconst X424 hx (2 : Int32) (hb hby at_147) rfl ?_
        show Goes p.tables e below (T424.setTop (mkF m 148 #[.val (.long p0), .second, .val (.long p1), .second, .val (.long p2), .second, .val (.int p3), .val (.int p4), .val (.int (2 : Int32)), .val (.long p0), .second, .val (.long t1), .second, .val (.long t2), .second, .val (.ref a294), .val (.ref b2), .val (.int v337), .val (.ref b3), .val (.ref a402), .unset, .unset, .unset, .unset, .unset, .unset] [(.int (2 : Int32)), (.int (2 : Int32))])) _
        refine g_icmp_ne X424 hx (hb hby at_148) (by decide) (pc' := 156) (by decide) (fun q => absurd (by decide) q) (fun _ => ?_)
        show Goes p.tables e below (T424.setTop (mkF m 151 #[.val (.long p0), .second, .val (.long p1), .second, .val (.long p2), .second, .val (.int p3), .val (.int p4), .val (.int (2 : Int32)), .val (.long p0), .second, .val (.long t1), .second, .val (.long t2), .second, .val (.ref a294), .val (.ref b2), .val (.int v337), .val (.ref b3), .val (.ref a402), .unset, .unset, .unset, .unset, .unset, .unset] [])) _
        refine g_lload X424 hx (hb hby at_151) rfl ?_
        show Goes p.tables e below (T424.setTop (mkF m 153 #[.val (.long p0), .second, .val (.long p1), .second, .val (.long p2), .second, .val (.int p3), .val (.int p4), .val (.int (2 : Int32)), .val (.long p0), .second, .val (.long t1), .second, .val (.long t2), .second, .val (.ref a294), .val (.ref b2), .val (.int v337), .val (.ref b3), .val (.ref a402), .unset, .unset, .unset, .unset, .unset, .unset] [(.long t1)])) _
        refine g_goto X424 hx (hb hby at_153) (by decide) (pc' := 158) (by decide) ?_
        show Goes p.tables e below (T424.setTop (mkF m 158 #[.val (.long p0), .second, .val (.long p1), .second, .val (.long p2), .second, .val (.int p3), .val (.int p4), .val (.int (2 : Int32)), .val (.long p0), .second, .val (.long t1), .second, .val (.long t2), .second, .val (.ref a294), .val (.ref b2), .val (.int v337), .val (.ref b3), .val (.ref a402), .unset, .unset, .unset, .unset, .unset, .unset] [(.long t1)])) _
        refine g_lstore X424 hx (hb hby at_158) (l' := #[.val (.long p0), .second, .val (.long p1), .second, .val (.long p2), .second, .val (.int p3), .val (.int p4), .val (.int (2 : Int32)), .val (.long p0), .second, .val (.long t1), .second, .val (.long t2), .second, .val (.ref a294), .val (.ref b2), .val (.int v337), .val (.ref b3), .val (.ref a402), .val (.long t1), .second, .unset, .unset, .unset, .unset]) rfl ?_
        show Goes p.tables e below (T424.setTop (mkF m 160 #[.val (.long p0), .second, .val (.long p1), .second, .val (.long p2), .second, .val (.int p3), .val (.int p4), .val (.int (2 : Int32)), .val (.long p0), .second, .val (.long t1), .second, .val (.long t2), .second, .val (.ref a294), .val (.ref b2), .val (.int v337), .val (.ref b3), .val (.ref a402), .val (.long t1), .second, .unset, .unset, .unset, .unset] [])) _
        refine g_lload X424 hx (hb hby at_160) rfl ?_
        show Goes p.tables e below (T424.setTop (mkF m 162 #[.val (.long p0), .second, .val (.long p1), .second, .val (.long p2), .second, .val (.int p3), .val (.int p4), .val (.int (2 : Int32)), .val (.long p0), .second, .val (.long t1), .second, .val (.long t2), .second, .val (.ref a294), .val (.ref b2), .val (.int v337), .val (.ref b3), .val (.ref a402), .val (.long t1), .second, .unset, .unset, .unset, .unset] [(.long p0)])) _
        refine g_iload X424 hx (hb hby at_162) rfl ?_
        show Goes p.tables e below (T424.setTop (mkF m 164 #[.val (.long p0), .second, .val (.long p1), .second, .val (.long p2), .second, .val (.int p3), .val (.int p4), .val (.int (2 : Int32)), .val (.long p0), .second, .val (.long t1), .second, .val (.long t2), .second, .val (.ref a294), .val (.ref b2), .val (.int v337), .val (.ref b3), .val (.ref a402), .val (.long t1), .second, .unset, .unset, .unset, .unset] [(.int (2 : Int32)), (.long p0)])) _
        refine g_iconst X424 hx (1 : Int32) (hb hby at_164) rfl ?_
        show Goes p.tables e below (T424.setTop (mkF m 165 #[.val (.long p0), .second, .val (.long p1), .second, .val (.long p2), .second, .val (.int p3), .val (.int p4), .val (.int (2 : Int32)), .val (.long p0), .second, .val (.long t1), .second, .val (.long t2), .second, .val (.ref a294), .val (.ref b2), .val (.int v337), .val (.ref b3), .val (.ref a402), .val (.long t1), .second, .unset, .unset, .unset, .unset] [(.int (1 : Int32)), (.int (2 : Int32)), (.long p0)])) _
        refine g_icmp_le X424 hx (hb hby at_165) (by decide) (pc' := 173) (by decide) (fun q => absurd (by decide) q) (fun _ => ?_)
        show Goes p.tables e below (T424.setTop (mkF m 168 #[.val (.long p0), .second, .val (.long p1), .second, .val (.long p2), .second, .val (.int p3), .val (.int p4), .val (.int (2 : Int32)), .val (.long p0), .second, .val (.long t1), .second, .val (.long t2), .second, .val (.ref a294), .val (.ref b2), .val (.int v337), .val (.ref b3), .val (.ref a402), .val (.long t1), .second, .unset, .unset, .unset, .unset] [(.long p0)])) _
        refine g_lload X424 hx (hb hby at_168) rfl ?_
        show Goes p.tables e below (T424.setTop (mkF m 170 #[.val (.long p0), .second, .val (.long p1), .second, .val (.long p2), .second, .val (.int p3), .val (.int p4), .val (.int (2 : Int32)), .val (.long p0), .second, .val (.long t1), .second, .val (.long t2), .second, .val (.ref a294), .val (.ref b2), .val (.int v337), .val (.ref b3), .val (.ref a402), .val (.long t1), .second, .unset, .unset, .unset, .unset] [(.long t1), (.long p0)])) _
        refine g_goto X424 hx (hb hby at_170) (by decide) (pc' := 175) (by decide) ?_
        show Goes p.tables e below (T424.setTop (mkF m 175 #[.val (.long p0), .second, .val (.long p1), .second, .val (.long p2), .second, .val (.int p3), .val (.int p4), .val (.int (2 : Int32)), .val (.long p0), .second, .val (.long t1), .second, .val (.long t2), .second, .val (.ref a294), .val (.ref b2), .val (.int v337), .val (.ref b3), .val (.ref a402), .val (.long t1), .second, .unset, .unset, .unset, .unset] [(.long t1), (.long p0)])) _
        refine g_iload X424 hx (hb hby at_175) rfl ?_
        show Goes p.tables e below (T424.setTop (mkF m 177 #[.val (.long p0), .second, .val (.long p1), .second, .val (.long p2), .second, .val (.int p3), .val (.int p4), .val (.int (2 : Int32)), .val (.long p0), .second, .val (.long t1), .second, .val (.long t2), .second, .val (.ref a294), .val (.ref b2), .val (.int v337), .val (.ref b3), .val (.ref a402), .val (.long t1), .second, .unset, .unset, .unset, .unset] [(.int (2 : Int32)), (.long t1), (.long p0)])) _
        refine g_iconst X424 hx (2 : Int32) (hb hby at_177) rfl ?_
        show Goes p.tables e below (T424.setTop (mkF m 178 #[.val (.long p0), .second, .val (.long p1), .second, .val (.long p2), .second, .val (.int p3), .val (.int p4), .val (.int (2 : Int32)), .val (.long p0), .second, .val (.long t1), .second, .val (.long t2), .second, .val (.ref a294), .val (.ref b2), .val (.int v337), .val (.ref b3), .val (.ref a402), .val (.long t1), .second, .unset, .unset, .unset, .unset] [(.int (2 : Int32)), (.int (2 : Int32)), (.long t1), (.long p0)])) _
        refine g_icmp_le X424 hx (hb hby at_178) (by decide) (pc' := 186) (by decide) (fun _ => ?_) (fun q => absurd q (by decide))
        show Goes p.tables e below (T424.setTop (mkF m 186 #[.val (.long p0), .second, .val (.long p1), .second, .val (.long p2), .second, .val (.int p3), .val (.int p4), .val (.int (2 : Int32)), .val (.long p0), .second, .val (.long t1), .second, .val (.long t2), .second, .val (.ref a294), .val (.ref b2), .val (.int v337), .val (.ref b3), .val (.ref a402), .val (.long t1), .second, .unset, .unset, .unset, .unset] [(.long t1), (.long p0)])) _
        refine g_lload X424 hx (hb hby at_186) rfl ?_
        show Goes p.tables e below (T424.setTop (mkF m 188 #[.val (.long p0), .second, .val (.long p1), .second, .val (.long p2), .second, .val (.int p3), .val (.int p4), .val (.int (2 : Int32)), .val (.long p0), .second, .val (.long t1), .second, .val (.long t2), .second, .val (.ref a294), .val (.ref b2), .val (.int v337), .val (.ref b3), .val (.ref a402), .val (.long t1), .second, .unset, .unset, .unset, .unset] [(.long p0), (.long t1), (.long p0)])) _
        refine g_callS X424 hx hZ hown (by rw [hml]; rfl) rfl (hw _ (List.mem_of_getElem? (i := 1) rfl)) (hw _ (List.mem_of_getElem? (i := 2) rfl)) (hw _ (List.mem_of_getElem? (i := 3) rfl)) (hw _ (List.mem_of_getElem? (i := 4) rfl)) (rmX l Z a0 hw t1 p0 T424.heap) [(.long t1), (.long p0)] rfl [(.long p0)] rfl (lenOf pd_1 rfl) (hb hby at_188) (by decide) 2 (by decide) (by decide) (by first | decide | exact Nat.le_refl _) (by decide) (by decide) (fun v T440 L440 X440 hQ440 => ?_)
        obtain ⟨rfl, e440, rfl⟩ := hQ440
        have N441 := Fr.app N436 (Fr.nil h0.size)
        show Goes p.tables e below (T440.setTop (mkF m 191 #[.val (.long p0), .second, .val (.long p1), .second, .val (.long p2), .second, .val (.int p3), .val (.int p4), .val (.int (2 : Int32)), .val (.long p0), .second, .val (.long t1), .second, .val (.long t2), .second, .val (.ref a294), .val (.ref b2), .val (.int v337), .val (.ref b3), .val (.ref a402), .val (.long t1), .second, .unset, .unset, .unset, .unset] [(.long (maxV t1 p0)), (.long p0)])) _
        refine g_callS X440 hx hZ hown (by rw [hml]; rfl) e440 (hw _ (List.mem_of_getElem? (i := 1) rfl)) (hw _ (List.mem_of_getElem? (i := 2) rfl)) (hw _ (List.mem_of_getElem? (i := 3) rfl)) (hw _ (List.mem_of_getElem? (i := 4) rfl)) (rmX l Z a0 hw p0 (maxV t1 p0) T424.heap) [(.long p0), (.long (maxV t1 p0))] rfl [] rfl (lenOf pd_1 rfl) (hb hby at_191) (by decide) 0 (by decide) (by decide) (by first | decide | exact Nat.le_refl _) (by decide) (by decide) (fun v T442 L442 X442 hQ442 => ?_)
        obtain ⟨rfl, e442, rfl⟩ := hQ442
        have N443 := Fr.app N441 (Fr.nil h0.size)
        show Goes p.tables e below (T442.setTop (mkF m 194 #[.val (.long p0), .second, .val (.long p1), .second, .val (.long p2), .second, .val (.int p3), .val (.int p4), .val (.int (2 : Int32)), .val (.long p0), .second, .val (.long t1), .second, .val (.long t2), .second, .val (.ref a294), .val (.ref b2), .val (.int v337), .val (.ref b3), .val (.ref a402), .val (.long t1), .second, .unset, .unset, .unset, .unset] [(.long (maxV p0 (maxV t1 p0)))])) _
        obtain ⟨vlat, hvlat⟩ : ∃ z : Int64, z = (maxV p0 (maxV t1 p0)) := ⟨_, rfl⟩
        refine g_nameL hvlat ?_
        show Goes p.tables e below (T442.setTop (mkF m 194 #[.val (.long p0), .second, .val (.long p1), .second, .val (.long p2), .second, .val (.int p3), .val (.int p4), .val (.int (2 : Int32)), .val (.long p0), .second, .val (.long t1), .second, .val (.long t2), .second, .val (.ref a294), .val (.ref b2), .val (.int v337), .val (.ref b3), .val (.ref a402), .val (.long t1), .second, .unset, .unset, .unset, .unset] [(.long vlat)])) _
        refine g_lstore X442 hx (hb hby at_194) (l' := #[.val (.long p0), .second, .val (.long p1), .second, .val (.long p2), .second, .val (.int p3), .val (.int p4), .val (.int (2 : Int32)), .val (.long p0), .second, .val (.long t1), .second, .val (.long t2), .second, .val (.ref a294), .val (.ref b2), .val (.int v337), .val (.ref b3), .val (.ref a402), .val (.long t1), .second, .val (.long vlat), .second, .unset, .unset]) rfl ?_
        show Goes p.tables e below (T442.setTop (mkF m 196 #[.val (.long p0), .second, .val (.long p1), .second, .val (.long p2), .second, .val (.int p3), .val (.int p4), .val (.int (2 : Int32)), .val (.long p0), .second, .val (.long t1), .second, .val (.long t2), .second, .val (.ref a294), .val (.ref b2), .val (.int v337), .val (.ref b3), .val (.ref a402), .val (.long t1), .second, .val (.long vlat), .second, .unset, .unset] [])) _
        refine g_aload X442 hx (hb hby at_196) rfl rfl ?_
        show Goes p.tables e below (T442.setTop (mkF m 198 #[.val (.long p0), .second, .val (.long p1), .second, .val (.long p2), .second, .val (.int p3), .val (.int p4), .val (.int (2 : Int32)), .val (.long p0), .second, .val (.long t1), .second, .val (.long t2), .second, .val (.ref a294), .val (.ref b2), .val (.int v337), .val (.ref b3), .val (.ref a402), .val (.long t1), .second, .val (.long vlat), .second, .unset, .unset] [(.ref a294)])) _
        refine g_iload X442 hx (hb hby at_198) rfl ?_
        show Goes p.tables e below (T442.setTop (mkF m 200 #[.val (.long p0), .second, .val (.long p1), .second, .val (.long p2), .second, .val (.int p3), .val (.int p4), .val (.int (2 : Int32)), .val (.long p0), .second, .val (.long t1), .second, .val (.long t2), .second, .val (.ref a294), .val (.ref b2), .val (.int v337), .val (.ref b3), .val (.ref a402), .val (.long t1), .second, .val (.long vlat), .second, .unset, .unset] [(.int (2 : Int32)), (.ref a294)])) _
        refine g_iconst X442 hx (1 : Int32) (hb hby at_200) rfl ?_
        show Goes p.tables e below (T442.setTop (mkF m 201 #[.val (.long p0), .second, .val (.long p1), .second, .val (.long p2), .second, .val (.int p3), .val (.int p4), .val (.int (2 : Int32)), .val (.long p0), .second, .val (.long t1), .second, .val (.long t2), .second, .val (.ref a294), .val (.ref b2), .val (.int v337), .val (.ref b3), .val (.ref a402), .val (.long t1), .second, .val (.long vlat), .second, .unset, .unset] [(.int (1 : Int32)), (.int (2 : Int32)), (.ref a294)])) _
        refine g_isub X442 hx (hb hby at_201) ?_
        show Goes p.tables e below (T442.setTop (mkF m 202 #[.val (.long p0), .second, .val (.long p1), .second, .val (.long p2), .second, .val (.int p3), .val (.int p4), .val (.int (2 : Int32)), .val (.long p0), .second, .val (.long t1), .second, .val (.long t2), .second, .val (.ref a294), .val (.ref b2), .val (.int v337), .val (.ref b3), .val (.ref a402), .val (.long t1), .second, .val (.long vlat), .second, .unset, .unset] [(.int ((2 : Int32) - (1 : Int32))), (.ref a294)])) _
        refine g_lload X442 hx (hb hby at_202) rfl ?_
        show Goes p.tables e below (T442.setTop (mkF m 204 #[.val (.long p0), .second, .val (.long p1), .second, .val (.long p2), .second, .val (.int p3), .val (.int p4), .val (.int (2 : Int32)), .val (.long p0), .second, .val (.long t1), .second, .val (.long t2), .second, .val (.ref a294), .val (.ref b2), .val (.int v337), .val (.ref b3), .val (.ref a402), .val (.long t1), .second, .val (.long vlat), .second, .unset, .unset] [(.long t1), (.int ((2 : Int32) - (1 : Int32))), (.ref a294)])) _
        refine g_ldc2 X442 hx hZ hown (hw _ (List.mem_of_getElem? (i := 38) rfl)) (hb hby at_204) ?_
        show Goes p.tables e below (T442.setTop (mkF m 207 #[.val (.long p0), .second, .val (.long p1), .second, .val (.long p2), .second, .val (.int p3), .val (.int p4), .val (.int (2 : Int32)), .val (.long p0), .second, .val (.long t1), .second, .val (.long t2), .second, .val (.ref a294), .val (.ref b2), .val (.int v337), .val (.ref b3), .val (.ref a402), .val (.long t1), .second, .val (.long vlat), .second, .unset, .unset] [(.long (-1 : Int64)), (.long t1), (.int ((2 : Int32) - (1 : Int32))), (.ref a294)])) _
        refine g_lxor X442 hx (hb hby at_207) ?_
        show Goes p.tables e below (T442.setTop (mkF m 208 #[.val (.long p0), .second, .val (.long p1), .second, .val (.long p2), .second, .val (.int p3), .val (.int p4), .val (.int (2 : Int32)), .val (.long p0), .second, .val (.long t1), .second, .val (.long t2), .second, .val (.ref a294), .val (.ref b2), .val (.int v337), .val (.ref b3), .val (.ref a402), .val (.long t1), .second, .val (.long vlat), .second, .unset, .unset] [(.long (t1 ^^^ (-1 : Int64))), (.int ((2 : Int32) - (1 : Int32))), (.ref a294)])) _
        refine g_lastore X442 hx hZ e442 fx434 1 (by decide) (by simp) (hb hby at_208) (fun T444 h444 X444 e444 W444 A444 => ?_)
        have fx445 : Sta Z h444 "com/example/drongo/drongo/event/RotaryEvent$Knob" "NAVIGATION" "Lcom/example/drongo/drongo/event/RotaryEvent$Knob;" (.ref b0) := Sta.wr W444 fx425
        have fx446 : Exa Z h444 b0 "com/example/drongo/drongo/event/RotaryEvent$Knob" := Exa.wr W444 fx426
        have fx447 : Sta Z h444 "com/example/drongo/drongo/event/Display" "CLUSTER" "Lcom/example/drongo/drongo/event/Display;" (.ref b1) := Sta.wr W444 fx427
        have fx448 : Exa Z h444 b1 "com/example/drongo/drongo/event/Display" := Exa.wr W444 fx428
        have fx449 : Sta Z h444 "com/example/drongo/drongo/event/RotaryEvent$Knob" "VOLUME" "Lcom/example/drongo/drongo/event/RotaryEvent$Knob;" (.ref b2) := Sta.wr W444 fx429
        have fx450 : Exa Z h444 b2 "com/example/drongo/drongo/event/RotaryEvent$Knob" := Exa.wr W444 fx430
        have fx451 : Sta Z h444 "com/example/drongo/drongo/event/Display" "MAIN" "Lcom/example/drongo/drongo/event/Display;" (.ref b3) := Sta.wr W444 fx431
        have fx452 : Exa Z h444 b3 "com/example/drongo/drongo/event/Display" := Exa.wr W444 fx432
        have fx453 : Exa Z h444 a294 "[J" := Exa.wr W444 fx433
        have fx454 : Exa Z h444 a402 "com/example/drongo/drongo/event/RotaryEvent" := Exa.wr W444 fx435
        have fx455 : Fld Z h444 a402 "com/example/drongo/drongo/event/RotaryEvent" "timesMillis" "[J" (.ref b424) := Fld.other W444 fT424 (Or.inl (Ne.symm ne407))
        have fx456 : Ar Z h444 b424 .long [(.long p0), (.long t1)] := Ar.other Ab424 W444 (Ne.symm ne438)
        have fx457 : Ar Z h444 a294 .long (List.set [(.long p0), (.long t1)] 1 (.long (t1 ^^^ (-1 : Int64)))) := A444
        have N458 := Fr.snoc X444 N443 ge299
        have Z459 : h0.size ≤ h444.size := by rw [W444.size]; exact Z437
        show Goes p.tables e below (T444.setTop (mkF m 209 #[.val (.long p0), .second, .val (.long p1), .second, .val (.long p2), .second, .val (.int p3), .val (.int p4), .val (.int (2 : Int32)), .val (.long p0), .second, .val (.long t1), .second, .val (.long t2), .second, .val (.ref a294), .val (.ref b2), .val (.int v337), .val (.ref b3), .val (.ref a402), .val (.long t1), .second, .val (.long vlat), .second, .unset, .unset] [])) _
        refine g_aload X444 hx (hb hby at_209) rfl rfl ?_
        show Goes p.tables e below (T444.setTop (mkF m 211 #[.val (.long p0), .second, .val (.long p1), .second, .val (.long p2), .second, .val (.int p3), .val (.int p4), .val (.int (2 : Int32)), .val (.long p0), .second, .val (.long t1), .second, .val (.long t2), .second, .val (.ref a294), .val (.ref b2), .val (.int v337), .val (.ref b3), .val (.ref a402), .val (.long t1), .second, .val (.long vlat), .second, .unset, .unset] [(.ref a402)])) _
        refine g_callV X444 hx hZ hown (by rw [hml]; rfl) e444 (K := "com/example/drongo/drongo/event/RotaryEvent") (hw _ (List.mem_of_getElem? (i := 39) rfl)) (hw _ (List.mem_of_getElem? (i := 40) rfl)) (hw _ (List.mem_of_getElem? (i := 42) rfl)) (hw _ (List.mem_of_getElem? (i := 41) rfl)) (hw _ (List.mem_of_getElem? (i := 14) rfl)) (hw _ (List.mem_of_getElem? (i := 43) rfl)) fx454 (rmL l Z a0 hw a402 h444 b424 [(.long p0), (.long t1)] (2 : Int32) 1 t1 rfl (by decide) rfl fx455 fx456) [] rfl [] rfl (lenOf pd_4 rfl) (hb hby at_211) (by decide) 0 (by decide) (by decide) (by first | decide | exact Nat.le_refl _) (by decide) (by decide) (fun v T460 L460 X460 hQ460 => ?_)
        obtain ⟨rfl, e460, rfl⟩ := hQ460
        have N461 := Fr.app N458 (Fr.nil h0.size)
        show Goes p.tables e below (T460.setTop (mkF m 214 #[.val (.long p0), .second, .val (.long p1), .second, .val (.long p2), .second, .val (.int p3), .val (.int p4), .val (.int (2 : Int32)), .val (.long p0), .second, .val (.long t1), .second, .val (.long t2), .second, .val (.ref a294), .val (.ref b2), .val (.int v337), .val (.ref b3), .val (.ref a402), .val (.long t1), .second, .val (.long vlat), .second, .unset, .unset] [(.long t1)])) _
        refine g_lstore X460 hx (hb hby at_214) (l' := #[.val (.long p0), .second, .val (.long p1), .second, .val (.long p2), .second, .val (.int p3), .val (.int p4), .val (.int (2 : Int32)), .val (.long p0), .second, .val (.long t1), .second, .val (.long t2), .second, .val (.ref a294), .val (.ref b2), .val (.int v337), .val (.ref b3), .val (.ref a402), .val (.long t1), .second, .val (.long vlat), .second, .val (.long t1), .second]) rfl ?_
        show Goes p.tables e below (T460.setTop (mkF m 216 #[.val (.long p0), .second, .val (.long p1), .second, .val (.long p2), .second, .val (.int p3), .val (.int p4), .val (.int (2 : Int32)), .val (.long p0), .second, .val (.long t1), .second, .val (.long t2), .second, .val (.ref a294), .val (.ref b2), .val (.int v337), .val (.ref b3), .val (.ref a402), .val (.long t1), .second, .val (.long vlat), .second, .val (.long t1), .second] [])) _
        refine g_lload X460 hx (hb hby at_216) rfl ?_
        show Goes p.tables e below (T460.setTop (mkF m 218 #[.val (.long p0), .second, .val (.long p1), .second, .val (.long p2), .second, .val (.int p3), .val (.int p4), .val (.int (2 : Int32)), .val (.long p0), .second, .val (.long t1), .second, .val (.long t2), .second, .val (.ref a294), .val (.ref b2), .val (.int v337), .val (.ref b3), .val (.ref a402), .val (.long t1), .second, .val (.long vlat), .second, .val (.long t1), .second] [(.long t1)])) _
        refine g_lload X460 hx (hb hby at_218) rfl ?_
        show Goes p.tables e below (T460.setTop (mkF m 220 #[.val (.long p0), .second, .val (.long p1), .second, .val (.long p2), .second, .val (.int p3), .val (.int p4), .val (.int (2 : Int32)), .val (.long p0), .second, .val (.long t1), .second, .val (.long t2), .second, .val (.ref a294), .val (.ref b2), .val (.int v337), .val (.ref b3), .val (.ref a402), .val (.long t1), .second, .val (.long vlat), .second, .val (.long t1), .second] [(.long t1), (.long t1)])) _
        refine g_lcmp X460 hx (hb hby at_220) ?_
        show Goes p.tables e below (T460.setTop (mkF m 221 #[.val (.long p0), .second, .val (.long p1), .second, .val (.long p2), .second, .val (.int p3), .val (.int p4), .val (.int (2 : Int32)), .val (.long p0), .second, .val (.long t1), .second, .val (.long t2), .second, .val (.ref a294), .val (.ref b2), .val (.int v337), .val (.ref b3), .val (.ref a402), .val (.long t1), .second, .val (.long vlat), .second, .val (.long t1), .second] [(.int (XT.cmpL t1 t1))])) _
        have c221 : t1 = t1 := rfl
        refine g_lif_ne X460 hx (hb hby at_221) (by decide) (pc' := 247) (by decide) (fun q => absurd c221 q) (fun _ => ?_)
        show Goes p.tables e below (T460.setTop (mkF m 224 #[.val (.long p0), .second, .val (.long p1), .second, .val (.long p2), .second, .val (.int p3), .val (.int p4), .val (.int (2 : Int32)), .val (.long p0), .second, .val (.long t1), .second, .val (.long t2), .second, .val (.ref a294), .val (.ref b2), .val (.int v337), .val (.ref b3), .val (.ref a402), .val (.long t1), .second, .val (.long vlat), .second, .val (.long t1), .second] [])) _
        refine g_lload X460 hx (hb hby at_224) rfl ?_
        show Goes p.tables e below (T460.setTop (mkF m 226 #[.val (.long p0), .second, .val (.long p1), .second, .val (.long p2), .second, .val (.int p3), .val (.int p4), .val (.int (2 : Int32)), .val (.long p0), .second, .val (.long t1), .second, .val (.long t2), .second, .val (.ref a294), .val (.ref b2), .val (.int v337), .val (.ref b3), .val (.ref a402), .val (.long t1), .second, .val (.long vlat), .second, .val (.long t1), .second] [(.long t1)])) _
        refine g_lload X460 hx (hb hby at_226) rfl ?_
        show Goes p.tables e below (T460.setTop (mkF m 228 #[.val (.long p0), .second, .val (.long p1), .second, .val (.long p2), .second, .val (.int p3), .val (.int p4), .val (.int (2 : Int32)), .val (.long p0), .second, .val (.long t1), .second, .val (.long t2), .second, .val (.ref a294), .val (.ref b2), .val (.int v337), .val (.ref b3), .val (.ref a402), .val (.long t1), .second, .val (.long vlat), .second, .val (.long t1), .second] [(.long vlat), (.long t1)])) _
        refine g_lcmp X460 hx (hb hby at_228) ?_
        show Goes p.tables e below (T460.setTop (mkF m 229 #[.val (.long p0), .second, .val (.long p1), .second, .val (.long p2), .second, .val (.int p3), .val (.int p4), .val (.int (2 : Int32)), .val (.long p0), .second, .val (.long t1), .second, .val (.long t2), .second, .val (.ref a294), .val (.ref b2), .val (.int v337), .val (.ref b3), .val (.ref a402), .val (.long t1), .second, .val (.long vlat), .second, .val (.long t1), .second] [(.int (XT.cmpL t1 vlat))])) _
        have c229 : t1 = vlat := (by rw [hvlat, ht1]; exact (own_max2 p0 p1).symm)
        refine g_lif_ne X460 hx (hb hby at_229) (by decide) (pc' := 247) (by decide) (fun q => absurd c229 q) (fun _ => ?_)
        show Goes p.tables e below (T460.setTop (mkF m 232 #[.val (.long p0), .second, .val (.long p1), .second, .val (.long p2), .second, .val (.int p3), .val (.int p4), .val (.int (2 : Int32)), .val (.long p0), .second, .val (.long t1), .second, .val (.long t2), .second, .val (.ref a294), .val (.ref b2), .val (.int v337), .val (.ref b3), .val (.ref a402), .val (.long t1), .second, .val (.long vlat), .second, .val (.long t1), .second] [])) _
        refine g_aload X460 hx (hb hby at_232) rfl rfl ?_
        show Goes p.tables e below (T460.setTop (mkF m 234 #[.val (.long p0), .second, .val (.long p1), .second, .val (.long p2), .second, .val (.int p3), .val (.int p4), .val (.int (2 : Int32)), .val (.long p0), .second, .val (.long t1), .second, .val (.long t2), .second, .val (.ref a294), .val (.ref b2), .val (.int v337), .val (.ref b3), .val (.ref a402), .val (.long t1), .second, .val (.long vlat), .second, .val (.long t1), .second] [(.ref a402)])) _
        refine g_callV X460 hx hZ hown (by rw [hml]; rfl) e460 (K := "com/example/drongo/drongo/event/RotaryEvent") (hw _ (List.mem_of_getElem? (i := 39) rfl)) (hw _ (List.mem_of_getElem? (i := 40) rfl)) (hw _ (List.mem_of_getElem? (i := 42) rfl)) (hw _ (List.mem_of_getElem? (i := 41) rfl)) (hw _ (List.mem_of_getElem? (i := 14) rfl)) (hw _ (List.mem_of_getElem? (i := 43) rfl)) fx454 (rmL l Z a0 hw a402 h444 b424 [(.long p0), (.long t1)] (2 : Int32) 1 t1 rfl (by decide) rfl fx455 fx456) [] rfl [] rfl (lenOf pd_4 rfl) (hb hby at_234) (by decide) 0 (by decide) (by decide) (by first | decide | exact Nat.le_refl _) (by decide) (by decide) (fun v T462 L462 X462 hQ462 => ?_)
        obtain ⟨rfl, e462, rfl⟩ := hQ462
        have N463 := Fr.app N461 (Fr.nil h0.size)
        show Goes p.tables e below (T462.setTop (mkF m 237 #[.val (.long p0), .second, .val (.long p1), .second, .val (.long p2), .second, .val (.int p3), .val (.int p4), .val (.int (2 : Int32)), .val (.long p0), .second, .val (.long t1), .second, .val (.long t2), .second, .val (.ref a294), .val (.ref b2), .val (.int v337), .val (.ref b3), .val (.ref a402), .val (.long t1), .second, .val (.long vlat), .second, .val (.long t1), .second] [(.long t1)])) _
        refine g_lload X462 hx (hb hby at_237) rfl ?_
        show Goes p.tables e below (T462.setTop (mkF m 239 #[.val (.long p0), .second, .val (.long p1), .second, .val (.long p2), .second, .val (.int p3), .val (.int p4), .val (.int (2 : Int32)), .val (.long p0), .second, .val (.long t1), .second, .val (.long t2), .second, .val (.ref a294), .val (.ref b2), .val (.int v337), .val (.ref b3), .val (.ref a402), .val (.long t1), .second, .val (.long vlat), .second, .val (.long t1), .second] [(.long t1), (.long t1)])) _
        refine g_lcmp X462 hx (hb hby at_239) ?_
        show Goes p.tables e below (T462.setTop (mkF m 240 #[.val (.long p0), .second, .val (.long p1), .second, .val (.long p2), .second, .val (.int p3), .val (.int p4), .val (.int (2 : Int32)), .val (.long p0), .second, .val (.long t1), .second, .val (.long t2), .second, .val (.ref a294), .val (.ref b2), .val (.int v337), .val (.ref b3), .val (.ref a402), .val (.long t1), .second, .val (.long vlat), .second, .val (.long t1), .second] [(.int (XT.cmpL t1 t1))])) _
        have c240 : t1 = t1 := rfl
        refine g_lif_ne X462 hx (hb hby at_240) (by decide) (pc' := 247) (by decide) (fun q => absurd c240 q) (fun _ => ?_)
        show Goes p.tables e below (T462.setTop (mkF m 243 #[.val (.long p0), .second, .val (.long p1), .second, .val (.long p2), .second, .val (.int p3), .val (.int p4), .val (.int (2 : Int32)), .val (.long p0), .second, .val (.long t1), .second, .val (.long t2), .second, .val (.ref a294), .val (.ref b2), .val (.int v337), .val (.ref b3), .val (.ref a402), .val (.long t1), .second, .val (.long vlat), .second, .val (.long t1), .second] [])) _
        refine g_iconst X462 hx (1 : Int32) (hb hby at_243) rfl ?_
        show Goes p.tables e below (T462.setTop (mkF m 244 #[.val (.long p0), .second, .val (.long p1), .second, .val (.long p2), .second, .val (.int p3), .val (.int p4), .val (.int (2 : Int32)), .val (.long p0), .second, .val (.long t1), .second, .val (.long t2), .second, .val (.ref a294), .val (.ref b2), .val (.int v337), .val (.ref b3), .val (.ref a402), .val (.long t1), .second, .val (.long vlat), .second, .val (.long t1), .second] [(.int (1 : Int32))])) _
        refine g_goto X462 hx (hb hby at_244) (by decide) (pc' := 248) (by decide) ?_
        show Goes p.tables e below (T462.setTop (mkF m 248 #[.val (.long p0), .second, .val (.long p1), .second, .val (.long p2), .second, .val (.int p3), .val (.int p4), .val (.int (2 : Int32)), .val (.long p0), .second, .val (.long t1), .second, .val (.long t2), .second, .val (.ref a294), .val (.ref b2), .val (.int v337), .val (.ref b3), .val (.ref a402), .val (.long t1), .second, .val (.long vlat), .second, .val (.long t1), .second] [(.int (1 : Int32))])) _
        exact g_retZ X462 hx (hz := (by decide)) hret hlk (hb hby at_248) (by decide) (by decide) ⟨rfl, N463⟩
    · skip
      show Goes p.tables e below (T323.setTop (mkF m 74 #[.val (.long p0), .second, .val (.long p1), .second, .val (.long p2), .second, .val (.int p3), .val (.int p4), .val (.int (2 : Int32)), .val (.long p0), .second, .val (.long t1), .second, .val (.long t2), .second, .val (.ref a294), .unset, .unset, .unset, .unset, .unset, .unset, .unset, .unset, .unset, .unset] [])) _
      refine g_getS X323 hx hZ hown e323 (host := "") (Or.inl (hw _ (List.mem_of_getElem? (i := 6) rfl))) fx324 (hb hby at_74) (fun T464 X464 e464 => ?_)
      show Goes p.tables e below (T464.setTop (mkF m 77 #[.val (.long p0), .second, .val (.long p1), .second, .val (.long p2), .second, .val (.int p3), .val (.int p4), .val (.int (2 : Int32)), .val (.long p0), .second, .val (.long t1), .second, .val (.long t2), .second, .val (.ref a294), .unset, .unset, .unset, .unset, .unset, .unset, .unset, .unset, .unset, .unset] [(.ref b0)])) _
      refine g_goto X464 hx (hb hby at_77) (by decide) (pc' := 83) (by decide) ?_
      show Goes p.tables e below (T464.setTop (mkF m 83 #[.val (.long p0), .second, .val (.long p1), .second, .val (.long p2), .second, .val (.int p3), .val (.int p4), .val (.int (2 : Int32)), .val (.long p0), .second, .val (.long t1), .second, .val (.long t2), .second, .val (.ref a294), .unset, .unset, .unset, .unset, .unset, .unset, .unset, .unset, .unset, .unset] [(.ref b0)])) _
      refine g_astore X464 hx (hb hby at_83) rfl (l' := #[.val (.long p0), .second, .val (.long p1), .second, .val (.long p2), .second, .val (.int p3), .val (.int p4), .val (.int (2 : Int32)), .val (.long p0), .second, .val (.long t1), .second, .val (.long t2), .second, .val (.ref a294), .val (.ref b0), .unset, .unset, .unset, .unset, .unset, .unset, .unset, .unset, .unset]) rfl ?_
      show Goes p.tables e below (T464.setTop (mkF m 85 #[.val (.long p0), .second, .val (.long p1), .second, .val (.long p2), .second, .val (.int p3), .val (.int p4), .val (.int (2 : Int32)), .val (.long p0), .second, .val (.long t1), .second, .val (.long t2), .second, .val (.ref a294), .val (.ref b0), .unset, .unset, .unset, .unset, .unset, .unset, .unset, .unset, .unset] [])) _
      refine g_iload X464 hx (hb hby at_85) rfl ?_
      show Goes p.tables e below (T464.setTop (mkF m 87 #[.val (.long p0), .second, .val (.long p1), .second, .val (.long p2), .second, .val (.int p3), .val (.int p4), .val (.int (2 : Int32)), .val (.long p0), .second, .val (.long t1), .second, .val (.long t2), .second, .val (.ref a294), .val (.ref b0), .unset, .unset, .unset, .unset, .unset, .unset, .unset, .unset, .unset] [(.int p4)])) _
      refine g_iconst X464 hx (2 : Int32) (hb hby at_87) rfl ?_
      show Goes p.tables e below (T464.setTop (mkF m 88 #[.val (.long p0), .second, .val (.long p1), .second, .val (.long p2), .second, .val (.int p3), .val (.int p4), .val (.int (2 : Int32)), .val (.long p0), .second, .val (.long t1), .second, .val (.long t2), .second, .val (.ref a294), .val (.ref b0), .unset, .unset, .unset, .unset, .unset, .unset, .unset, .unset, .unset] [(.int (2 : Int32)), (.int p4)])) _
      refine g_iand X464 hx (hb hby at_88) ?_
      show Goes p.tables e below (T464.setTop (mkF m 89 #[.val (.long p0), .second, .val (.long p1), .second, .val (.long p2), .second, .val (.int p3), .val (.int p4), .val (.int (2 : Int32)), .val (.long p0), .second, .val (.long t1), .second, .val (.long t2), .second, .val (.ref a294), .val (.ref b0), .unset, .unset, .unset, .unset, .unset, .unset, .unset, .unset, .unset] [(.int (p4 &&& (2 : Int32)))])) _
      obtain ⟨v465, hv465⟩ : ∃ z : Int32, z = (if (p4 &&& (2 : Int32)) = 0 then (0 : Int32) else (1 : Int32)) := ⟨_, rfl⟩
      refine Goes.join (S' := T464.setTop (mkF m 97 #[.val (.long p0), .second, .val (.long p1), .second, .val (.long p2), .second, .val (.int p3), .val (.int p4), .val (.int (2 : Int32)), .val (.long p0), .second, .val (.long t1), .second, .val (.long t2), .second, .val (.ref a294), .val (.ref b0), .unset, .unset, .unset, .unset, .unset, .unset, .unset, .unset, .unset] [(.int v465)])) (fun J => ?_) ?_
      · skip
        refine g_if_eq X464 hx (hb hby at_89) (by decide) (pc' := 96) (by decide) (fun c89 => ?_) (fun c89 => ?_)
        · skip
          show Goes p.tables e below (T464.setTop (mkF m 96 #[.val (.long p0), .second, .val (.long p1), .second, .val (.long p2), .second, .val (.int p3), .val (.int p4), .val (.int (2 : Int32)), .val (.long p0), .second, .val (.long t1), .second, .val (.long t2), .second, .val (.ref a294), .val (.ref b0), .unset, .unset, .unset, .unset, .unset, .unset, .unset, .unset, .unset] [])) _
          refine g_iconst X464 hx (0 : Int32) (hb hby at_96) rfl ?_
          rw [show v465 = ((0 : Int32)) from by rw [hv465, if_pos c89]] at J
          exact J
        · skip
          show Goes p.tables e below (T464.setTop (mkF m 92 #[.val (.long p0), .second, .val (.long p1), .second, .val (.long p2), .second, .val (.int p3), .val (.int p4), .val (.int (2 : Int32)), .val (.long p0), .second, .val (.long t1), .second, .val (.long t2), .second, .val (.ref a294), .val (.ref b0), .unset, .unset, .unset, .unset, .unset, .unset, .unset, .unset, .unset] [])) _
          refine g_iconst X464 hx (1 : Int32) (hb hby at_92) rfl ?_
          show Goes p.tables e below (T464.setTop (mkF m 93 #[.val (.long p0), .second, .val (.long p1), .second, .val (.long p2), .second, .val (.int p3), .val (.int p4), .val (.int (2 : Int32)), .val (.long p0), .second, .val (.long t1), .second, .val (.long t2), .second, .val (.ref a294), .val (.ref b0), .unset, .unset, .unset, .unset, .unset, .unset, .unset, .unset, .unset] [(.int (1 : Int32))])) _
          refine g_goto X464 hx (hb hby at_93) (by decide) (pc' := 97) (by decide) ?_
          rw [show v465 = ((1 : Int32)) from by rw [hv465, if_neg c89]] at J
          exact J
      show Goes p.tables e below (T464.setTop (mkF m 97 #[.val (.long p0), .second, .val (.long p1), .second, .val (.long p2), .second, .val (.int p3), .val (.int p4), .val (.int (2 : Int32)), .val (.long p0), .second, .val (.long t1), .second, .val (.long t2), .second, .val (.ref a294), .val (.ref b0), .unset, .unset, .unset, .unset, .unset, .unset, .unset, .unset, .unset] [(.int v465)])) _
      refine g_istore X464 hx (hb hby at_97) (l' := #[.val (.long p0), .second, .val (.long p1), .second, .val (.long p2), .second, .val (.int p3), .val (.int p4), .val (.int (2 : Int32)), .val (.long p0), .second, .val (.long t1), .second, .val (.long t2), .second, .val (.ref a294), .val (.ref b0), .val (.int v465), .unset, .unset, .unset, .unset, .unset, .unset, .unset, .unset]) rfl ?_
      show Goes p.tables e below (T464.setTop (mkF m 99 #[.val (.long p0), .second, .val (.long p1), .second, .val (.long p2), .second, .val (.int p3), .val (.int p4), .val (.int (2 : Int32)), .val (.long p0), .second, .val (.long t1), .second, .val (.long t2), .second, .val (.ref a294), .val (.ref b0), .val (.int v465), .unset, .unset, .unset, .unset, .unset, .unset, .unset, .unset] [])) _
      refine g_iload X464 hx (hb hby at_99) rfl ?_
      show Goes p.tables e below (T464.setTop (mkF m 101 #[.val (.long p0), .second, .val (.long p1), .second, .val (.long p2), .second, .val (.int p3), .val (.int p4), .val (.int (2 : Int32)), .val (.long p0), .second, .val (.long t1), .second, .val (.long t2), .second, .val (.ref a294), .val (.ref b0), .val (.int v465), .unset, .unset, .unset, .unset, .unset, .unset, .unset, .unset] [(.int p4)])) _
      refine g_iconst X464 hx (4 : Int32) (hb hby at_101) rfl ?_
      show Goes p.tables e below (T464.setTop (mkF m 102 #[.val (.long p0), .second, .val (.long p1), .second, .val (.long p2), .second, .val (.int p3), .val (.int p4), .val (.int (2 : Int32)), .val (.long p0), .second, .val (.long t1), .second, .val (.long t2), .second, .val (.ref a294), .val (.ref b0), .val (.int v465), .unset, .unset, .unset, .unset, .unset, .unset, .unset, .unset] [(.int (4 : Int32)), (.int p4)])) _
      refine g_iand X464 hx (hb hby at_102) ?_
      show Goes p.tables e below (T464.setTop (mkF m 103 #[.val (.long p0), .second, .val (.long p1), .second, .val (.long p2), .second, .val (.int p3), .val (.int p4), .val (.int (2 : Int32)), .val (.long p0), .second, .val (.long t1), .second, .val (.long t2), .second, .val (.ref a294), .val (.ref b0), .val (.int v465), .unset, .unset, .unset, .unset, .unset, .unset, .unset, .unset] [(.int (p4 &&& (4 : Int32)))])) _
      refine g_if_eq X464 hx (hb hby at_103) (by decide) (pc' := 112) (by decide) (fun c103 => ?_) (fun c103 => ?_)
      · skip
        show Goes p.tables e below (T464.setTop (mkF m 112 #[.val (.long p0), .second, .val (.long p1), .second, .val (.long p2), .second, .val (.int p3), .val (.int p4), .val (.int (2 : Int32)), .val (.long p0), .second, .val (.long t1), .second, .val (.long t2), .second, .val (.ref a294), .val (.ref b0), .val (.int v465), .unset, .unset, .unset, .unset, .unset, .unset, .unset, .unset] [])) _
        refine g_getS X464 hx hZ hown e464 (host := "") (Or.inl (hw _ (List.mem_of_getElem? (i := 9) rfl))) fx326 (hb hby at_112) (fun T466 X466 e466 => ?_)
        show Goes p.tables e below (T466.setTop (mkF m 115 #[.val (.long p0), .second, .val (.long p1), .second, .val (.long p2), .second, .val (.int p3), .val (.int p4), .val (.int (2 : Int32)), .val (.long p0), .second, .val (.long t1), .second, .val (.long t2), .second, .val (.ref a294), .val (.ref b0), .val (.int v465), .unset, .unset, .unset, .unset, .unset, .unset, .unset, .unset] [(.ref b1)])) _
        refine g_astore X466 hx (hb hby at_115) rfl (l' := #[.val (.long p0), .second, .val (.long p1), .second, .val (.long p2), .second, .val (.int p3), .val (.int p4), .val (.int (2 : Int32)), .val (.long p0), .second, .val (.long t1), .second, .val (.long t2), .second, .val (.ref a294), .val (.ref b0), .val (.int v465), .val (.ref b1), .unset, .unset, .unset, .unset, .unset, .unset, .unset]) rfl ?_
        show Goes p.tables e below (T466.setTop (mkF m 117 #[.val (.long p0), .second, .val (.long p1), .second, .val (.long p2), .second, .val (.int p3), .val (.int p4), .val (.int (2 : Int32)), .val (.long p0), .second, .val (.long t1), .second, .val (.long t2), .second, .val (.ref a294), .val (.ref b0), .val (.int v465), .val (.ref b1), .unset, .unset, .unset, .unset, .unset, .unset, .unset] [])) _
        refine g_new X466 hx hZ hown e466 (hw _ (List.mem_of_getElem? (i := 12) rfl)) (hw _ (List.mem_of_getElem? (i := 13) rfl)) (hw _ (List.mem_of_getElem? (i := 14) rfl)) (hb hby at_117) (by decide) (by decide) (fun T467 h467 a467 ga467 X467 e467 Ex467 Ea467 Df467 => ?_)
        have ne468 : b0 ≠ a467 := Nat.ne_of_lt (by rw [ga467]; exact fx325.lt)
        have ne469 : b1 ≠ a467 := Nat.ne_of_lt (by rw [ga467]; exact fx327.lt)
        have ne470 : b2 ≠ a467 := Nat.ne_of_lt (by rw [ga467]; exact fx329.lt)
        have ne471 : b3 ≠ a467 := Nat.ne_of_lt (by rw [ga467]; exact fx331.lt)
        have ne472 : a294 ≠ a467 := Nat.ne_of_lt (by rw [ga467]; exact fx332.lt)
        have ge473 : h0.size ≤ a467 := by rw [ga467]; exact Z335
        have fx474 : Sta Z h467 "com/example/drongo/drongo/event/RotaryEvent$Knob" "NAVIGATION" "Lcom/example/drongo/drongo/event/RotaryEvent$Knob;" (.ref b0) := Sta.ext Ex467 fx324
        have fx475 : Exa Z h467 b0 "com/example/drongo/drongo/event/RotaryEvent$Knob" := Exa.ext Ex467 fx325
        have fx476 : Sta Z h467 "com/example/drongo/drongo/event/Display" "CLUSTER" "Lcom/example/drongo/drongo/event/Display;" (.ref b1) := Sta.ext Ex467 fx326
        have fx477 : Exa Z h467 b1 "com/example/drongo/drongo/event/Display" := Exa.ext Ex467 fx327
        have fx478 : Sta Z h467 "com/example/drongo/drongo/event/RotaryEvent$Knob" "VOLUME" "Lcom/example/drongo/drongo/event/RotaryEvent$Knob;" (.ref b2) := Sta.ext Ex467 fx328
        have fx479 : Exa Z h467 b2 "com/example/drongo/drongo/event/RotaryEvent$Knob" := Exa.ext Ex467 fx329
        have fx480 : Sta Z h467 "com/example/drongo/drongo/event/Display" "MAIN" "Lcom/example/drongo/drongo/event/Display;" (.ref b3) := Sta.ext Ex467 fx330
        have fx481 : Exa Z h467 b3 "com/example/drongo/drongo/event/Display" := Exa.ext Ex467 fx331
        have fx482 : Exa Z h467 a294 "[J" := Exa.ext Ex467 fx332
        have fx483 : Ar Z h467 a294 .long [(.long p0), (.long t1)] := Ar.ext fx333 Ex467
        have Z484 : h0.size ≤ h467.size := Nat.le_trans Z335 Ex467.1
        have fx485 : Fld Z h467 a467 "com/example/drongo/drongo/event/RotaryEvent" "knob" "Lcom/example/drongo/drongo/event/RotaryEvent$Knob;" .null := Df467 (Or.inr (hw _ (List.mem_of_getElem? (i := 22) rfl))) (ty := (.object "com/example/drongo/drongo/event/RotaryEvent$Knob")) (by decide)
        have fx486 : Fld Z h467 a467 "com/example/drongo/drongo/event/RotaryEvent" "clockwise" "Z" (.int (0 : Int32)) := Df467 (Or.inr (hw _ (List.mem_of_getElem? (i := 24) rfl))) (ty := .boolean) (by decide)
        have fx487 : Fld Z h467 a467 "com/example/drongo/drongo/event/RotaryEvent" "display" "Lcom/example/drongo/drongo/event/Display;" .null := Df467 (Or.inr (hw _ (List.mem_of_getElem? (i := 26) rfl))) (ty := (.object "com/example/drongo/drongo/event/Display")) (by decide)
        have fx488 : Fld Z h467 a467 "com/example/drongo/drongo/event/RotaryEvent" "timesMillis" "[J" .null := Df467 (Or.inr (hw _ (List.mem_of_getElem? (i := 37) rfl))) (ty := (.array .long)) (by decide)
        show Goes p.tables e below (T467.setTop (mkF m 120 #[.val (.long p0), .second, .val (.long p1), .second, .val (.long p2), .second, .val (.int p3), .val (.int p4), .val (.int (2 : Int32)), .val (.long p0), .second, .val (.long t1), .second, .val (.long t2), .second, .val (.ref a294), .val (.ref b0), .val (.int v465), .val (.ref b1), .unset, .unset, .unset, .unset, .unset, .unset, .unset] [(.ref a467)])) _
        refine g_dup X467 hx (hb hby at_120) rfl ?_
        show Goes p.tables e below (T467.setTop (mkF m 121 #[.val (.long p0), .second, .val (.long p1), .second, .val (.long p2), .second, .val (.int p3), .val (.int p4), .val (.int (2 : Int32)), .val (.long p0), .second, .val (.long t1), .second, .val (.long t2), .second, .val (.ref a294), .val (.ref b0), .val (.int v465), .val (.ref b1), .unset, .unset, .unset, .unset, .unset, .unset, .unset] [(.ref a467), (.ref a467)])) _
        refine g_aload X467 hx (hb hby at_121) rfl rfl ?_
        show Goes p.tables e below (T467.setTop (mkF m 123 #[.val (.long p0), .second, .val (.long p1), .second, .val (.long p2), .second, .val (.int p3), .val (.int p4), .val (.int (2 : Int32)), .val (.long p0), .second, .val (.long t1), .second, .val (.long t2), .second, .val (.ref a294), .val (.ref b0), .val (.int v465), .val (.ref b1), .unset, .unset, .unset, .unset, .unset, .unset, .unset] [(.ref b0), (.ref a467), (.ref a467)])) _
        refine g_iload X467 hx (hb hby at_123) rfl ?_
        show Goes p.tables e below (T467.setTop (mkF m 125 #[.val (.long p0), .second, .val (.long p1), .second, .val (.long p2), .second, .val (.int p3), .val (.int p4), .val (.int (2 : Int32)), .val (.long p0), .second, .val (.long t1), .second, .val (.long t2), .second, .val (.ref a294), .val (.ref b0), .val (.int v465), .val (.ref b1), .unset, .unset, .unset, .unset, .unset, .unset, .unset] [(.int v465), (.ref b0), (.ref a467), (.ref a467)])) _
        refine g_aload X467 hx (hb hby at_125) rfl rfl ?_
        show Goes p.tables e below (T467.setTop (mkF m 127 #[.val (.long p0), .second, .val (.long p1), .second, .val (.long p2), .second, .val (.int p3), .val (.int p4), .val (.int (2 : Int32)), .val (.long p0), .second, .val (.long t1), .second, .val (.long t2), .second, .val (.ref a294), .val (.ref b0), .val (.int v465), .val (.ref b1), .unset, .unset, .unset, .unset, .unset, .unset, .unset] [(.ref b1), (.int v465), (.ref b0), (.ref a467), (.ref a467)])) _
        refine g_aload X467 hx (hb hby at_127) rfl rfl ?_
        show Goes p.tables e below (T467.setTop (mkF m 129 #[.val (.long p0), .second, .val (.long p1), .second, .val (.long p2), .second, .val (.int p3), .val (.int p4), .val (.int (2 : Int32)), .val (.long p0), .second, .val (.long t1), .second, .val (.long t2), .second, .val (.ref a294), .val (.ref b0), .val (.int v465), .val (.ref b1), .unset, .unset, .unset, .unset, .unset, .unset, .unset] [(.ref a294), (.ref b1), (.int v465), (.ref b0), (.ref a467), (.ref a467)])) _
        have lta := fx483.lt
        have ltb := Ea467.lt
        refine g_callI X467 hx hZ hown (by rw [hml]; rfl) e467 rfl (hw _ (List.mem_of_getElem? (i := 15) rfl)) (hw _ (List.mem_of_getElem? (i := 16) rfl)) (hw _ (List.mem_of_getElem? (i := 14) rfl)) (hw _ (List.mem_of_getElem? (i := 17) rfl)) (rmI l Z a0 hw a467 b0 v465 b1 a294 h467 h0.size Z484 [(.long p0), (.long t1)] (by simp) fx485 fx486 fx487 fx488 Ea467 fx483 fx482 ge473 ne472) a467 [(.ref b0), (.int v465), (.ref b1), (.ref a294)] rfl [(.ref a467)] rfl (lenOf pd_2 rfl) (hb hby at_129) (by decide) 1 (by decide) (by decide) (by first | decide | exact Nat.le_refl _) (by decide) (by decide) (fun v T489 L489 X489 hQ489 => ?_)
        obtain ⟨rfl, Nc489, Kc489, b489, gb489, hb489, fT489, Ab489⟩ := hQ489
        have fx490 : Sta Z T489.heap "com/example/drongo/drongo/event/RotaryEvent$Knob" "NAVIGATION" "Lcom/example/drongo/drongo/event/RotaryEvent$Knob;" (.ref b0) := own_stakeep fx474 Kc489 (allS (own_nst Ea467) all0)
        have fx491 : Exa Z T489.heap b0 "com/example/drongo/drongo/event/RotaryEvent$Knob" := Exa.keep fx475 Kc489
        have fx492 : Sta Z T489.heap "com/example/drongo/drongo/event/Display" "CLUSTER" "Lcom/example/drongo/drongo/event/Display;" (.ref b1) := own_stakeep fx476 Kc489 (allS (own_nst Ea467) all0)
        have fx493 : Exa Z T489.heap b1 "com/example/drongo/drongo/event/Display" := Exa.keep fx477 Kc489
        have fx494 : Sta Z T489.heap "com/example/drongo/drongo/event/RotaryEvent$Knob" "VOLUME" "Lcom/example/drongo/drongo/event/RotaryEvent$Knob;" (.ref b2) := own_stakeep fx478 Kc489 (allS (own_nst Ea467) all0)
        have fx495 : Exa Z T489.heap b2 "com/example/drongo/drongo/event/RotaryEvent$Knob" := Exa.keep fx479 Kc489
        have fx496 : Sta Z T489.heap "com/example/drongo/drongo/event/Display" "MAIN" "Lcom/example/drongo/drongo/event/Display;" (.ref b3) := own_stakeep fx480 Kc489 (allS (own_nst Ea467) all0)
        have fx497 : Exa Z T489.heap b3 "com/example/drongo/drongo/event/Display" := Exa.keep fx481 Kc489
        have fx498 : Exa Z T489.heap a294 "[J" := Exa.keep fx482 Kc489
        have fx499 : Ar Z T489.heap a294 .long [(.long p0), (.long t1)] := Ar.keep fx483 Kc489 (ninS ne472 nin0)
        have fx500 : Exa Z T489.heap a467 "com/example/drongo/drongo/event/RotaryEvent" := Exa.keep Ea467 Kc489
        have N501 := Fr.app N334 Nc489
        have Z502 : h0.size ≤ T489.heap.size := Nat.le_trans Z484 Kc489.1
        have ne503 : a294 ≠ b489 := Nat.ne_of_lt (Nat.lt_of_lt_of_le lta hb489)
        have ne504 : a467 ≠ b489 := Nat.ne_of_lt (Nat.lt_of_lt_of_le ltb hb489)
        show Goes p.tables e below (T489.setTop (mkF m 132 #[.val (.long p0), .second, .val (.long p1), .second, .val (.long p2), .second, .val (.int p3), .val (.int p4), .val (.int (2 : Int32)), .val (.long p0), .second, .val (.long t1), .second, .val (.long t2), .second, .val (.ref a294), .val (.ref b0), .val (.int v465), .val (.ref b1), .unset, .unset, .unset, .unset, .unset, .unset, .unset] [(.ref a467)])) _
        refine g_astore X489 hx (hb hby at_132) rfl (l' := #[.val (.long p0), .second, .val (.long p1), .second, .val (.long p2), .second, .val (.int p3), .val (.int p4), .val (.int (2 : Int32)), .val (.long p0), .second, .val (.long t1), .second, .val (.long t2), .second, .val (.ref a294), .val (.ref b0), .val (.int v465), .val (.ref b1), .val (.ref a467), .unset, .unset, .unset, .unset, .unset, .unset]) rfl ?_
        show Goes p.tables e below (T489.setTop (mkF m 134 #[.val (.long p0), .second, .val (.long p1), .second, .val (.long p2), .second, .val (.int p3), .val (.int p4), .val (.int (2 : Int32)), .val (.long p0), .second, .val (.long t1), .second, .val (.long t2), .second, .val (.ref a294), .val (.ref b0), .val (.int v465), .val (.ref b1), .val (.ref a467), .unset, .unset, .unset, .unset, .unset, .unset] [])) _
        refine g_iload X489 hx (hb hby at_134) rfl ?_
        show Goes p.tables e below (T489.setTop (mkF m 136 #[.val (.long p0), .second, .val (.long p1), .second, .val (.long p2), .second, .val (.int p3), .val (.int p4), .val (.int (2 : Int32)), .val (.long p0), .second, .val (.long t1), .second, .val (.long t2), .second, .val (.ref a294), .val (.ref b0), .val (.int v465), .val (.ref b1), .val (.ref a467), .unset, .unset, .unset, .unset, .unset, .unset] [(.int (2 : Int32))])) _
        refine g_iconst X489 hx (1 : Int32) (hb hby at_136) rfl ?_
        show Goes p.tables e below (T489.setTop (mkF m 137 #[.val (.long p0), .second, .val (.long p1), .second, .val (.long p2), .second, .val (.int p3), .val (.int p4), .val (.int (2 : Int32)), .val (.long p0), .second, .val (.long t1), .second, .val (.long t2), .second, .val (.ref a294), .val (.ref b0), .val (.int v465), .val (.ref b1), .val (.ref a467), .unset, .unset, .unset, .unset, .unset, .unset] [(.int (1 : Int32)), (.int (2 : Int32))])) _
        refine g_icmp_ne X489 hx (hb hby at_137) (by decide) (pc' := 145) (by decide) (fun _ => ?_) (fun q => absurd q (by decide))
        show Goes p.tables e below (T489.setTop (mkF m 145 #[.val (.long p0), .second, .val (.long p1), .second, .val (.long p2), .second, .val (.int p3), .val (.int p4), .val (.int (2 : Int32)), .val (.long p0), .second, .val (.long t1), .second, .val (.long t2), .second, .val (.ref a294), .val (.ref b0), .val (.int v465), .val (.ref b1), .val (.ref a467), .unset, .unset, .unset, .unset, .unset, .unset] [])) _
        refine g_iload X489 hx (hb hby at_145) rfl ?_
        show Goes p.tables e below (T489.setTop (mkF m 147 #[.val (.long p0), .second, .val (.long p1), .second, .val (.long p2), .second, .val (.int p3), .val (.int p4), .val (.int (2 : Int32)), .val (.long p0), .second, .val (.long t1), .second, .val (.long t2), .second, .val (.ref a294), .val (.ref b0), .val (.int v465), .val (.ref b1), .val (.ref a467), .unset, .unset, .unset, .unset, .unset, .unset] [(.int (2 : Int32))])) _
        refine g_iconst X489 hx (2 : Int32) (hb hby at_147) rfl ?_
        show Goes p.tables e below (T489.setTop (mkF m 148 #[.val (.long p0), .second, .val (.long p1), .second, .val (.long p2), .second, .val (.int p3), .val (.int p4), .val (.int (2 : Int32)), .val (.long p0), .second, .val (.long t1), .second, .val (.long t2), .second, .val (.ref a294), .val (.ref b0), .val (.int v465), .val (.ref b1), .val (.ref a467), .unset, .unset, .unset, .unset, .unset, .unset] [(.int (2 : Int32)), (.int (2 : Int32))])) _
        refine g_icmp_ne X489 hx (hb hby at_148) (by decide) (pc' := 156) (by decide) (fun q => absurd (by decide) q) (fun _ => ?_)
        show Goes p.tables e below (T489.setTop (mkF m 151 #[.val (.long p0), .second, .val (.long p1), .second, .val (.long p2), .second, .val (.int p3), .val (.int p4), .val (.int (2 : Int32)), .val (.long p0), .second, .val (.long t1), .second, .val (.long t2), .second, .val (.ref a294), .val (.ref b0), .val (.int v465), .val (.ref b1), .val (.ref a467), .unset, .unset, .unset, .unset, .unset, .unset] [])) _
        refine g_lload X489 hx (hb hby at_151) rfl ?_
        show Goes p.tables e below (T489.setTop (mkF m 153 #[.val (.long p0), .second, .val (.long p1), .second, .val (.long p2), .second, .val (.int p3), .val (.int p4), .val (.int (2 : Int32)), .val (.long p0), .second, .val (.long t1), .second, .val (.long t2), .second, .val (.ref a294), .val (.ref b0), .val (.int v465), .val (.ref b1), .val (.ref a467), .unset, .unset, .unset, .unset, .unset, .unset] [(.long t1)])) _
        refine g_goto X489 hx (hb hby at_153) (by decide) (pc' := 158) (by decide) ?_
        show Goes p.tables e below (T489.setTop (mkF m 158 #[.val (.long p0), .second, .val (.long p1), .second, .val (.long p2), .second, .val (.int p3), .val (.int p4), .val (.int (2 : Int32)), .val (.long p0), .second, .val (.long t1), .second, .val (.long t2), .second, .val (.ref a294), .val (.ref b0), .val (.int v465), .val (.ref b1), .val (.ref a467), .unset, .unset, .unset, .unset, .unset, .unset] [(.long t1)])) _
        refine g_lstore X489 hx (hb hby at_158) (l' := #[.val (.long p0), .second, .val (.long p1), .second, .val (.long p2), .second, .val (.int p3), .val (.int p4), .val (.int (2 : Int32)), .val (.long p0), .second, .val (.long t1), .second, .val (.long t2), .second, .val (.ref a294), .val (.ref b0), .val (.int v465), .val (.ref b1), .val (.ref a467), .val (.long t1), .second, .unset, .unset, .unset, .unset]) rfl ?_
        show Goes p.tables e below (T489.setTop (mkF m 160 #[.val (.long p0), .second, .val (.long p1), .second, .val (.long p2), .second, .val (.int p3), .val (.int p4), .val (.int (2 : Int32)), .val (.long p0), .second, .val (.long t1), .second, .val (.long t2), .second, .val (.ref a294), .val (.ref b0), .val (.int v465), .val (.ref b1), .val (.ref a467), .val (.long t1), .second, .unset, .unset, .unset, .unset] [])) _
        refine g_lload X489 hx (hb hby at_160) rfl ?_
        show Goes p.tables e below (T489.setTop (mkF m 162 #[.val (.long p0), .second, .val (.long p1), .second, .val (.long p2), .second, .val (.int p3), .val (.int p4), .val (.int (2 : Int32)), .val (.long p0), .second, .val (.long t1), .second, .val (.long t2), .second, .val (.ref a294), .val (.ref b0), .val (.int v465), .val (.ref b1), .val (.ref a467), .val (.long t1), .second, .unset, .unset, .unset, .unset] [(.long p0)])) _
        refine g_iload X489 hx (hb hby at_162) rfl ?_
        show Goes p.tables e below (T489.setTop (mkF m 164 #[.val (.long p0), .second, .val (.long p1), .second, .val (.long p2), .second, .val (.int p3), .val (.int p4), .val (.int (2 : Int32)), .val (.long p0), .second, .val (.long t1), .second, .val (.long t2), .second, .val (.ref a294), .val (.ref b0), .val (.int v465), .val (.ref b1), .val (.ref a467), .val (.long t1), .second, .unset, .unset, .unset, .unset] [(.int (2 : Int32)), (.long p0)])) _
        refine g_iconst X489 hx (1 : Int32) (hb hby at_164) rfl ?_
        show Goes p.tables e below (T489.setTop (mkF m 165 #[.val (.long p0), .second, .val (.long p1), .second, .val (.long p2), .second, .val (.int p3), .val (.int p4), .val (.int (2 : Int32)), .val (.long p0), .second, .val (.long t1), .second, .val (.long t2), .second, .val (.ref a294), .val (.ref b0), .val (.int v465), .val (.ref b1), .val (.ref a467), .val (.long t1), .second, .unset, .unset, .unset, .unset] [(.int (1 : Int32)), (.int (2 : Int32)), (.long p0)])) _
        refine g_icmp_le X489 hx (hb hby at_165) (by decide) (pc' := 173) (by decide) (fun q => absurd (by decide) q) (fun _ => ?_)
        show Goes p.tables e below (T489.setTop (mkF m 168 #[.val (.long p0), .second, .val (.long p1), .second, .val (.long p2), .second, .val (.int p3), .val (.int p4), .val (.int (2 : Int32)), .val (.long p0), .second, .val (.long t1), .second, .val (.long t2), .second, .val (.ref a294), .val (.ref b0), .val (.int v465), .val (.ref b1), .val (.ref a467), .val (.long t1), .second, .unset, .unset, .unset, .unset] [(.long p0)])) _
        refine g_lload X489 hx (hb hby at_168) rfl ?_
        show Goes p.tables e below (T489.setTop (mkF m 170 #[.val (.long p0), .second, .val (.long p1), .second, .val (.long p2), .second, .val (.int p3), .val (.int p4), .val (.int (2 : Int32)), .val (.long p0), .second, .val (.long t1), .second, .val (.long t2), .second, .val (.ref a294), .val (.ref b0), .val (.int v465), .val (.ref b1), .val (.ref a467), .val (.long t1), .second, .unset, .unset, .unset, .unset] [(.long t1), (.long p0)])) _
        refine g_goto X489 hx (hb hby at_170) (by decide) (pc' := 175) (by decide) ?_
        show Goes p.tables e below (T489.setTop (mkF m 175 #[.val (.long p0), .second, .val (.long p1), .second, .val (.long p2), .second, .val (.int p3), .val (.int p4), .val (.int (2 : Int32)), .val (.long p0), .second, .val (.long t1), .second, .val (.long t2), .second, .val (.ref a294), .val (.ref b0), .val (.int v465), .val (.ref b1), .val (.ref a467), .val (.long t1), .second, .unset, .unset, .unset, .unset] [(.long t1), (.long p0)])) _
        refine g_iload X489 hx (hb hby at_175) rfl ?_
        show Goes p.tables e below (T489.setTop (mkF m 177 #[.val (.long p0), .second, .val (.long p1), .second, .val (.long p2), .second, .val (.int p3), .val (.int p4), .val (.int (2 : Int32)), .val (.long p0), .second, .val (.long t1), .second, .val (.long t2), .second, .val (.ref a294), .val (.ref b0), .val (.int v465), .val (.ref b1), .val (.ref a467), .val (.long t1), .second, .unset, .unset, .unset, .unset] [(.int (2 : Int32)), (.long t1), (.long p0)])) _
        refine g_iconst X489 hx (2 : Int32) (hb hby at_177) rfl ?_
        show Goes p.tables e below (T489.setTop (mkF m 178 #[.val (.long p0), .second, .val (.long p1), .second, .val (.long p2), .second, .val (.int p3), .val (.int p4), .val (.int (2 : Int32)), .val (.long p0), .second, .val (.long t1), .second, .val (.long t2), .second, .val (.ref a294), .val (.ref b0), .val (.int v465), .val (.ref b1), .val (.ref a467), .val (.long t1), .second, .unset, .unset, .unset, .unset] [(.int (2 : Int32)), (.int (2 : Int32)), (.long t1), (.long p0)])) _
        refine g_icmp_le X489 hx (hb hby at_178) (by decide) (pc' := 186) (by decide) (fun _ => ?_) (fun q => absurd q (by decide))
        show Goes p.tables e below (T489.setTop (mkF m 186 #[.val (.long p0), .second, .val (.long p1), .second, .val (.long p2), .second, .val (.int p3), .val (.int p4), .val (.int (2 : Int32)), .val (.long p0), .second, .val (.long t1), .second, .val (.long t2), .second, .val (.ref a294), .val (.ref b0), .val (.int v465), .val (.ref b1), .val (.ref a467), .val (.long t1), .second, .unset, .unset, .unset, .unset] [(.long t1), (.long p0)])) _
        refine g_lload X489 hx (hb hby at_186) rfl ?_
        show Goes p.tables e below (T489.setTop (mkF m 188 #[.val (.long p0), .second, .val (.long p1), .second, .val (.long p2), .second, .val (.int p3), .val (.int p4), .val (.int (2 : Int32)), .val (.long p0), .second, .val (.long t1), .second, .val (.long t2), .second, .val (.ref a294), .val (.ref b0), .val (.int v465), .val (.ref b1), .val (.ref a467), .val (.long t1), .second, .unset, .unset, .unset, .unset] [(.long p0), (.long t1), (.long p0)])) _
        refine g_callS X489 hx hZ hown (by rw [hml]; rfl) rfl (hw _ (List.mem_of_getElem? (i := 1) rfl)) (hw _ (List.mem_of_getElem? (i := 2) rfl)) (hw _ (List.mem_of_getElem? (i := 3) rfl)) (hw _ (List.mem_of_getElem? (i := 4) rfl)) (rmX l Z a0 hw t1 p0 T489.heap) [(.long t1), (.long p0)] rfl [(.long p0)] rfl (lenOf pd_1 rfl) (hb hby at_188) (by decide) 2 (by decide) (by decide) (by first | decide | exact Nat.le_refl _) (by decide) (by decide) (fun v T505 L505 X505 hQ505 => ?_)
        obtain ⟨rfl, e505, rfl⟩ := hQ505
        have N506 := Fr.app N501 (Fr.nil h0.size)
        show Goes p.tables e below (T505.setTop (mkF m 191 #[.val (.long p0), .second, .val (.long p1), .second, .val (.long p2), .second, .val (.int p3), .val (.int p4), .val (.int (2 : Int32)), .val (.long p0), .second, .val (.long t1), .second, .val (.long t2), .second, .val (.ref a294), .val (.ref b0), .val (.int v465), .val (.ref b1), .val (.ref a467), .val (.long t1), .second, .unset, .unset, .unset, .unset] [(.long (maxV t1 p0)), (.long p0)])) _
        refine g_callS X505 hx hZ hown (by rw [hml]; rfl) e505 (hw _ (List.mem_of_getElem? (i := 1) rfl)) (hw _ (List.mem_of_getElem? (i := 2) rfl)) (hw _ (List.mem_of_getElem? (i := 3) rfl)) (hw _ (List.mem_of_getElem? (i := 4) rfl)) (rmX l Z a0 hw p0 (maxV t1 p0) T489.heap) [(.long p0), (.long (maxV t1 p0))] rfl [] rfl (lenOf pd_1 rfl) (hb hby at_191) (by decide) 0 (by decide) (by decide) (by first | decide | exact Nat.le_refl _) (by decide) (by decide) (fun v T507 L507 X507 hQ507 => ?_)
        obtain ⟨rfl, e507, rfl⟩ := hQ507
        have N508 := Fr.app N506 (Fr.nil h0.size)
        show Goes p.tables e below (T507.setTop (mkF m 194 #[.val (.long p0), .second, .val (.long p1), .second, .val (.long p2), .second, .val (.int p3), .val (.int p4), .val (.int (2 : Int32)), .val (.long p0), .second, .val (.long t1), .second, .val (.long t2), .second, .val (.ref a294), .val (.ref b0), .val (.int v465), .val (.ref b1), .val (.ref a467), .val (.long t1), .second, .unset, .unset, .unset, .unset] [(.long (maxV p0 (maxV t1 p0)))])) _
        obtain ⟨vlat, hvlat⟩ : ∃ z : Int64, z = (maxV p0 (maxV t1 p0)) := ⟨_, rfl⟩
        refine g_nameL hvlat ?_
        show Goes p.tables e below (T507.setTop (mkF m 194 #[.val (.long p0), .second, .val (.long p1), .second, .val (.long p2), .second, .val (.int p3), .val (.int p4), .val (.int (2 : Int32)), .val (.long p0), .second, .val (.long t1), .second, .val (.long t2), .second, .val (.ref a294), .val (.ref b0), .val (.int v465), .val (.ref b1), .val (.ref a467), .val (.long t1), .second, .unset, .unset, .unset, .unset] [(.long vlat)])) _
        refine g_lstore X507 hx (hb hby at_194) (l' := #[.val (.long p0), .second, .val (.long p1), .second, .val (.long p2), .second, .val (.int p3), .val (.int p4), .val (.int (2 : Int32)), .val (.long p0), .second, .val (.long t1), .second, .val (.long t2), .second, .val (.ref a294), .val (.ref b0), .val (.int v465), .val (.ref b1), .val (.ref a467), .val (.long t1), .second, .val (.long vlat), .second, .unset, .unset]) rfl ?_
        show Goes p.tables e below (T507.setTop (mkF m 196 #[.val (.long p0), .second, .val (.long p1), .second, .val (.long p2), .second, .val (.int p3), .val (.int p4), .val (.int (2 : Int32)), .val (.long p0), .second, .val (.long t1), .second, .val (.long t2), .second, .val (.ref a294), .val (.ref b0), .val (.int v465), .val (.ref b1), .val (.ref a467), .val (.long t1), .second, .val (.long vlat), .second, .unset, .unset] [])) _
        refine g_aload X507 hx (hb hby at_196) rfl rfl ?_
        show Goes p.tables e below (T507.setTop (mkF m 198 #[.val (.long p0), .second, .val (.long p1), .second, .val (.long p2), .second, .val (.int p3), .val (.int p4), .val (.int (2 : Int32)), .val (.long p0), .second, .val (.long t1), .second, .val (.long t2), .second, .val (.ref a294), .val (.ref b0), .val (.int v465), .val (.ref b1), .val (.ref a467), .val (.long t1), .second, .val (.long vlat), .second, .unset, .unset] [(.ref a294)])) _
        refine g_iload X507 hx (hb hby at_198) rfl ?_
        show Goes p.tables e below (T507.setTop (mkF m 200 #[.val (.long p0), .second, .val (.long p1), .second, .val (.long p2), .second, .val (.int p3), .val (.int p4), .val (.int (2 : Int32)), .val (.long p0), .second, .val (.long t1), .second, .val (.long t2), .second, .val (.ref a294), .val (.ref b0), .val (.int v465), .val (.ref b1), .val (.ref a467), .val (.long t1), .second, .val (.long vlat), .second, .unset, .unset] [(.int (2 : Int32)), (.ref a294)])) _
        refine g_iconst X507 hx (1 : Int32) (hb hby at_200) rfl ?_
        show Goes p.tables e below (T507.setTop (mkF m 201 #[.val (.long p0), .second, .val (.long p1), .second, .val (.long p2), .second, .val (.int p3), .val (.int p4), .val (.int (2 : Int32)), .val (.long p0), .second, .val (.long t1), .second, .val (.long t2), .second, .val (.ref a294), .val (.ref b0), .val (.int v465), .val (.ref b1), .val (.ref a467), .val (.long t1), .second, .val (.long vlat), .second, .unset, .unset] [(.int (1 : Int32)), (.int (2 : Int32)), (.ref a294)])) _
        refine g_isub X507 hx (hb hby at_201) ?_
        show Goes p.tables e below (T507.setTop (mkF m 202 #[.val (.long p0), .second, .val (.long p1), .second, .val (.long p2), .second, .val (.int p3), .val (.int p4), .val (.int (2 : Int32)), .val (.long p0), .second, .val (.long t1), .second, .val (.long t2), .second, .val (.ref a294), .val (.ref b0), .val (.int v465), .val (.ref b1), .val (.ref a467), .val (.long t1), .second, .val (.long vlat), .second, .unset, .unset] [(.int ((2 : Int32) - (1 : Int32))), (.ref a294)])) _
        refine g_lload X507 hx (hb hby at_202) rfl ?_
        show Goes p.tables e below (T507.setTop (mkF m 204 #[.val (.long p0), .second, .val (.long p1), .second, .val (.long p2), .second, .val (.int p3), .val (.int p4), .val (.int (2 : Int32)), .val (.long p0), .second, .val (.long t1), .second, .val (.long t2), .second, .val (.ref a294), .val (.ref b0), .val (.int v465), .val (.ref b1), .val (.ref a467), .val (.long t1), .second, .val (.long vlat), .second, .unset, .unset] [(.long t1), (.int ((2 : Int32) - (1 : Int32))), (.ref a294)])) _
        refine g_ldc2 X507 hx hZ hown (hw _ (List.mem_of_getElem? (i := 38) rfl)) (hb hby at_204) ?_
        show Goes p.tables e below (T507.setTop (mkF m 207 #[.val (.long p0), .second, .val (.long p1), .second, .val (.long p2), .second, .val (.int p3), .val (.int p4), .val (.int (2 : Int32)), .val (.long p0), .second, .val (.long t1), .second, .val (.long t2), .second, .val (.ref a294), .val (.ref b0), .val (.int v465), .val (.ref b1), .val (.ref a467), .val (.long t1), .second, .val (.long vlat), .second, .unset, .unset] [(.long (-1 : Int64)), (.long t1), (.int ((2 : Int32) - (1 : Int32))), (.ref a294)])) _
        refine g_lxor X507 hx (hb hby at_207) ?_
        show Goes p.tables e below (T507.setTop (mkF m 208 #[.val (.long p0), .second, .val (.long p1), .second, .val (.long p2), .second, .val (.int p3), .val (.int p4), .val (.int (2 : Int32)), .val (.long p0), .second, .val (.long t1), .second, .val (.long t2), .second, .val (.ref a294), .val (.ref b0), .val (.int v465), .val (.ref b1), .val (.ref a467), .val (.long t1), .second, .val (.long vlat), .second, .unset, .unset] [(.long (t1 ^^^ (-1 : Int64))), (.int ((2 : Int32) - (1 : Int32))), (.ref a294)])) _
        refine g_lastore X507 hx hZ e507 fx499 1 (by decide) (by simp) (hb hby at_208) (fun T509 h509 X509 e509 W509 A509 => ?_)
        have fx510 : Sta Z h509 "com/example/drongo/drongo/event/RotaryEvent$Knob" "NAVIGATION" "Lcom/example/drongo/drongo/event/RotaryEvent$Knob;" (.ref b0) := Sta.wr W509 fx490
        have fx511 : Exa Z h509 b0 "com/example/drongo/drongo/event/RotaryEvent$Knob" := Exa.wr W509 fx491
        have fx512 : Sta Z h509 "com/example/drongo/drongo/event/Display" "CLUSTER" "Lcom/example/drongo/drongo/event/Display;" (.ref b1) := Sta.wr W509 fx492
        have fx513 : Exa Z h509 b1 "com/example/drongo/drongo/event/Display" := Exa.wr W509 fx493
        have fx514 : Sta Z h509 "com/example/drongo/drongo/event/RotaryEvent$Knob" "VOLUME" "Lcom/example/drongo/drongo/event/RotaryEvent$Knob;" (.ref b2) := Sta.wr W509 fx494
        have fx515 : Exa Z h509 b2 "com/example/drongo/drongo/event/RotaryEvent$Knob" := Exa.wr W509 fx495
        have fx516 : Sta Z h509 "com/example/drongo/drongo/event/Display" "MAIN" "Lcom/example/drongo/drongo/event/Display;" (.ref b3) := Sta.wr W509 fx496
        have fx517 : Exa Z h509 b3 "com/example/drongo/drongo/event/Display" := Exa.wr W509 fx497
        have fx518 : Exa Z h509 a294 "[J" := Exa.wr W509 fx498
        have fx519 : Exa Z h509 a467 "com/example/drongo/drongo/event/RotaryEvent" := Exa.wr W509 fx500
        have fx520 : Fld Z h509 a467 "com/example/drongo/drongo/event/RotaryEvent" "timesMillis" "[J" (.ref b489) := Fld.other W509 fT489 (Or.inl (Ne.symm ne472))
        have fx521 : Ar Z h509 b489 .long [(.long p0), (.long t1)] := Ar.other Ab489 W509 (Ne.symm ne503)
        have fx522 : Ar Z h509 a294 .long (List.set [(.long p0), (.long t1)] 1 (.long (t1 ^^^ (-1 : Int64)))) := A509
        have N523 := Fr.snoc X509 N508 ge299
        have Z524 : h0.size ≤ h509.size := by rw [W509.size]; exact Z502
        show Goes p.tables e below (T509.setTop (mkF m 209 #[.val (.long p0), .second, .val (.long p1), .second, .val (.long p2), .second, .val (.int p3), .val (.int p4), .val (.int (2 : Int32)), .val (.long p0), .second, .val (.long t1), .second, .val (.long t2), .second, .val (.ref a294), .val (.ref b0), .val (.int v465), .val (.ref b1), .val (.ref a467), .val (.long t1), .second, .val (.long vlat), .second, .unset, .unset] [])) _
        refine g_aload X509 hx (hb hby at_209) rfl rfl ?_
        show Goes p.tables e below (T509.setTop (mkF m 211 #[.val (.long p0), .second, .val (.long p1), .second, .val (.long p2), .second, .val (.int p3), .val (.int p4), .val (.int (2 : Int32)), .val (.long p0), .second, .val (.long t1), .second, .val (.long t2), .second, .val (.ref a294), .val (.ref b0), .val (.int v465), .val (.ref b1), .val (.ref a467), .val (.long t1), .second, .val (.long vlat), .second, .unset, .unset] [(.ref a467)])) _
        refine g_callV X509 hx hZ hown (by rw [hml]; rfl) e509 (K := "com/example/drongo/drongo/event/RotaryEvent") (hw _ (List.mem_of_getElem? (i := 39) rfl)) (hw _ (List.mem_of_getElem? (i := 40) rfl)) (hw _ (List.mem_of_getElem? (i := 42) rfl)) (hw _ (List.mem_of_getElem? (i := 41) rfl)) (hw _ (List.mem_of_getElem? (i := 14) rfl)) (hw _ (List.mem_of_getElem? (i := 43) rfl)) fx519 (rmL l Z a0 hw a467 h509 b489 [(.long p0), (.long t1)] (2 : Int32) 1 t1 rfl (by decide) rfl fx520 fx521) [] rfl [] rfl (lenOf pd_4 rfl) (hb hby at_211) (by decide) 0 (by decide) (by decide) (by first | decide | exact Nat.le_refl _) (by decide) (by decide) (fun v T525 L525 X525 hQ525 => ?_)
        obtain ⟨rfl, e525, rfl⟩ := hQ525
        have N526 := Fr.app N523 (Fr.nil h0.size)
        show Goes p.tables e below (T525.setTop (mkF m 214 #[.val (.long p0), .second, .val (.long p1), .second, .val (.long p2), .second, .val (.int p3), .val (.int p4), .val (.int (2 : Int32)), .val (.long p0), .second, .val (.long t1), .second, .val (.long t2), .second, .val (.ref a294), .val (.ref b0), .val (.int v465), .val (.ref b1), .val (.ref a467), .val (.long t1), .second, .val (.long vlat), .second, .unset, .unset] [(.long t1)])) _
        refine g_lstore X525 hx (hb hby at_214) (l' := #[.val (.long p0), .second, .val (.long p1), .second, .val (.long p2), .second, .val (.int p3), .val (.int p4), .val (.int (2 : Int32)), .val (.long p0), .second, .val (.long t1), .second, .val (.long t2), .second, .val (.ref a294), .val (.ref b0), .val (.int v465), .val (.ref b1), .val (.ref a467), .val (.long t1), .second, .val (.long vlat), .second, .val (.long t1), .second]) rfl ?_
        show Goes p.tables e below (T525.setTop (mkF m 216 #[.val (.long p0), .second, .val (.long p1), .second, .val (.long p2), .second, .val (.int p3), .val (.int p4), .val (.int (2 : Int32)), .val (.long p0), .second, .val (.long t1), .second, .val (.long t2), .second, .val (.ref a294), .val (.ref b0), .val (.int v465), .val (.ref b1), .val (.ref a467), .val (.long t1), .second, .val (.long vlat), .second, .val (.long t1), .second] [])) _
        refine g_lload X525 hx (hb hby at_216) rfl ?_
        show Goes p.tables e below (T525.setTop (mkF m 218 #[.val (.long p0), .second, .val (.long p1), .second, .val (.long p2), .second, .val (.int p3), .val (.int p4), .val (.int (2 : Int32)), .val (.long p0), .second, .val (.long t1), .second, .val (.long t2), .second, .val (.ref a294), .val (.ref b0), .val (.int v465), .val (.ref b1), .val (.ref a467), .val (.long t1), .second, .val (.long vlat), .second, .val (.long t1), .second] [(.long t1)])) _
        refine g_lload X525 hx (hb hby at_218) rfl ?_
        show Goes p.tables e below (T525.setTop (mkF m 220 #[.val (.long p0), .second, .val (.long p1), .second, .val (.long p2), .second, .val (.int p3), .val (.int p4), .val (.int (2 : Int32)), .val (.long p0), .second, .val (.long t1), .second, .val (.long t2), .second, .val (.ref a294), .val (.ref b0), .val (.int v465), .val (.ref b1), .val (.ref a467), .val (.long t1), .second, .val (.long vlat), .second, .val (.long t1), .second] [(.long t1), (.long t1)])) _
        refine g_lcmp X525 hx (hb hby at_220) ?_
        show Goes p.tables e below (T525.setTop (mkF m 221 #[.val (.long p0), .second, .val (.long p1), .second, .val (.long p2), .second, .val (.int p3), .val (.int p4), .val (.int (2 : Int32)), .val (.long p0), .second, .val (.long t1), .second, .val (.long t2), .second, .val (.ref a294), .val (.ref b0), .val (.int v465), .val (.ref b1), .val (.ref a467), .val (.long t1), .second, .val (.long vlat), .second, .val (.long t1), .second] [(.int (XT.cmpL t1 t1))])) _
        have c221 : t1 = t1 := rfl
        refine g_lif_ne X525 hx (hb hby at_221) (by decide) (pc' := 247) (by decide) (fun q => absurd c221 q) (fun _ => ?_)
        show Goes p.tables e below (T525.setTop (mkF m 224 #[.val (.long p0), .second, .val (.long p1), .second, .val (.long p2), .second, .val (.int p3), .val (.int p4), .val (.int (2 : Int32)), .val (.long p0), .second, .val (.long t1), .second, .val (.long t2), .second, .val (.ref a294), .val (.ref b0), .val (.int v465), .val (.ref b1), .val (.ref a467), .val (.long t1), .second, .val (.long vlat), .second, .val (.long t1), .second] [])) _
        refine g_lload X525 hx (hb hby at_224) rfl ?_
        show Goes p.tables e below (T525.setTop (mkF m 226 #[.val (.long p0), .second, .val (.long p1), .second, .val (.long p2), .second, .val (.int p3), .val (.int p4), .val (.int (2 : Int32)), .val (.long p0), .second, .val (.long t1), .second, .val (.long t2), .second, .val (.ref a294), .val (.ref b0), .val (.int v465), .val (.ref b1), .val (.ref a467), .val (.long t1), .second, .val (.long vlat), .second, .val (.long t1), .second] [(.long t1)])) _
        refine g_lload X525 hx (hb hby at_226) rfl ?_
        show Goes p.tables e below (T525.setTop (mkF m 228 #[.val (.long p0), .second, .val (.long p1), .second, .val (.long p2), .second, .val (.int p3), .val (.int p4), .val (.int (2 : Int32)), .val (.long p0), .second, .val (.long t1), .second, .val (.long t2), .second, .val (.ref a294), .val (.ref b0), .val (.int v465), .val (.ref b1), .val (.ref a467), .val (.long t1), .second, .val (.long vlat), .second, .val (.long t1), .second] [(.long vlat), (.long t1)])) _
        refine g_lcmp X525 hx (hb hby at_228) ?_
        show Goes p.tables e below (T525.setTop (mkF m 229 #[.val (.long p0), .second, .val (.long p1), .second, .val (.long p2), .second, .val (.int p3), .val (.int p4), .val (.int (2 : Int32)), .val (.long p0), .second, .val (.long t1), .second, .val (.long t2), .second, .val (.ref a294), .val (.ref b0), .val (.int v465), .val (.ref b1), .val (.ref a467), .val (.long t1), .second, .val (.long vlat), .second, .val (.long t1), .second] [(.int (XT.cmpL t1 vlat))])) _
        have c229 : t1 = vlat := (by rw [hvlat, ht1]; exact (own_max2 p0 p1).symm)
        refine g_lif_ne X525 hx (hb hby at_229) (by decide) (pc' := 247) (by decide) (fun q => absurd c229 q) (fun _ => ?_)
        show Goes p.tables e below (T525.setTop (mkF m 232 #[.val (.long p0), .second, .val (.long p1), .second, .val (.long p2), .second, .val (.int p3), .val (.int p4), .val (.int (2 : Int32)), .val (.long p0), .second, .val (.long t1), .second, .val (.long t2), .second, .val (.ref a294), .val (.ref b0), .val (.int v465), .val (.ref b1), .val (.ref a467), .val (.long t1), .second, .val (.long vlat), .second, .val (.long t1), .second] [])) _
        refine g_aload X525 hx (hb hby at_232) rfl rfl ?_
        show Goes p.tables e below (T525.setTop (mkF m 234 #[.val (.long p0), .second, .val (.long p1), .second, .val (.long p2), .second, .val (.int p3), .val (.int p4), .val (.int (2 : Int32)), .val (.long p0), .second, .val (.long t1), .second, .val (.long t2), .second, .val (.ref a294), .val (.ref b0), .val (.int v465), .val (.ref b1), .val (.ref a467), .val (.long t1), .second, .val (.long vlat), .second, .val (.long t1), .second] [(.ref a467)])) _
        refine g_callV X525 hx hZ hown (by rw [hml]; rfl) e525 (K := "com/example/drongo/drongo/event/RotaryEvent") (hw _ (List.mem_of_getElem? (i := 39) rfl)) (hw _ (List.mem_of_getElem? (i := 40) rfl)) (hw _ (List.mem_of_getElem? (i := 42) rfl)) (hw _ (List.mem_of_getElem? (i := 41) rfl)) (hw _ (List.mem_of_getElem? (i := 14) rfl)) (hw _ (List.mem_of_getElem? (i := 43) rfl)) fx519 (rmL l Z a0 hw a467 h509 b489 [(.long p0), (.long t1)] (2 : Int32) 1 t1 rfl (by decide) rfl fx520 fx521) [] rfl [] rfl (lenOf pd_4 rfl) (hb hby at_234) (by decide) 0 (by decide) (by decide) (by first | decide | exact Nat.le_refl _) (by decide) (by decide) (fun v T527 L527 X527 hQ527 => ?_)
        obtain ⟨rfl, e527, rfl⟩ := hQ527
        have N528 := Fr.app N526 (Fr.nil h0.size)
        show Goes p.tables e below (T527.setTop (mkF m 237 #[.val (.long p0), .second, .val (.long p1), .second, .val (.long p2), .second, .val (.int p3), .val (.int p4), .val (.int (2 : Int32)), .val (.long p0), .second, .val (.long t1), .second, .val (.long t2), .second, .val (.ref a294), .val (.ref b0), .val (.int v465), .val (.ref b1), .val (.ref a467), .val (.long t1), .second, .val (.long vlat), .second, .val (.long t1), .second] [(.long t1)])) _
        refine g_lload X527 hx (hb hby at_237) rfl ?_
        show Goes p.tables e below (T527.setTop (mkF m 239 #[.val (.long p0), .second, .val (.long p1), .second, .val (.long p2), .second, .val (.int p3), .val (.int p4), .val (.int (2 : Int32)), .val (.long p0), .second, .val (.long t1), .second, .val (.long t2), .second, .val (.ref a294), .val (.ref b0), .val (.int v465), .val (.ref b1), .val (.ref a467), .val (.long t1), .second, .val (.long vlat), .second, .val (.long t1), .second] [(.long t1), (.long t1)])) _
        refine g_lcmp X527 hx (hb hby at_239) ?_
        show Goes p.tables e below (T527.setTop (mkF m 240 #[.val (.long p0), .second, .val (.long p1), .second, .val (.long p2), .second, .val (.int p3), .val (.int p4), .val (.int (2 : Int32)), .val (.long p0), .second, .val (.long t1), .second, .val (.long t2), .second, .val (.ref a294), .val (.ref b0), .val (.int v465), .val (.ref b1), .val (.ref a467), .val (.long t1), .second, .val (.long vlat), .second, .val (.long t1), .second] [(.int (XT.cmpL t1 t1))])) _
        have c240 : t1 = t1 := rfl
        refine g_lif_ne X527 hx (hb hby at_240) (by decide) (pc' := 247) (by decide) (fun q => absurd c240 q) (fun _ => ?_)
        show Goes p.tables e below (T527.setTop (mkF m 243 #[.val (.long p0), .second, .val (.long p1), .second, .val (.long p2), .second, .val (.int p3), .val (.int p4), .val (.int (2 : Int32)), .val (.long p0), .second, .val (.long t1), .second, .val (.long t2), .second, .val (.ref a294), .val (.ref b0), .val (.int v465), .val (.ref b1), .val (.ref a467), .val (.long t1), .second, .val (.long vlat), .second, .val (.long t1), .second] [])) _
        refine g_iconst X527 hx (1 : Int32) (hb hby at_243) rfl ?_
        show Goes p.tables e below (T527.setTop (mkF m 244 #[.val (.long p0), .second, .val (.long p1), .second, .val (.long p2), .second, .val (.int p3), .val (.int p4), .val (.int (2 : Int32)), .val (.long p0), .second, .val (.long t1), .second, .val (.long t2), .second, .val (.ref a294), .val (.ref b0), .val (.int v465), .val (.ref b1), .val (.ref a467), .val (.long t1), .second, .val (.long vlat), .second, .val (.long t1), .second] [(.int (1 : Int32))])) _
        refine g_goto X527 hx (hb hby at_244) (by decide) (pc' := 248) (by decide) ?_
        show Goes p.tables e below (T527.setTop (mkF m 248 #[.val (.long p0), .second, .val (.long p1), .second, .val (.long p2), .second, .val (.int p3), .val (.int p4), .val (.int (2 : Int32)), .val (.long p0), .second, .val (.long t1), .second, .val (.long t2), .second, .val (.ref a294), .val (.ref b0), .val (.int v465), .val (.ref b1), .val (.ref a467), .val (.long t1), .second, .val (.long vlat), .second, .val (.long t1), .second] [(.int (1 : Int32))])) _
        exact g_retZ X527 hx (hz := (by decide)) hret hlk (hb hby at_248) (by decide) (by decide) ⟨rfl, N528⟩
      · skip
        show Goes p.tables e below (T464.setTop (mkF m 106 #[.val (.long p0), .second, .val (.long p1), .second, .val (.long p2), .second, .val (.int p3), .val (.int p4), .val (.int (2 : Int32)), .val (.long p0), .second, .val (.long t1), .second, .val (.long t2), .second, .val (.ref a294), .val (.ref b0), .val (.int v465), .unset, .unset, .unset, .unset, .unset, .unset, .unset, .unset] [])) _
        refine g_getS X464 hx hZ hown e464 (host := "") (Or.inl (hw _ (List.mem_of_getElem? (i := 46) rfl))) fx330 (hb hby at_106) (fun T529 X529 e529 => ?_)
        show Goes p.tables e below (T529.setTop (mkF m 109 #[.val (.long p0), .second, .val (.long p1), .second, .val (.long p2), .second, .val (.int p3), .val (.int p4), .val (.int (2 : Int32)), .val (.long p0), .second, .val (.long t1), .second, .val (.long t2), .second, .val (.ref a294), .val (.ref b0), .val (.int v465), .unset, .unset, .unset, .unset, .unset, .unset, .unset, .unset] [(.ref b3)])) _
        refine g_goto X529 hx (hb hby at_109) (by decide) (pc' := 115) (by decide) ?_
        show Goes p.tables e below (T529.setTop (mkF m 115 #[.val (.long p0), .second, .val (.long p1), .second, .val (.long p2), .second, .val (.int p3), .val (.int p4), .val (.int (2 : Int32)), .val (.long p0), .second, .val (.long t1), .second, .val (.long t2), .second, .val (.ref a294), .val (.ref b0), .val (.int v465), .unset, .unset, .unset, .unset, .unset, .unset, .unset, .unset] [(.ref b3)])) _
        refine g_astore X529 hx (hb hby at_115) rfl (l' := #[.val (.long p0), .second, .val (.long p1), .second, .val (.long p2), .second, .val (.int p3), .val (.int p4), .val (.int (2 : Int32)), .val (.long p0), .second, .val (.long t1), .second, .val (.long t2), .second, .val (.ref a294), .val (.ref b0), .val (.int v465), .val (.ref b3), .unset, .unset, .unset, .unset, .unset, .unset, .unset]) rfl ?_
        show Goes p.tables e below (T529.setTop (mkF m 117 #[.val (.long p0), .second, .val (.long p1), .second, .val (.long p2), .second, .val (.int p3), .val (.int p4), .val (.int (2 : Int32)), .val (.long p0), .second, .val (.long t1), .second, .val (.long t2), .second, .val (.ref a294), .val (.ref b0), .val (.int v465), .val (.ref b3), .unset, .unset, .unset, .unset, .unset, .unset, .unset] [])) _
        refine g_new X529 hx hZ hown e529 (hw _ (List.mem_of_getElem? (i := 12) rfl)) (hw _ (List.mem_of_getElem? (i := 13) rfl)) (hw _ (List.mem_of_getElem? (i := 14) rfl)) (hb hby at_117) (by decide) (by decide) (fun T530 h530 a530 ga530 X530 e530 Ex530 Ea530 Df530 => ?_)
        have ne531 : b0 ≠ a530 := Nat.ne_of_lt (by rw [ga530]; exact fx325.lt)
        have ne532 : b1 ≠ a530 := Nat.ne_of_lt (by rw [ga530]; exact fx327.lt)
        have ne533 : b2 ≠ a530 := Nat.ne_of_lt (by rw [ga530]; exact fx329.lt)
        have ne534 : b3 ≠ a530 := Nat.ne_of_lt (by rw [ga530]; exact fx331.lt)
        have ne535 : a294 ≠ a530 := Nat.ne_of_lt (by rw [ga530]; exact fx332.lt)
        have ge536 : h0.size ≤ a530 := by rw [ga530]; exact Z335
        have fx537 : Sta Z h530 "com/example/drongo/drongo/event/RotaryEvent$Knob" "NAVIGATION" "Lcom/example/drongo/drongo/event/RotaryEvent$Knob;" (.ref b0) := Sta.ext Ex530 fx324
        have fx538 : Exa Z h530 b0 "com/example/drongo/drongo/event/RotaryEvent$Knob" := Exa.ext Ex530 fx325
        have fx539 : Sta Z h530 "com/example/drongo/drongo/event/Display" "CLUSTER" "Lcom/example/drongo/drongo/event/Display;" (.ref b1) := Sta.ext Ex530 fx326
        have fx540 : Exa Z h530 b1 "com/example/drongo/drongo/event/Display" := Exa.ext Ex530 fx327
        have fx541 : Sta Z h530 "com/example/drongo/drongo/event/RotaryEvent$Knob" "VOLUME" "Lcom/example/drongo/drongo/event/RotaryEvent$Knob;" (.ref b2) := Sta.ext Ex530 fx328
        have fx542 : Exa Z h530 b2 "com/example/drongo/drongo/event/RotaryEvent$Knob" := Exa.ext Ex530 fx329
        have fx543 : Sta Z h530 "com/example/drongo/drongo/event/Display" "MAIN" "Lcom/example/drongo/drongo/event/Display;" (.ref b3) := Sta.ext Ex530 fx330
        have fx544 : Exa Z h530 b3 "com/example/drongo/drongo/event/Display" := Exa.ext Ex530 fx331
        have fx545 : Exa Z h530 a294 "[J" := Exa.ext Ex530 fx332
        have fx546 : Ar Z h530 a294 .long [(.long p0), (.long t1)] := Ar.ext fx333 Ex530
        have Z547 : h0.size ≤ h530.size := Nat.le_trans Z335 Ex530.1
        have fx548 : Fld Z h530 a530 "com/example/drongo/drongo/event/RotaryEvent" "knob" "Lcom/example/drongo/drongo/event/RotaryEvent$Knob;" .null := Df530 (Or.inr (hw _ (List.mem_of_getElem? (i := 22) rfl))) (ty := (.object "com/example/drongo/drongo/event/RotaryEvent$Knob")) (by decide)
        have fx549 : Fld Z h530 a530 "com/example/drongo/drongo/event/RotaryEvent" "clockwise" "Z" (.int (0 : Int32)) := Df530 (Or.inr (hw _ (List.mem_of_getElem? (i := 24) rfl))) (ty := .boolean) (by decide)
        have fx550 : Fld Z h530 a530 "com/example/drongo/drongo/event/RotaryEvent" "display" "Lcom/example/drongo/drongo/event/Display;" .null := Df530 (Or.inr (hw _ (List.mem_of_getElem? (i := 26) rfl))) (ty := (.object "com/example/drongo/drongo/event/Display")) (by decide)
        have fx551 : Fld Z h530 a530 "com/example/drongo/drongo/event/RotaryEvent" "timesMillis" "[J" .null := Df530 (Or.inr (hw _ (List.mem_of_getElem? (i := 37) rfl))) (ty := (.array .long)) (by decide)
        show Goes p.tables e below (T530.setTop (mkF m 120 #[.val (.long p0), .second, .val (.long p1), .second, .val (.long p2), .second, .val (.int p3), .val (.int p4), .val (.int (2 : Int32)), .val (.long p0), .second, .val (.long t1), .second, .val (.long t2), .second, .val (.ref a294), .val (.ref b0), .val (.int v465), .val (.ref b3), .unset, .unset, .unset, .unset, .unset, .unset, .unset] [(.ref a530)])) _
        refine g_dup X530 hx (hb hby at_120) rfl ?_
        show Goes p.tables e below (T530.setTop (mkF m 121 #[.val (.long p0), .second, .val (.long p1), .second, .val (.long p2), .second, .val (.int p3), .val (.int p4), .val (.int (2 : Int32)), .val (.long p0), .second, .val (.long t1), .second, .val (.long t2), .second, .val (.ref a294), .val (.ref b0), .val (.int v465), .val (.ref b3), .unset, .unset, .unset, .unset, .unset, .unset, .unset] [(.ref a530), (.ref a530)])) _
        refine g_aload X530 hx (hb hby at_121) rfl rfl ?_
        show Goes p.tables e below (T530.setTop (mkF m 123 #[.val (.long p0), .second, .val (.long p1), .second, .val (.long p2), .second, .val (.int p3), .val (.int p4), .val (.int (2 : Int32)), .val (.long p0), .second, .val (.long t1), .second, .val (.long t2), .second, .val (.ref a294), .val (.ref b0), .val (.int v465), .val (.ref b3), .unset, .unset, .unset, .unset, .unset, .unset, .unset] [(.ref b0), (.ref a530), (.ref a530)])) _
        refine g_iload X530 hx (hb hby at_123) rfl ?_
        show Goes p.tables e below (T530.setTop (mkF m 125 #[.val (.long p0), .second, .val (.long p1), .second, .val (.long p2), .second, .val (.int p3), .val (.int p4), .val (.int (2 : Int32)), .val (.long p0), .second, .val (.long t1), .second, .val (.long t2), .second, .val (.ref a294), .val (.ref b0), .val (.int v465), .val (.ref b3), .unset, .unset, .unset, .unset, .unset, .unset, .unset] [(.int v465), (.ref b0), (.ref a530), (.ref a530)])) _
        refine g_aload X530 hx (hb hby at_125) rfl rfl ?_
        show Goes p.tables e below (T530.setTop (mkF m 127 #[.val (.long p0), .second, .val (.long p1), .second, .val (.long p2), .second, .val (.int p3), .val (.int p4), .val (.int (2 : Int32)), .val (.long p0), .second, .val (.long t1), .second, .val (.long t2), .second, .val (.ref a294), .val (.ref b0), .val (.int v465), .val (.ref b3), .unset, .unset, .unset, .unset, .unset, .unset, .unset] [(.ref b3), (.int v465), (.ref b0), (.ref a530), (.ref a530)])) _
        refine g_aload X530 hx (hb hby at_127) rfl rfl ?_
        show Goes p.tables e below (T530.setTop (mkF m 129 #[.val (.long p0), .second, .val (.long p1), .second, .val (.long p2), .second, .val (.int p3), .val (.int p4), .val (.int (2 : Int32)), .val (.long p0), .second, .val (.long t1), .second, .val (.long t2), .second, .val (.ref a294), .val (.ref b0), .val (.int v465), .val (.ref b3), .unset, .unset, .unset, .unset, .unset, .unset, .unset] [(.ref a294), (.ref b3), (.int v465), (.ref b0), (.ref a530), (.ref a530)])) _
        have lta := fx546.lt
        have ltb := Ea530.lt
        refine g_callI X530 hx hZ hown (by rw [hml]; rfl) e530 rfl (hw _ (List.mem_of_getElem? (i := 15) rfl)) (hw _ (List.mem_of_getElem? (i := 16) rfl)) (hw _ (List.mem_of_getElem? (i := 14) rfl)) (hw _ (List.mem_of_getElem? (i := 17) rfl)) (rmI l Z a0 hw a530 b0 v465 b3 a294 h530 h0.size Z547 [(.long p0), (.long t1)] (by simp) fx548 fx549 fx550 fx551 Ea530 fx546 fx545 ge536 ne535) a530 [(.ref b0), (.int v465), (.ref b3), (.ref a294)] rfl [(.ref a530)] rfl (lenOf pd_2 rfl) (hb hby at_129) (by decide) 1 (by decide) (by decide) (by first | decide | exact Nat.le_refl _) (by decide) (by decide) (fun v T552 L552 X552 hQ552 => ?_)
        obtain ⟨rfl, Nc552, Kc552, b552, gb552, hb552, fT552, Ab552⟩ := hQ552
        have fx553 : Sta Z T552.heap "com/example/drongo/drongo/event/RotaryEvent$Knob" "NAVIGATION" "Lcom/example/drongo/drongo/event/RotaryEvent$Knob;" (.ref b0) := own_stakeep fx537 Kc552 (allS (own_nst Ea530) all0)
        have fx554 : Exa Z T552.heap b0 "com/example/drongo/drongo/event/RotaryEvent$Knob" := Exa.keep fx538 Kc552
        have fx555 : Sta Z T552.heap "com/example/drongo/drongo/event/Display" "CLUSTER" "Lcom/example/drongo/drongo/event/Display;" (.ref b1) := own_stakeep fx539 Kc552 (allS (own_nst Ea530) all0)
        have fx556 : Exa Z T552.heap b1 "com/example/drongo/drongo/event/Display" := Exa.keep fx540 Kc552
        have fx557 : Sta Z T552.heap "com/example/drongo/drongo/event/RotaryEvent$Knob" "VOLUME" "Lcom/example/drongo/drongo/event/RotaryEvent$Knob;" (.ref b2) := own_stakeep fx541 Kc552 (allS (own_nst Ea530) all0)
        have fx558 : Exa Z T552.heap b2 "com/example/drongo/drongo/event/RotaryEvent$Knob" := Exa.keep fx542 Kc552
        have fx559 : Sta Z T552.heap "com/example/drongo/drongo/event/Display" "MAIN" "Lcom/example/drongo/drongo/event/Display;" (.ref b3) := own_stakeep fx543 Kc552 (allS (own_nst Ea530) all0)
        have fx560 : Exa Z T552.heap b3 "com/example/drongo/drongo/event/Display" := Exa.keep fx544 Kc552
        have fx561 : Exa Z T552.heap a294 "[J" := Exa.keep fx545 Kc552
        have fx562 : Ar Z T552.heap a294 .long [(.long p0), (.long t1)] := Ar.keep fx546 Kc552 (ninS ne535 nin0)
        have fx563 : Exa Z T552.heap a530 "com/example/drongo/drongo/event/RotaryEvent" := Exa.keep Ea530 Kc552
        have N564 := Fr.app N334 Nc552
        have Z565 : h0.size ≤ T552.heap.size := Nat.le_trans Z547 Kc552.1
        have ne566 : a294 ≠ b552 := Nat.ne_of_lt (Nat.lt_of_lt_of_le lta hb552)
        have ne567 : a530 ≠ b552 := Nat.ne_of_lt (Nat.lt_of_lt_of_le ltb hb552)
        show Goes p.tables e below (T552.setTop (mkF m 132 #[.val (.long p0), .second, .val (.long p1), .second, .val (.long p2), .second, .val (.int p3), .val (.int p4), .val (.int (2 : Int32)), .val (.long p0), .second, .val (.long t1), .second, .val (.long t2), .second, .val (.ref a294), .val (.ref b0), .val (.int v465), .val (.ref b3), .unset, .unset, .unset, .unset, .unset, .unset, .unset] [(.ref a530)])) _
        refine g_astore X552 hx (hb hby at_132) rfl (l' := #[.val (.long p0), .second, .val (.long p1), .second, .val (.long p2), .second, .val (.int p3), .val (.int p4), .val (.int (2 : Int32)), .val (.long p0), .second, .val (.long t1), .second, .val (.long t2), .second, .val (.ref a294), .val (.ref b0), .val (.int v465), .val (.ref b3), .val (.ref a530), .unset, .unset, .unset, .unset, .unset, .unset]) rfl ?_
        show Goes p.tables e below (T552.setTop (mkF m 134 #[.val (.long p0), .second, .val (.long p1), .second, .val (.long p2), .second, .val (.int p3), .val (.int p4), .val (.int (2 : Int32)), .val (.long p0), .second, .val (.long t1), .second, .val (.long t2), .second, .val (.ref a294), .val (.ref b0), .val (.int v465), .val (.ref b3), .val (.ref a530), .unset, .unset, .unset, .unset, .unset, .unset] [])) _
        refine g_iload X552 hx (hb hby at_134) rfl ?_
        show Goes p.tables e below (T552.setTop (mkF m 136 #[.val (.long p0), .second, .val (.long p1), .second, .val (.long p2), .second, .val (.int p3), .val (.int p4), .val (.int (2 : Int32)), .val (.long p0), .second, .val (.long t1), .second, .val (.long t2), .second, .val (.ref a294), .val (.ref b0), .val (.int v465), .val (.ref b3), .val (.ref a530), .unset, .unset, .unset, .unset, .unset, .unset] [(.int (2 : Int32))])) _
        refine g_iconst X552 hx (1 : Int32) (hb hby at_136) rfl ?_
        show Goes p.tables e below (T552.setTop (mkF m 137 #[.val (.long p0), .second, .val (.long p1), .second, .val (.long p2), .second, .val (.int p3), .val (.int p4), .val (.int (2 : Int32)), .val (.long p0), .second, .val (.long t1), .second, .val (.long t2), .second, .val (.ref a294), .val (.ref b0), .val (.int v465), .val (.ref b3), .val (.ref a530), .unset, .unset, .unset, .unset, .unset, .unset] [(.int (1 : Int32)), (.int (2 : Int32))])) _
        refine g_icmp_ne X552 hx (hb hby at_137) (by decide) (pc' := 145) (by decide) (fun _ => ?_) (fun q => absurd q (by decide))
        show Goes p.tables e below (T552.setTop (mkF m 145 #[.val (.long p0), .second, .val (.long p1), .second, .val (.long p2), .second, .val (.int p3), .val (.int p4), .val (.int (2 : Int32)), .val (.long p0), .second, .val (.long t1), .second, .val (.long t2), .second, .val (.ref a294), .val (.ref b0), .val (.int v465), .val (.ref b3), .val (.ref a530), .unset, .unset, .unset, .unset, .unset, .unset] [])) _
        refine g_iload X552 hx (hb hby at_145) rfl ?_
        show Goes p.tables e below (T552.setTop (mkF m 147 #[.val (.long p0), .second, .val (.long p1), .second, .val (.long p2), .second, .val (.int p3), .val (.int p4), .val (.int (2 : Int32)), .val (.long p0), .second, .val (.long t1), .second, .val (.long t2), .second, .val (.ref a294), .val (.ref b0), .val (.int v465), .val (.ref b3), .val (.ref a530), .unset, .unset, .unset, .unset, .unset, .unset] [(.int (2 : Int32))])) _
        refine g_iconst X552 hx (2 : Int32) (hb hby at_147) rfl ?_
        show Goes p.tables e below (T552.setTop (mkF m 148 #[.val (.long p0), .second, .val (.long p1), .second, .val (.long p2), .second, .val (.int p3), .val (.int p4), .val (.int (2 : Int32)), .val (.long p0), .second, .val (.long t1), .second, .val (.long t2), .second, .val (.ref a294), .val (.ref b0), .val (.int v465), .val (.ref b3), .val (.ref a530), .unset, .unset, .unset, .unset, .unset, .unset] [(.int (2 : Int32)), (.int (2 : Int32))])) _
        refine g_icmp_ne X552 hx (hb hby at_148) (by decide) (pc' := 156) (by decide) (fun q => absurd (by decide) q) (fun _ => ?_)
        show Goes p.tables e below (T552.setTop (mkF m 151 #[.val (.long p0), .second, .val (.long p1), .second, .val (.long p2), .second, .val (.int p3), .val (.int p4), .val (.int (2 : Int32)), .val (.long p0), .second, .val (.long t1), .second, .val (.long t2), .second, .val (.ref a294), .val (.ref b0), .val (.int v465), .val (.ref b3), .val (.ref a530), .unset, .unset, .unset, .unset, .unset, .unset] [])) _
        refine g_lload X552 hx (hb hby at_151) rfl ?_
        show Goes p.tables e below (T552.setTop (mkF m 153 #[.val (.long p0), .second, .val (.long p1), .second, .val (.long p2), .second, .val (.int p3), .val (.int p4), .val (.int (2 : Int32)), .val (.long p0), .second, .val (.long t1), .second, .val (.long t2), .second, .val (.ref a294), .val (.ref b0), .val (.int v465), .val (.ref b3), .val (.ref a530), .unset, .unset, .unset, .unset, .unset, .unset] [(.long t1)])) _
        refine g_goto X552 hx (hb hby at_153) (by decide) (pc' := 158) (by decide) ?_
        show Goes p.tables e below (T552.setTop (mkF m 158 #[.val (.long p0), .second, .val (.long p1), .second, .val (.long p2), .second, .val (.int p3), .val (.int p4), .val (.int (2 : Int32)), .val (.long p0), .second, .val (.long t1), .second, .val (.long t2), .second, .val (.ref a294), .val (.ref b0), .val (.int v465), .val (.ref b3), .val (.ref a530), .unset, .unset, .unset, .unset, .unset, .unset] [(.long t1)])) _
        refine g_lstore X552 hx (hb hby at_158) (l' := #[.val (.long p0), .second, .val (.long p1), .second, .val (.long p2), .second, .val (.int p3), .val (.int p4), .val (.int (2 : Int32)), .val (.long p0), .second, .val (.long t1), .second, .val (.long t2), .second, .val (.ref a294), .val (.ref b0), .val (.int v465), .val (.ref b3), .val (.ref a530), .val (.long t1), .second, .unset, .unset, .unset, .unset]) rfl ?_
        show Goes p.tables e below (T552.setTop (mkF m 160 #[.val (.long p0), .second, .val (.long p1), .second, .val (.long p2), .second, .val (.int p3), .val (.int p4), .val (.int (2 : Int32)), .val (.long p0), .second, .val (.long t1), .second, .val (.long t2), .second, .val (.ref a294), .val (.ref b0), .val (.int v465), .val (.ref b3), .val (.ref a530), .val (.long t1), .second, .unset, .unset, .unset, .unset] [])) _
        refine g_lload X552 hx (hb hby at_160) rfl ?_
        show Goes p.tables e below (T552.setTop (mkF m 162 #[.val (.long p0), .second, .val (.long p1), .second, .val (.long p2), .second, .val (.int p3), .val (.int p4), .val (.int (2 : Int32)), .val (.long p0), .second, .val (.long t1), .second, .val (.long t2), .second, .val (.ref a294), .val (.ref b0), .val (.int v465), .val (.ref b3), .val (.ref a530), .val (.long t1), .second, .unset, .unset, .unset, .unset] [(.long p0)])) _
        refine g_iload X552 hx (hb hby at_162) rfl ?_
        show Goes p.tables e below (T552.setTop (mkF m 164 #[.val (.long p0), .second, .val (.long p1), .second, .val (.long p2), .second, .val (.int p3), .val (.int p4), .val (.int (2 : Int32)), .val (.long p0), .second, .val (.long t1), .second, .val (.long t2), .second, .val (.ref a294), .val (.ref b0), .val (.int v465), .val (.ref b3), .val (.ref a530), .val (.long t1), .second, .unset, .unset, .unset, .unset] [(.int (2 : Int32)), (.long p0)])) _
        refine g_iconst X552 hx (1 : Int32) (hb hby at_164) rfl ?_
        show Goes p.tables e below (T552.setTop (mkF m 165 #[.val (.long p0), .second, .val (.long p1), .second, .val (.long p2), .second, .val (.int p3), .val (.int p4), .val (.int (2 : Int32)), .val (.long p0), .second, .val (.long t1), .second, .val (.long t2), .second, .val (.ref a294), .val (.ref b0), .val (.int v465), .val (.ref b3), .val (.ref a530), .val (.long t1), .second, .unset, .unset, .unset, .unset] [(.int (1 : Int32)), (.int (2 : Int32)), (.long p0)])) _
        refine g_icmp_le X552 hx (hb hby at_165) (by decide) (pc' := 173) (by decide) (fun q => absurd (by decide) q) (fun _ => ?_)
        show Goes p.tables e below (T552.setTop (mkF m 168 #[.val (.long p0), .second, .val (.long p1), .second, .val (.long p2), .second, .val (.int p3), .val (.int p4), .val (.int (2 : Int32)), .val (.long p0), .second, .val (.long t1), .second, .val (.long t2), .second, .val (.ref a294), .val (.ref b0), .val (.int v465), .val (.ref b3), .val (.ref a530), .val (.long t1), .second, .unset, .unset, .unset, .unset] [(.long p0)])) _
        refine g_lload X552 hx (hb hby at_168) rfl ?_
        show Goes p.tables e below (T552.setTop (mkF m 170 #[.val (.long p0), .second, .val (.long p1), .second, .val (.long p2), .second, .val (.int p3), .val (.int p4), .val (.int (2 : Int32)), .val (.long p0), .second, .val (.long t1), .second, .val (.long t2), .second, .val (.ref a294), .val (.ref b0), .val (.int v465), .val (.ref b3), .val (.ref a530), .val (.long t1), .second, .unset, .unset, .unset, .unset] [(.long t1), (.long p0)])) _
        refine g_goto X552 hx (hb hby at_170) (by decide) (pc' := 175) (by decide) ?_
        show Goes p.tables e below (T552.setTop (mkF m 175 #[.val (.long p0), .second, .val (.long p1), .second, .val (.long p2), .second, .val (.int p3), .val (.int p4), .val (.int (2 : Int32)), .val (.long p0), .second, .val (.long t1), .second, .val (.long t2), .second, .val (.ref a294), .val (.ref b0), .val (.int v465), .val (.ref b3), .val (.ref a530), .val (.long t1), .second, .unset, .unset, .unset, .unset] [(.long t1), (.long p0)])) _
        refine g_iload X552 hx (hb hby at_175) rfl ?_
        show Goes p.tables e below (T552.setTop (mkF m 177 #[.val (.long p0), .second, .val (.long p1), .second, .val (.long p2), .second, .val (.int p3), .val (.int p4), .val (.int (2 : Int32)), .val (.long p0), .second, .val (.long t1), .second, .val (.long t2), .second, .val (.ref a294), .val (.ref b0), .val (.int v465), .val (.ref b3), .val (.ref a530), .val (.long t1), .second, .unset, .unset, .unset, .unset] [(.int (2 : Int32)), (.long t1), (.long p0)])) _
        refine g_iconst X552 hx (2 : Int32) (hb hby at_177) rfl ?_
        show Goes p.tables e below (T552.setTop (mkF m 178 #[.val (.long p0), .second, .val (.long p1), .second, .val (.long p2), .second, .val (.int p3), .val (.int p4), .val (.int (2 : Int32)), .val (.long p0), .second, .val (.long t1), .second, .val (.long t2), .second, .val (.ref a294), .val (.ref b0), .val (.int v465), .val (.ref b3), .val (.ref a530), .val (.long t1), .second, .unset, .unset, .unset, .unset] [(.int (2 : Int32)), (.int (2 : Int32)), (.long t1), (.long p0)])) _
        refine g_icmp_le X552 hx (hb hby at_178) (by decide) (pc' := 186) (by decide) (fun _ => ?_) (fun q => absurd q (by decide))
        show Goes p.tables e below (T552.setTop (mkF m 186 #[.val (.long p0), .second, .val (.long p1), .second, .val (.long p2), .second, .val (.int p3), .val (.int p4), .val (.int (2 : Int32)), .val (.long p0), .second, .val (.long t1), .second, .val (.long t2), .second, .val (.ref a294), .val (.ref b0), .val (.int v465), .val (.ref b3), .val (.ref a530), .val (.long t1), .second, .unset, .unset, .unset, .unset] [(.long t1), (.long p0)])) _
        refine g_lload X552 hx (hb hby at_186) rfl ?_
        show Goes p.tables e below (T552.setTop (mkF m 188 #[.val (.long p0), .second, .val (.long p1), .second, .val (.long p2), .second, .val (.int p3), .val (.int p4), .val (.int (2 : Int32)), .val (.long p0), .second, .val (.long t1), .second, .val (.long t2), .second, .val (.ref a294), .val (.ref b0), .val (.int v465), .val (.ref b3), .val (.ref a530), .val (.long t1), .second, .unset, .unset, .unset, .unset] [(.long p0), (.long t1), (.long p0)])) _
        refine g_callS X552 hx hZ hown (by rw [hml]; rfl) rfl (hw _ (List.mem_of_getElem? (i := 1) rfl)) (hw _ (List.mem_of_getElem? (i := 2) rfl)) (hw _ (List.mem_of_getElem? (i := 3) rfl)) (hw _ (List.mem_of_getElem? (i := 4) rfl)) (rmX l Z a0 hw t1 p0 T552.heap) [(.long t1), (.long p0)] rfl [(.long p0)] rfl (lenOf pd_1 rfl) (hb hby at_188) (by decide) 2 (by decide) (by decide) (by first | decide | exact Nat.le_refl _) (by decide) (by decide) (fun v T568 L568 X568 hQ568 => ?_)
        obtain ⟨rfl, e568, rfl⟩ := hQ568
        have N569 := Fr.app N564 (Fr.nil h0.size)
        show Goes p.tables e below (T568.setTop (mkF m 191 #[.val (.long p0), .second, .val (.long p1), .second, .val (.long p2), .second, .val (.int p3), .val (.int p4), .val (.int (2 : Int32)), .val (.long p0), .second, .val (.long t1), .second, .val (.long t2), .second, .val (.ref a294), .val (.ref b0), .val (.int v465), .val (.ref b3), .val (.ref a530), .val (.long t1), .second, .unset, .unset, .unset, .unset] [(.long (maxV t1 p0)), (.long p0)])) _
        refine g_callS X568 hx hZ hown (by rw [hml]; rfl) e568 (hw _ (List.mem_of_getElem? (i := 1) rfl)) (hw _ (List.mem_of_getElem? (i := 2) rfl)) (hw _ (List.mem_of_getElem? (i := 3) rfl)) (hw _ (List.mem_of_getElem? (i := 4) rfl)) (rmX l Z a0 hw p0 (maxV t1 p0) T552.heap) [(.long p0), (.long (maxV t1 p0))] rfl [] rfl (lenOf pd_1 rfl) (hb hby at_191) (by decide) 0 (by decide) (by decide) (by first | decide | exact Nat.le_refl _) (by decide) (by decide) (fun v T570 L570 X570 hQ570 => ?_)
        obtain ⟨rfl, e570, rfl⟩ := hQ570
        have N571 := Fr.app N569 (Fr.nil h0.size)
        show Goes p.tables e below (T570.setTop (mkF m 194 #[.val (.long p0), .second, .val (.long p1), .second, .val (.long p2), .second, .val (.int p3), .val (.int p4), .val (.int (2 : Int32)), .val (.long p0), .second, .val (.long t1), .second, .val (.long t2), .second, .val (.ref a294), .val (.ref b0), .val (.int v465), .val (.ref b3), .val (.ref a530), .val (.long t1), .second, .unset, .unset, .unset, .unset] [(.long (maxV p0 (maxV t1 p0)))])) _
        obtain ⟨vlat, hvlat⟩ : ∃ z : Int64, z = (maxV p0 (maxV t1 p0)) := ⟨_, rfl⟩
        refine g_nameL hvlat ?_
        show Goes p.tables e below (T570.setTop (mkF m 194 #[.val (.long p0), .second, .val (.long p1), .second, .val (.long p2), .second, .val (.int p3), .val (.int p4), .val (.int (2 : Int32)), .val (.long p0), .second, .val (.long t1), .second, .val (.long t2), .second, .val (.ref a294), .val (.ref b0), .val (.int v465), .val (.ref b3), .val (.ref a530), .val (.long t1), .second, .unset, .unset, .unset, .unset] [(.long vlat)])) _
        refine g_lstore X570 hx (hb hby at_194) (l' := #[.val (.long p0), .second, .val (.long p1), .second, .val (.long p2), .second, .val (.int p3), .val (.int p4), .val (.int (2 : Int32)), .val (.long p0), .second, .val (.long t1), .second, .val (.long t2), .second, .val (.ref a294), .val (.ref b0), .val (.int v465), .val (.ref b3), .val (.ref a530), .val (.long t1), .second, .val (.long vlat), .second, .unset, .unset]) rfl ?_
        show Goes p.tables e below (T570.setTop (mkF m 196 #[.val (.long p0), .second, .val (.long p1), .second, .val (.long p2), .second, .val (.int p3), .val (.int p4), .val (.int (2 : Int32)), .val (.long p0), .second, .val (.long t1), .second, .val (.long t2), .second, .val (.ref a294), .val (.ref b0), .val (.int v465), .val (.ref b3), .val (.ref a530), .val (.long t1), .second, .val (.long vlat), .second, .unset, .unset] [])) _
        refine g_aload X570 hx (hb hby at_196) rfl rfl ?_
        show Goes p.tables e below (T570.setTop (mkF m 198 #[.val (.long p0), .second, .val (.long p1), .second, .val (.long p2), .second, .val (.int p3), .val (.int p4), .val (.int (2 : Int32)), .val (.long p0), .second, .val (.long t1), .second, .val (.long t2), .second, .val (.ref a294), .val (.ref b0), .val (.int v465), .val (.ref b3), .val (.ref a530), .val (.long t1), .second, .val (.long vlat), .second, .unset, .unset] [(.ref a294)])) _
        refine g_iload X570 hx (hb hby at_198) rfl ?_
        show Goes p.tables e below (T570.setTop (mkF m 200 #[.val (.long p0), .second, .val (.long p1), .second, .val (.long p2), .second, .val (.int p3), .val (.int p4), .val (.int (2 : Int32)), .val (.long p0), .second, .val (.long t1), .second, .val (.long t2), .second, .val (.ref a294), .val (.ref b0), .val (.int v465), .val (.ref b3), .val (.ref a530), .val (.long t1), .second, .val (.long vlat), .second, .unset, .unset] [(.int (2 : Int32)), (.ref a294)])) _
        refine g_iconst X570 hx (1 : Int32) (hb hby at_200) rfl ?_
        show Goes p.tables e below (T570.setTop (mkF m 201 #[.val (.long p0), .second, .val (.long p1), .second, .val (.long p2), .second, .val (.int p3), .val (.int p4), .val (.int (2 : Int32)), .val (.long p0), .second, .val (.long t1), .second, .val (.long t2), .second, .val (.ref a294), .val (.ref b0), .val (.int v465), .val (.ref b3), .val (.ref a530), .val (.long t1), .second, .val (.long vlat), .second, .unset, .unset] [(.int (1 : Int32)), (.int (2 : Int32)), (.ref a294)])) _
        refine g_isub X570 hx (hb hby at_201) ?_
        show Goes p.tables e below (T570.setTop (mkF m 202 #[.val (.long p0), .second, .val (.long p1), .second, .val (.long p2), .second, .val (.int p3), .val (.int p4), .val (.int (2 : Int32)), .val (.long p0), .second, .val (.long t1), .second, .val (.long t2), .second, .val (.ref a294), .val (.ref b0), .val (.int v465), .val (.ref b3), .val (.ref a530), .val (.long t1), .second, .val (.long vlat), .second, .unset, .unset] [(.int ((2 : Int32) - (1 : Int32))), (.ref a294)])) _
        refine g_lload X570 hx (hb hby at_202) rfl ?_
        show Goes p.tables e below (T570.setTop (mkF m 204 #[.val (.long p0), .second, .val (.long p1), .second, .val (.long p2), .second, .val (.int p3), .val (.int p4), .val (.int (2 : Int32)), .val (.long p0), .second, .val (.long t1), .second, .val (.long t2), .second, .val (.ref a294), .val (.ref b0), .val (.int v465), .val (.ref b3), .val (.ref a530), .val (.long t1), .second, .val (.long vlat), .second, .unset, .unset] [(.long t1), (.int ((2 : Int32) - (1 : Int32))), (.ref a294)])) _
        refine g_ldc2 X570 hx hZ hown (hw _ (List.mem_of_getElem? (i := 38) rfl)) (hb hby at_204) ?_
        show Goes p.tables e below (T570.setTop (mkF m 207 #[.val (.long p0), .second, .val (.long p1), .second, .val (.long p2), .second, .val (.int p3), .val (.int p4), .val (.int (2 : Int32)), .val (.long p0), .second, .val (.long t1), .second, .val (.long t2), .second, .val (.ref a294), .val (.ref b0), .val (.int v465), .val (.ref b3), .val (.ref a530), .val (.long t1), .second, .val (.long vlat), .second, .unset, .unset] [(.long (-1 : Int64)), (.long t1), (.int ((2 : Int32) - (1 : Int32))), (.ref a294)])) _
        refine g_lxor X570 hx (hb hby at_207) ?_
        show Goes p.tables e below (T570.setTop (mkF m 208 #[.val (.long p0), .second, .val (.long p1), .second, .val (.long p2), .second, .val (.int p3), .val (.int p4), .val (.int (2 : Int32)), .val (.long p0), .second, .val (.long t1), .second, .val (.long t2), .second, .val (.ref a294), .val (.ref b0), .val (.int v465), .val (.ref b3), .val (.ref a530), .val (.long t1), .second, .val (.long vlat), .second, .unset, .unset] [(.long (t1 ^^^ (-1 : Int64))), (.int ((2 : Int32) - (1 : Int32))), (.ref a294)])) _
        refine g_lastore X570 hx hZ e570 fx562 1 (by decide) (by simp) (hb hby at_208) (fun T572 h572 X572 e572 W572 A572 => ?_)
        have fx573 : Sta Z h572 "com/example/drongo/drongo/event/RotaryEvent$Knob" "NAVIGATION" "Lcom/example/drongo/drongo/event/RotaryEvent$Knob;" (.ref b0) := Sta.wr W572 fx553
        have fx574 : Exa Z h572 b0 "com/example/drongo/drongo/event/RotaryEvent$Knob" := Exa.wr W572 fx554
        have fx575 : Sta Z h572 "com/example/drongo/drongo/event/Display" "CLUSTER" "Lcom/example/drongo/drongo/event/Display;" (.ref b1) := Sta.wr W572 fx555
        have fx576 : Exa Z h572 b1 "com/example/drongo/drongo/event/Display" := Exa.wr W572 fx556
        have fx577 : Sta Z h572 "com/example/drongo/drongo/event/RotaryEvent$Knob" "VOLUME" "Lcom/example/drongo/drongo/event/RotaryEvent$Knob;" (.ref b2) := Sta.wr W572 fx557
        have fx578 : Exa Z h572 b2 "com/example/drongo/drongo/event/RotaryEvent$Knob" := Exa.wr W572 fx558
        have fx579 : Sta Z h572 "com/example/drongo/drongo/event/Display" "MAIN" "Lcom/example/drongo/drongo/event/Display;" (.ref b3) := Sta.wr W572 fx559
        have fx580 : Exa Z h572 b3 "com/example/drongo/drongo/event/Display" := Exa.wr W572 fx560
        have fx581 : Exa Z h572 a294 "[J" := Exa.wr W572 fx561
        have fx582 : Exa Z h572 a530 "com/example/drongo/drongo/event/RotaryEvent" := Exa.wr W572 fx563
        have fx583 : Fld Z h572 a530 "com/example/drongo/drongo/event/RotaryEvent" "timesMillis" "[J" (.ref b552) := Fld.other W572 fT552 (Or.inl (Ne.symm ne535))
        have fx584 : Ar Z h572 b552 .long [(.long p0), (.long t1)] := Ar.other Ab552 W572 (Ne.symm ne566)
        have fx585 : Ar Z h572 a294 .long (List.set [(.long p0), (.long t1)] 1 (.long (t1 ^^^ (-1 : Int64)))) := A572
        have N586 := Fr.snoc X572 N571 ge299
        have Z587 : h0.size ≤ h572.size := by rw [W572.size]; exact Z565
        show Goes p.tables e below (T572.setTop (mkF m 209 #[.val (.long p0), .second, .val (.long p1), .second, .val (.long p2), .second, .val (.int p3), .val (.int p4), .val (.int (2 : Int32)), .val (.long p0), .second, .val (.long t1), .second, .val (.long t2), .second, .val (.ref a294), .val (.ref b0), .val (.int v465), .val (.ref b3), .val (.ref a530), .val (.long t1), .second, .val (.long vlat), .second, .unset, .unset] [])) _
        refine g_aload X572 hx (hb hby at_209) rfl rfl ?_
        show Goes p.tables e below (T572.setTop (mkF m 211 #[.val (.long p0), .second, .val (.long p1), .second, .val (.long p2), .second, .val (.int p3), .val (.int p4), .val (.int (2 : Int32)), .val (.long p0), .second, .val (.long t1), .second, .val (.long t2), .second, .val (.ref a294), .val (.ref b0), .val (.int v465), .val (.ref b3), .val (.ref a530), .val (.long t1), .second, .val (.long vlat), .second, .unset, .unset] [(.ref a530)])) _
        refine g_callV X572 hx hZ hown (by rw [hml]; rfl) e572 (K := "com/example/drongo/drongo/event/RotaryEvent") (hw _ (List.mem_of_getElem? (i := 39) rfl)) (hw _ (List.mem_of_getElem? (i := 40) rfl)) (hw _ (List.mem_of_getElem? (i := 42) rfl)) (hw _ (List.mem_of_getElem? (i := 41) rfl)) (hw _ (List.mem_of_getElem? (i := 14) rfl)) (hw _ (List.mem_of_getElem? (i := 43) rfl)) fx582 (rmL l Z a0 hw a530 h572 b552 [(.long p0), (.long t1)] (2 : Int32) 1 t1 rfl (by decide) rfl fx583 fx584) [] rfl [] rfl (lenOf pd_4 rfl) (hb hby at_211) (by decide) 0 (by decide) (by decide) (by first | decide | exact Nat.le_refl _) (by decide) (by decide) (fun v T588 L588 X588 hQ588 => ?_)
        obtain ⟨rfl, e588, rfl⟩ := hQ588
        have N589 := Fr.app N586 (Fr.nil h0.size)
        show Goes p.tables e below (T588.setTop (mkF m 214 #[.val (.long p0), .second, .val (.long p1), .second, .val (.long p2), .second, .val (.int p3), .val (.int p4), .val (.int (2 : Int32)), .val (.long p0), .second, .val (.long t1), .second, .val (.long t2), .second, .val (.ref a294), .val (.ref b0), .val (.int v465), .val (.ref b3), .val (.ref a530), .val (.long t1), .second, .val (.long vlat), .second, .unset, .unset] [(.long t1)])) _
        refine g_lstore X588 hx (hb hby at_214) (l' := #[.val (.long p0), .second, .val (.long p1), .second, .val (.long p2), .second, .val (.int p3), .val (.int p4), .val (.int (2 : Int32)), .val (.long p0), .second, .val (.long t1), .second, .val (.long t2), .second, .val (.ref a294), .val (.ref b0), .val (.int v465), .val (.ref b3), .val (.ref a530), .val (.long t1), .second, .val (.long vlat), .second, .val (.long t1), .second]) rfl ?_
        show Goes p.tables e below (T588.setTop (mkF m 216 #[.val (.long p0), .second, .val (.long p1), .second, .val (.long p2), .second, .val (.int p3), .val (.int p4), .val (.int (2 : Int32)), .val (.long p0), .second, .val (.long t1), .second, .val (.long t2), .second, .val (.ref a294), .val (.ref b0), .val (.int v465), .val (.ref b3), .val (.ref a530), .val (.long t1), .second, .val (.long vlat), .second, .val (.long t1), .second] [])) _
        refine g_lload X588 hx (hb hby at_216) rfl ?_
        show Goes p.tables e below (T588.setTop (mkF m 218 #[.val (.long p0), .second, .val (.long p1), .second, .val (.long p2), .second, .val (.int p3), .val (.int p4), .val (.int (2 : Int32)), .val (.long p0), .second, .val (.long t1), .second, .val (.long t2), .second, .val (.ref a294), .val (.ref b0), .val (.int v465), .val (.ref b3), .val (.ref a530), .val (.long t1), .second, .val (.long vlat), .second, .val (.long t1), .second] [(.long t1)])) _
        refine g_lload X588 hx (hb hby at_218) rfl ?_
        show Goes p.tables e below (T588.setTop (mkF m 220 #[.val (.long p0), .second, .val (.long p1), .second, .val (.long p2), .second, .val (.int p3), .val (.int p4), .val (.int (2 : Int32)), .val (.long p0), .second, .val (.long t1), .second, .val (.long t2), .second, .val (.ref a294), .val (.ref b0), .val (.int v465), .val (.ref b3), .val (.ref a530), .val (.long t1), .second, .val (.long vlat), .second, .val (.long t1), .second] [(.long t1), (.long t1)])) _
        refine g_lcmp X588 hx (hb hby at_220) ?_
        show Goes p.tables e below (T588.setTop (mkF m 221 #[.val (.long p0), .second, .val (.long p1), .second, .val (.long p2), .second, .val (.int p3), .val (.int p4), .val (.int (2 : Int32)), .val (.long p0), .second, .val (.long t1), .second, .val (.long t2), .second, .val (.ref a294), .val (.ref b0), .val (.int v465), .val (.ref b3), .val (.ref a530), .val (.long t1), .second, .val (.long vlat), .second, .val (.long t1), .second] [(.int (XT.cmpL t1 t1))])) _
        have c221 : t1 = t1 := rfl
        refine g_lif_ne X588 hx (hb hby at_221) (by decide) (pc' := 247) (by decide) (fun q => absurd c221 q) (fun _ => ?_)
        show Goes p.tables e below (T588.setTop (mkF m 224 #[.val (.long p0), .second, .val (.long p1), .second, .val (.long p2), .second, .val (.int p3), .val (.int p4), .val (.int (2 : Int32)), .val (.long p0), .second, .val (.long t1), .second, .val (.long t2), .second, .val (.ref a294), .val (.ref b0), .val (.int v465), .val (.ref b3), .val (.ref a530), .val (.long t1), .second, .val (.long vlat), .second, .val (.long t1), .second] [])) _
        refine g_lload X588 hx (hb hby at_224) rfl ?_
        show Goes p.tables e below (T588.setTop (mkF m 226 #[.val (.long p0), .second, .val (.long p1), .second, .val (.long p2), .second, .val (.int p3), .val (.int p4), .val (.int (2 : Int32)), .val (.long p0), .second, .val (.long t1), .second, .val (.long t2), .second, .val (.ref a294), .val (.ref b0), .val (.int v465), .val (.ref b3), .val (.ref a530), .val (.long t1), .second, .val (.long vlat), .second, .val (.long t1), .second] [(.long t1)])) _
        refine g_lload X588 hx (hb hby at_226) rfl ?_
        show Goes p.tables e below (T588.setTop (mkF m 228 #[.val (.long p0), .second, .val (.long p1), .second, .val (.long p2), .second, .val (.int p3), .val (.int p4), .val (.int (2 : Int32)), .val (.long p0), .second, .val (.long t1), .second, .val (.long t2), .second, .val (.ref a294), .val (.ref b0), .val (.int v465), .val (.ref b3), .val (.ref a530), .val (.long t1), .second, .val (.long vlat), .second, .val (.long t1), .second] [(.long vlat), (.long t1)])) _
        refine g_lcmp X588 hx (hb hby at_228) ?_
        show Goes p.tables e below (T588.setTop (mkF m 229 #[.val (.long p0), .second, .val (.long p1), .second, .val (.long p2), .second, .val (.int p3), .val (.int p4), .val (.int (2 : Int32)), .val (.long p0), .second, .val (.long t1), .second, .val (.long t2), .second, .val (.ref a294), .val (.ref b0), .val (.int v465), .val (.ref b3), .val (.ref a530), .val (.long t1), .second, .val (.long vlat), .second, .val (.long t1), .second] [(.int (XT.cmpL t1 vlat))])) _
        have c229 : t1 = vlat := (by rw [hvlat, ht1]; exact (own_max2 p0 p1).symm)
        refine g_lif_ne X588 hx (hb hby at_229) (by decide) (pc' := 247) (by decide) (fun q => absurd c229 q) (fun _ => ?_)
        show Goes p.tables e below (T588.setTop (mkF m 232 #[.val (.long p0), .second, .val (.long p1), .second, .val (.long p2), .second, .val (.int p3), .val (.int p4), .val (.int (2 : Int32)), .val (.long p0), .second, .val (.long t1), .second, .val (.long t2), .second, .val (.ref a294), .val (.ref b0), .val (.int v465), .val (.ref b3), .val (.ref a530), .val (.long t1), .second, .val (.long vlat), .second, .val (.long t1), .second] [])) _
        refine g_aload X588 hx (hb hby at_232) rfl rfl ?_
        show Goes p.tables e below (T588.setTop (mkF m 234 #[.val (.long p0), .second, .val (.long p1), .second, .val (.long p2), .second, .val (.int p3), .val (.int p4), .val (.int (2 : Int32)), .val (.long p0), .second, .val (.long t1), .second, .val (.long t2), .second, .val (.ref a294), .val (.ref b0), .val (.int v465), .val (.ref b3), .val (.ref a530), .val (.long t1), .second, .val (.long vlat), .second, .val (.long t1), .second] [(.ref a530)])) _
        refine g_callV X588 hx hZ hown (by rw [hml]; rfl) e588 (K := "com/example/drongo/drongo/event/RotaryEvent") (hw _ (List.mem_of_getElem? (i := 39) rfl)) (hw _ (List.mem_of_getElem? (i := 40) rfl)) (hw _ (List.mem_of_getElem? (i := 42) rfl)) (hw _ (List.mem_of_getElem? (i := 41) rfl)) (hw _ (List.mem_of_getElem? (i := 14) rfl)) (hw _ (List.mem_of_getElem? (i := 43) rfl)) fx582 (rmL l Z a0 hw a530 h572 b552 [(.long p0), (.long t1)] (2 : Int32) 1 t1 rfl (by decide) rfl fx583 fx584) [] rfl [] rfl (lenOf pd_4 rfl) (hb hby at_234) (by decide) 0 (by decide) (by decide) (by first | decide | exact Nat.le_refl _) (by decide) (by decide) (fun v T590 L590 X590 hQ590 => ?_)
        obtain ⟨rfl, e590, rfl⟩ := hQ590
        have N591 := Fr.app N589 (Fr.nil h0.size)
        show Goes p.tables e below (T590.setTop (mkF m 237 #[.val (.long p0), .second, .val (.long p1), .second, .val (.long p2), .second, .val (.int p3), .val (.int p4), .val (.int (2 : Int32)), .val (.long p0), .second, .val (.long t1), .second, .val (.long t2), .second, .val (.ref a294), .val (.ref b0), .val (.int v465), .val (.ref b3), .val (.ref a530), .val (.long t1), .second, .val (.long vlat), .second, .val (.long t1), .second] [(.long t1)])) _
        refine g_lload X590 hx (hb hby at_237) rfl ?_
        show Goes p.tables e below (T590.setTop (mkF m 239 #[.val (.long p0), .second, .val (.long p1), .second, .val (.long p2), .second, .val (.int p3), .val (.int p4), .val (.int (2 : Int32)), .val (.long p0), .second, .val (.long t1), .second, .val (.long t2), .second, .val (.ref a294), .val (.ref b0), .val (.int v465), .val (.ref b3), .val (.ref a530), .val (.long t1), .second, .val (.long vlat), .second, .val (.long t1), .second] [(.long t1), (.long t1)])) _
        refine g_lcmp X590 hx (hb hby at_239) ?_
        show Goes p.tables e below (T590.setTop (mkF m 240 #[.val (.long p0), .second, .val (.long p1), .second, .val (.long p2), .second, .val (.int p3), .val (.int p4), .val (.int (2 : Int32)), .val (.long p0), .second, .val (.long t1), .second, .val (.long t2), .second, .val (.ref a294), .val (.ref b0), .val (.int v465), .val (.ref b3), .val (.ref a530), .val (.long t1), .second, .val (.long vlat), .second, .val (.long t1), .second] [(.int (XT.cmpL t1 t1))])) _
        have c240 : t1 = t1 := rfl
        refine g_lif_ne X590 hx (hb hby at_240) (by decide) (pc' := 247) (by decide) (fun q => absurd c240 q) (fun _ => ?_)
        show Goes p.tables e below (T590.setTop (mkF m 243 #[.val (.long p0), .second, .val (.long p1), .second, .val (.long p2), .second, .val (.int p3), .val (.int p4), .val (.int (2 : Int32)), .val (.long p0), .second, .val (.long t1), .second, .val (.long t2), .second, .val (.ref a294), .val (.ref b0), .val (.int v465), .val (.ref b3), .val (.ref a530), .val (.long t1), .second, .val (.long vlat), .second, .val (.long t1), .second] [])) _
        refine g_iconst X590 hx (1 : Int32) (hb hby at_243) rfl ?_
        show Goes p.tables e below (T590.setTop (mkF m 244 #[.val (.long p0), .second, .val (.long p1), .second, .val (.long p2), .second, .val (.int p3), .val (.int p4), .val (.int (2 : Int32)), .val (.long p0), .second, .val (.long t1), .second, .val (.long t2), .second, .val (.ref a294), .val (.ref b0), .val (.int v465), .val (.ref b3), .val (.ref a530), .val (.long t1), .second, .val (.long vlat), .second, .val (.long t1), .second] [(.int (1 : Int32))])) _
        refine g_goto X590 hx (hb hby at_244) (by decide) (pc' := 248) (by decide) ?_
        show Goes p.tables e below (T590.setTop (mkF m 248 #[.val (.long p0), .second, .val (.long p1), .second, .val (.long p2), .second, .val (.int p3), .val (.int p4), .val (.int (2 : Int32)), .val (.long p0), .second, .val (.long t1), .second, .val (.long t2), .second, .val (.ref a294), .val (.ref b0), .val (.int v465), .val (.ref b3), .val (.ref a530), .val (.long t1), .second, .val (.long vlat), .second, .val (.long t1), .second] [(.int (1 : Int32))])) _
        exact g_retZ X590 hx (hz := (by decide)) hret hlk (hb hby at_248) (by decide) (by decide) ⟨rfl, N591⟩
  · skip
    show Goes p.tables e below (T0.setTop (mkF m 9 #[.val (.long p0), .second, .val (.long p1), .second, .val (.long p2), .second, .val (.int p3), .val (.int p4), .unset, .unset, .unset, .unset, .unset, .unset, .unset, .unset, .unset, .unset, .unset, .unset, .unset, .unset, .unset, .unset, .unset, .unset] [(.int (3 : Int32))])) _
    refine g_istore X0 hx (hb hby at_9) (l' := #[.val (.long p0), .second, .val (.long p1), .second, .val (.long p2), .second, .val (.int p3), .val (.int p4), .val (.int (3 : Int32)), .unset, .unset, .unset, .unset, .unset, .unset, .unset, .unset, .unset, .unset, .unset, .unset, .unset, .unset, .unset, .unset, .unset]) rfl ?_
    show Goes p.tables e below (T0.setTop (mkF m 11 #[.val (.long p0), .second, .val (.long p1), .second, .val (.long p2), .second, .val (.int p3), .val (.int p4), .val (.int (3 : Int32)), .unset, .unset, .unset, .unset, .unset, .unset, .unset, .unset, .unset, .unset, .unset, .unset, .unset, .unset, .unset, .unset, .unset] [])) _
    refine g_lloadN X0 hx (hb hby at_11) rfl ?_
    show Goes p.tables e below (T0.setTop (mkF m 12 #[.val (.long p0), .second, .val (.long p1), .second, .val (.long p2), .second, .val (.int p3), .val (.int p4), .val (.int (3 : Int32)), .unset, .unset, .unset, .unset, .unset, .unset, .unset, .unset, .unset, .unset, .unset, .unset, .unset, .unset, .unset, .unset, .unset] [(.long p0)])) _
    refine g_lstore X0 hx (hb hby at_12) (l' := #[.val (.long p0), .second, .val (.long p1), .second, .val (.long p2), .second, .val (.int p3), .val (.int p4), .val (.int (3 : Int32)), .val (.long p0), .second, .unset, .unset, .unset, .unset, .unset, .unset, .unset, .unset, .unset, .unset, .unset, .unset, .unset, .unset, .unset]) rfl ?_
    show Goes p.tables e below (T0.setTop (mkF m 14 #[.val (.long p0), .second, .val (.long p1), .second, .val (.long p2), .second, .val (.int p3), .val (.int p4), .val (.int (3 : Int32)), .val (.long p0), .second, .unset, .unset, .unset, .unset, .unset, .unset, .unset, .unset, .unset, .unset, .unset, .unset, .unset, .unset, .unset] [])) _
    refine g_lload X0 hx (hb hby at_14) rfl ?_
    show Goes p.tables e below (T0.setTop (mkF m 16 #[.val (.long p0), .second, .val (.long p1), .second, .val (.long p2), .second, .val (.int p3), .val (.int p4), .val (.int (3 : Int32)), .val (.long p0), .second, .unset, .unset, .unset, .unset, .unset, .unset, .unset, .unset, .unset, .unset, .unset, .unset, .unset, .unset, .unset] [(.long p0)])) _
    refine g_lloadN X0 hx (hb hby at_16) rfl ?_
    show Goes p.tables e below (T0.setTop (mkF m 17 #[.val (.long p0), .second, .val (.long p1), .second, .val (.long p2), .second, .val (.int p3), .val (.int p4), .val (.int (3 : Int32)), .val (.long p0), .second, .unset, .unset, .unset, .unset, .unset, .unset, .unset, .unset, .unset, .unset, .unset, .unset, .unset, .unset, .unset] [(.long p1), (.long p0)])) _
    refine g_callS X0 hx hZ hown (by rw [hml]; rfl) e0 (hw _ (List.mem_of_getElem? (i := 1) rfl)) (hw _ (List.mem_of_getElem? (i := 2) rfl)) (hw _ (List.mem_of_getElem? (i := 3) rfl)) (hw _ (List.mem_of_getElem? (i := 4) rfl)) (rmX l Z a0 hw p0 p1 h0) [(.long p0), (.long p1)] rfl [] rfl (lenOf pd_1 rfl) (hb hby at_17) (by decide) 0 (by decide) (by decide) (by first | decide | exact Nat.le_refl _) (by decide) (by decide) (fun v T592 L592 X592 hQ592 => ?_)
    obtain ⟨rfl, e592, rfl⟩ := hQ592
    have N593 := Fr.app N0 (Fr.nil h0.size)
    show Goes p.tables e below (T592.setTop (mkF m 20 #[.val (.long p0), .second, .val (.long p1), .second, .val (.long p2), .second, .val (.int p3), .val (.int p4), .val (.int (3 : Int32)), .val (.long p0), .second, .unset, .unset, .unset, .unset, .unset, .unset, .unset, .unset, .unset, .unset, .unset, .unset, .unset, .unset, .unset] [(.long (maxV p0 p1))])) _
    obtain ⟨t1, ht1⟩ : ∃ z : Int64, z = (maxV p0 p1) := ⟨_, rfl⟩
    refine g_nameL ht1 ?_
    show Goes p.tables e below (T592.setTop (mkF m 20 #[.val (.long p0), .second, .val (.long p1), .second, .val (.long p2), .second, .val (.int p3), .val (.int p4), .val (.int (3 : Int32)), .val (.long p0), .second, .unset, .unset, .unset, .unset, .unset, .unset, .unset, .unset, .unset, .unset, .unset, .unset, .unset, .unset, .unset] [(.long t1)])) _
    refine g_lstore X592 hx (hb hby at_20) (l' := #[.val (.long p0), .second, .val (.long p1), .second, .val (.long p2), .second, .val (.int p3), .val (.int p4), .val (.int (3 : Int32)), .val (.long p0), .second, .val (.long t1), .second, .unset, .unset, .unset, .unset, .unset, .unset, .unset, .unset, .unset, .unset, .unset, .unset, .unset]) rfl ?_
    show Goes p.tables e below (T592.setTop (mkF m 22 #[.val (.long p0), .second, .val (.long p1), .second, .val (.long p2), .second, .val (.int p3), .val (.int p4), .val (.int (3 : Int32)), .val (.long p0), .second, .val (.long t1), .second, .unset, .unset, .unset, .unset, .unset, .unset, .unset, .unset, .unset, .unset, .unset, .unset, .unset] [])) _
    refine g_lload X592 hx (hb hby at_22) rfl ?_
    show Goes p.tables e below (T592.setTop (mkF m 24 #[.val (.long p0), .second, .val (.long p1), .second, .val (.long p2), .second, .val (.int p3), .val (.int p4), .val (.int (3 : Int32)), .val (.long p0), .second, .val (.long t1), .second, .unset, .unset, .unset, .unset, .unset, .unset, .unset, .unset, .unset, .unset, .unset, .unset, .unset] [(.long t1)])) _
    refine g_lload X592 hx (hb hby at_24) rfl ?_
    show Goes p.tables e below (T592.setTop (mkF m 26 #[.val (.long p0), .second, .val (.long p1), .second, .val (.long p2), .second, .val (.int p3), .val (.int p4), .val (.int (3 : Int32)), .val (.long p0), .second, .val (.long t1), .second, .unset, .unset, .unset, .unset, .unset, .unset, .unset, .unset, .unset, .unset, .unset, .unset, .unset] [(.long p2), (.long t1)])) _
    refine g_callS X592 hx hZ hown (by rw [hml]; rfl) e592 (hw _ (List.mem_of_getElem? (i := 1) rfl)) (hw _ (List.mem_of_getElem? (i := 2) rfl)) (hw _ (List.mem_of_getElem? (i := 3) rfl)) (hw _ (List.mem_of_getElem? (i := 4) rfl)) (rmX l Z a0 hw t1 p2 h0) [(.long t1), (.long p2)] rfl [] rfl (lenOf pd_1 rfl) (hb hby at_26) (by decide) 0 (by decide) (by decide) (by first | decide | exact Nat.le_refl _) (by decide) (by decide) (fun v T594 L594 X594 hQ594 => ?_)
    obtain ⟨rfl, e594, rfl⟩ := hQ594
    have N595 := Fr.app N593 (Fr.nil h0.size)
    show Goes p.tables e below (T594.setTop (mkF m 29 #[.val (.long p0), .second, .val (.long p1), .second, .val (.long p2), .second, .val (.int p3), .val (.int p4), .val (.int (3 : Int32)), .val (.long p0), .second, .val (.long t1), .second, .unset, .unset, .unset, .unset, .unset, .unset, .unset, .unset, .unset, .unset, .unset, .unset, .unset] [(.long (maxV t1 p2))])) _
    obtain ⟨t2, ht2⟩ : ∃ z : Int64, z = (maxV t1 p2) := ⟨_, rfl⟩
    refine g_nameL ht2 ?_
    show Goes p.tables e below (T594.setTop (mkF m 29 #[.val (.long p0), .second, .val (.long p1), .second, .val (.long p2), .second, .val (.int p3), .val (.int p4), .val (.int (3 : Int32)), .val (.long p0), .second, .val (.long t1), .second, .unset, .unset, .unset, .unset, .unset, .unset, .unset, .unset, .unset, .unset, .unset, .unset, .unset] [(.long t2)])) _
    refine g_lstore X594 hx (hb hby at_29) (l' := #[.val (.long p0), .second, .val (.long p1), .second, .val (.long p2), .second, .val (.int p3), .val (.int p4), .val (.int (3 : Int32)), .val (.long p0), .second, .val (.long t1), .second, .val (.long t2), .second, .unset, .unset, .unset, .unset, .unset, .unset, .unset, .unset, .unset, .unset, .unset]) rfl ?_
    show Goes p.tables e below (T594.setTop (mkF m 31 #[.val (.long p0), .second, .val (.long p1), .second, .val (.long p2), .second, .val (.int p3), .val (.int p4), .val (.int (3 : Int32)), .val (.long p0), .second, .val (.long t1), .second, .val (.long t2), .second, .unset, .unset, .unset, .unset, .unset, .unset, .unset, .unset, .unset, .unset, .unset] [])) _
    refine g_iload X594 hx (hb hby at_31) rfl ?_
    show Goes p.tables e below (T594.setTop (mkF m 33 #[.val (.long p0), .second, .val (.long p1), .second, .val (.long p2), .second, .val (.int p3), .val (.int p4), .val (.int (3 : Int32)), .val (.long p0), .second, .val (.long t1), .second, .val (.long t2), .second, .unset, .unset, .unset, .unset, .unset, .unset, .unset, .unset, .unset, .unset, .unset] [(.int (3 : Int32))])) _
    refine g_newarr X594 hx hZ e594 (hw _ (List.mem_of_getElem? (i := 5) rfl)) (hb hby at_33) (n := 3) (by decide) 3 (by omega) (by decide) (by decide) (by decide) (ad := "[J") (by decide) rfl (fun T596 h596 a596 ga596 X596 e596 Ex596 Aa596 Ea596 => ?_)
    have ne597 : b0 ≠ a596 := Nat.ne_of_lt (by rw [ga596]; exact Eb0.lt)
    have ne598 : b1 ≠ a596 := Nat.ne_of_lt (by rw [ga596]; exact Eb1.lt)
    have ne599 : b2 ≠ a596 := Nat.ne_of_lt (by rw [ga596]; exact Eb2.lt)
    have ne600 : b3 ≠ a596 := Nat.ne_of_lt (by rw [ga596]; exact Eb3.lt)
    have ge601 : h0.size ≤ a596 := by rw [ga596]; exact Z0
    have fx602 : Sta Z h596 "com/example/drongo/drongo/event/RotaryEvent$Knob" "NAVIGATION" "Lcom/example/drongo/drongo/event/RotaryEvent$Knob;" (.ref b0) := Sta.ext Ex596 Sb0
    have fx603 : Exa Z h596 b0 "com/example/drongo/drongo/event/RotaryEvent$Knob" := Exa.ext Ex596 Eb0
    have fx604 : Sta Z h596 "com/example/drongo/drongo/event/Display" "CLUSTER" "Lcom/example/drongo/drongo/event/Display;" (.ref b1) := Sta.ext Ex596 Sb1
    have fx605 : Exa Z h596 b1 "com/example/drongo/drongo/event/Display" := Exa.ext Ex596 Eb1
    have fx606 : Sta Z h596 "com/example/drongo/drongo/event/RotaryEvent$Knob" "VOLUME" "Lcom/example/drongo/drongo/event/RotaryEvent$Knob;" (.ref b2) := Sta.ext Ex596 Sb2
    have fx607 : Exa Z h596 b2 "com/example/drongo/drongo/event/RotaryEvent$Knob" := Exa.ext Ex596 Eb2
    have fx608 : Sta Z h596 "com/example/drongo/drongo/event/Display" "MAIN" "Lcom/example/drongo/drongo/event/Display;" (.ref b3) := Sta.ext Ex596 Sb3
    have fx609 : Exa Z h596 b3 "com/example/drongo/drongo/event/Display" := Exa.ext Ex596 Eb3
    have Z610 : h0.size ≤ h596.size := Nat.le_trans Z0 Ex596.1
    have fx611 : Ar Z h596 a596 .long [(.long (0 : Int64)), (.long (0 : Int64)), (.long (0 : Int64))] := Aa596
    show Goes p.tables e below (T596.setTop (mkF m 35 #[.val (.long p0), .second, .val (.long p1), .second, .val (.long p2), .second, .val (.int p3), .val (.int p4), .val (.int (3 : Int32)), .val (.long p0), .second, .val (.long t1), .second, .val (.long t2), .second, .unset, .unset, .unset, .unset, .unset, .unset, .unset, .unset, .unset, .unset, .unset] [(.ref a596)])) _
    refine g_astore X596 hx (hb hby at_35) rfl (l' := #[.val (.long p0), .second, .val (.long p1), .second, .val (.long p2), .second, .val (.int p3), .val (.int p4), .val (.int (3 : Int32)), .val (.long p0), .second, .val (.long t1), .second, .val (.long t2), .second, .val (.ref a596), .unset, .unset, .unset, .unset, .unset, .unset, .unset, .unset, .unset, .unset]) rfl ?_
    show Goes p.tables e below (T596.setTop (mkF m 37 #[.val (.long p0), .second, .val (.long p1), .second, .val (.long p2), .second, .val (.int p3), .val (.int p4), .val (.int (3 : Int32)), .val (.long p0), .second, .val (.long t1), .second, .val (.long t2), .second, .val (.ref a596), .unset, .unset, .unset, .unset, .unset, .unset, .unset, .unset, .unset, .unset] [])) _
    refine g_aload X596 hx (hb hby at_37) rfl rfl ?_
    show Goes p.tables e below (T596.setTop (mkF m 39 #[.val (.long p0), .second, .val (.long p1), .second, .val (.long p2), .second, .val (.int p3), .val (.int p4), .val (.int (3 : Int32)), .val (.long p0), .second, .val (.long t1), .second, .val (.long t2), .second, .val (.ref a596), .unset, .unset, .unset, .unset, .unset, .unset, .unset, .unset, .unset, .unset] [(.ref a596)])) _
    refine g_iconst X596 hx (0 : Int32) (hb hby at_39) rfl ?_
    show Goes p.tables e below (T596.setTop (mkF m 40 #[.val (.long p0), .second, .val (.long p1), .second, .val (.long p2), .second, .val (.int p3), .val (.int p4), .val (.int (3 : Int32)), .val (.long p0), .second, .val (.long t1), .second, .val (.long t2), .second, .val (.ref a596), .unset, .unset, .unset, .unset, .unset, .unset, .unset, .unset, .unset, .unset] [(.int (0 : Int32)), (.ref a596)])) _
    refine g_lload X596 hx (hb hby at_40) rfl ?_
    show Goes p.tables e below (T596.setTop (mkF m 42 #[.val (.long p0), .second, .val (.long p1), .second, .val (.long p2), .second, .val (.int p3), .val (.int p4), .val (.int (3 : Int32)), .val (.long p0), .second, .val (.long t1), .second, .val (.long t2), .second, .val (.ref a596), .unset, .unset, .unset, .unset, .unset, .unset, .unset, .unset, .unset, .unset] [(.long p0), (.int (0 : Int32)), (.ref a596)])) _
    refine g_lastore X596 hx hZ e596 fx611 0 (by decide) (by show 0 < 3; decide) (hb hby at_42) (fun T612 h612 X612 e612 W612 A612 => ?_)
    have fx613 : Sta Z h612 "com/example/drongo/drongo/event/RotaryEvent$Knob" "NAVIGATION" "Lcom/example/drongo/drongo/event/RotaryEvent$Knob;" (.ref b0) := Sta.wr W612 fx602
    have fx614 : Exa Z h612 b0 "com/example/drongo/drongo/event/RotaryEvent$Knob" := Exa.wr W612 fx603
    have fx615 : Sta Z h612 "com/example/drongo/drongo/event/Display" "CLUSTER" "Lcom/example/drongo/drongo/event/Display;" (.ref b1) := Sta.wr W612 fx604
    have fx616 : Exa Z h612 b1 "com/example/drongo/drongo/event/Display" := Exa.wr W612 fx605
    have fx617 : Sta Z h612 "com/example/drongo/drongo/event/RotaryEvent$Knob" "VOLUME" "Lcom/example/drongo/drongo/event/RotaryEvent$Knob;" (.ref b2) := Sta.wr W612 fx606
    have fx618 : Exa Z h612 b2 "com/example/drongo/drongo/event/RotaryEvent$Knob" := Exa.wr W612 fx607
    have fx619 : Sta Z h612 "com/example/drongo/drongo/event/Display" "MAIN" "Lcom/example/drongo/drongo/event/Display;" (.ref b3) := Sta.wr W612 fx608
    have fx620 : Exa Z h612 b3 "com/example/drongo/drongo/event/Display" := Exa.wr W612 fx609
    have fx621 : Exa Z h612 a596 "[J" := Exa.wr W612 Ea596
    have fx622 : Ar Z h612 a596 .long [(.long p0), (.long (0 : Int64)), (.long (0 : Int64))] := A612
    have N623 := Fr.snoc X612 N595 ge601
    have Z624 : h0.size ≤ h612.size := by rw [W612.size]; exact Z610
    show Goes p.tables e below (T612.setTop (mkF m 43 #[.val (.long p0), .second, .val (.long p1), .second, .val (.long p2), .second, .val (.int p3), .val (.int p4), .val (.int (3 : Int32)), .val (.long p0), .second, .val (.long t1), .second, .val (.long t2), .second, .val (.ref a596), .unset, .unset, .unset, .unset, .unset, .unset, .unset, .unset, .unset, .unset] [])) _
    refine g_iload X612 hx (hb hby at_43) rfl ?_
    show Goes p.tables e below (T612.setTop (mkF m 45 #[.val (.long p0), .second, .val (.long p1), .second, .val (.long p2), .second, .val (.int p3), .val (.int p4), .val (.int (3 : Int32)), .val (.long p0), .second, .val (.long t1), .second, .val (.long t2), .second, .val (.ref a596), .unset, .unset, .unset, .unset, .unset, .unset, .unset, .unset, .unset, .unset] [(.int (3 : Int32))])) _
    refine g_iconst X612 hx (1 : Int32) (hb hby at_45) rfl ?_
    show Goes p.tables e below (T612.setTop (mkF m 46 #[.val (.long p0), .second, .val (.long p1), .second, .val (.long p2), .second, .val (.int p3), .val (.int p4), .val (.int (3 : Int32)), .val (.long p0), .second, .val (.long t1), .second, .val (.long t2), .second, .val (.ref a596), .unset, .unset, .unset, .unset, .unset, .unset, .unset, .unset, .unset, .unset] [(.int (1 : Int32)), (.int (3 : Int32))])) _
    refine g_icmp_le X612 hx (hb hby at_46) (by decide) (pc' := 55) (by decide) (fun q => absurd (by decide) q) (fun _ => ?_)
    show Goes p.tables e below (T612.setTop (mkF m 49 #[.val (.long p0), .second, .val (.long p1), .second, .val (.long p2), .second, .val (.int p3), .val (.int p4), .val (.int (3 : Int32)), .val (.long p0), .second, .val (.long t1), .second, .val (.long t2), .second, .val (.ref a596), .unset, .unset, .unset, .unset, .unset, .unset, .unset, .unset, .unset, .unset] [])) _
    refine g_aload X612 hx (hb hby at_49) rfl rfl ?_
    show Goes p.tables e below (T612.setTop (mkF m 51 #[.val (.long p0), .second, .val (.long p1), .second, .val (.long p2), .second, .val (.int p3), .val (.int p4), .val (.int (3 : Int32)), .val (.long p0), .second, .val (.long t1), .second, .val (.long t2), .second, .val (.ref a596), .unset, .unset, .unset, .unset, .unset, .unset, .unset, .unset, .unset, .unset] [(.ref a596)])) _
    refine g_iconst X612 hx (1 : Int32) (hb hby at_51) rfl ?_
    show Goes p.tables e below (T612.setTop (mkF m 52 #[.val (.long p0), .second, .val (.long p1), .second, .val (.long p2), .second, .val (.int p3), .val (.int p4), .val (.int (3 : Int32)), .val (.long p0), .second, .val (.long t1), .second, .val (.long t2), .second, .val (.ref a596), .unset, .unset, .unset, .unset, .unset, .unset, .unset, .unset, .unset, .unset] [(.int (1 : Int32)), (.ref a596)])) _
    refine g_lload X612 hx (hb hby at_52) rfl ?_
    show Goes p.tables e below (T612.setTop (mkF m 54 #[.val (.long p0), .second, .val (.long p1), .second, .val (.long p2), .second, .val (.int p3), .val (.int p4), .val (.int (3 : Int32)), .val (.long p0), .second, .val (.long t1), .second, .val (.long t2), .second, .val (.ref a596), .unset, .unset, .unset, .unset, .unset, .unset, .unset, .unset, .unset, .unset] [(.long t1), (.int (1 : Int32)), (.ref a596)])) _
    refine g_lastore X612 hx hZ e612 fx622 1 (by decide) (by show 1 < 3; decide) (hb hby at_54) (fun T625 h625 X625 e625 W625 A625 => ?_)
    have fx626 : Sta Z h625 "com/example/drongo/drongo/event/RotaryEvent$Knob" "NAVIGATION" "Lcom/example/drongo/drongo/event/RotaryEvent$Knob;" (.ref b0) := Sta.wr W625 fx613
    have fx627 : Exa Z h625 b0 "com/example/drongo/drongo/event/RotaryEvent$Knob" := Exa.wr W625 fx614
    have fx628 : Sta Z h625 "com/example/drongo/drongo/event/Display" "CLUSTER" "Lcom/example/drongo/drongo/event/Display;" (.ref b1) := Sta.wr W625 fx615
    have fx629 : Exa Z h625 b1 "com/example/drongo/drongo/event/Display" := Exa.wr W625 fx616
    have fx630 : Sta Z h625 "com/example/drongo/drongo/event/RotaryEvent$Knob" "VOLUME" "Lcom/example/drongo/drongo/event/RotaryEvent$Knob;" (.ref b2) := Sta.wr W625 fx617
    have fx631 : Exa Z h625 b2 "com/example/drongo/drongo/event/RotaryEvent$Knob" := Exa.wr W625 fx618
    have fx632 : Sta Z h625 "com/example/drongo/drongo/event/Display" "MAIN" "Lcom/example/drongo/drongo/event/Display;" (.ref b3) := Sta.wr W625 fx619
    have fx633 : Exa Z h625 b3 "com/example/drongo/drongo/event/Display" := Exa.wr W625 fx620
    have fx634 : Exa Z h625 a596 "[J" := Exa.wr W625 fx621
    have fx635 : Ar Z h625 a596 .long [(.long p0), (.long t1), (.long (0 : Int64))] := A625
    have N636 := Fr.snoc X625 N623 ge601
    have Z637 : h0.size ≤ h625.size := by rw [W625.size]; exact Z624
    show Goes p.tables e below (T625.setTop (mkF m 55 #[.val (.long p0), .second, .val (.long p1), .second, .val (.long p2), .second, .val (.int p3), .val (.int p4), .val (.int (3 : Int32)), .val (.long p0), .second, .val (.long t1), .second, .val (.long t2), .second, .val (.ref a596), .unset, .unset, .unset, .unset, .unset, .unset, .unset, .unset, .unset, .unset] [])) _
    refine g_iload X625 hx (hb hby at_55) rfl ?_
    show Goes p.tables e below (T625.setTop (mkF m 57 #[.val (.long p0), .second, .val (.long p1), .second, .val (.long p2), .second, .val (.int p3), .val (.int p4), .val (.int (3 : Int32)), .val (.long p0), .second, .val (.long t1), .second, .val (.long t2), .second, .val (.ref a596), .unset, .unset, .unset, .unset, .unset, .unset, .unset, .unset, .unset, .unset] [(.int (3 : Int32))])) _
    refine g_iconst X625 hx (2 : Int32) (hb hby at_57) rfl ?_
    show Goes p.tables e below (T625.setTop (mkF m 58 #[.val (.long p0), .second, .val (.long p1), .second, .val (.long p2), .second, .val (.int p3), .val (.int p4), .val (.int (3 : Int32)), .val (.long p0), .second, .val (.long t1), .second, .val (.long t2), .second, .val (.ref a596), .unset, .unset, .unset, .unset, .unset, .unset, .unset, .unset, .unset, .unset] [(.int (2 : Int32)), (.int (3 : Int32))])) _
    refine g_icmp_le X625 hx (hb hby at_58) (by decide) (pc' := 67) (by decide) (fun q => absurd (by decide) q) (fun _ => ?_)
    show Goes p.tables e below (T625.setTop (mkF m 61 #[.val (.long p0), .second, .val (.long p1), .second, .val (.long p2), .second, .val (.int p3), .val (.int p4), .val (.int (3 : Int32)), .val (.long p0), .second, .val (.long t1), .second, .val (.long t2), .second, .val (.ref a596), .unset, .unset, .unset, .unset, .unset, .unset, .unset, .unset, .unset, .unset] [])) _
    refine g_aload X625 hx (hb hby at_61) rfl rfl ?_
    show Goes p.tables e below (T625.setTop (mkF m 63 #[.val (.long p0), .second, .val (.long p1), .second, .val (.long p2), .second, .val (.int p3), .val (.int p4), .val (.int (3 : Int32)), .val (.long p0), .second, .val (.long t1), .second, .val (.long t2), .second, .val (.ref a596), .unset, .unset, .unset, .unset, .unset, .unset, .unset, .unset, .unset, .unset] [(.ref a596)])) _
    refine g_iconst X625 hx (2 : Int32) (hb hby at_63) rfl ?_
    show Goes p.tables e below (T625.setTop (mkF m 64 #[.val (.long p0), .second, .val (.long p1), .second, .val (.long p2), .second, .val (.int p3), .val (.int p4), .val (.int (3 : Int32)), .val (.long p0), .second, .val (.long t1), .second, .val (.long t2), .second, .val (.ref a596), .unset, .unset, .unset, .unset, .unset, .unset, .unset, .unset, .unset, .unset] [(.int (2 : Int32)), (.ref a596)])) _
    refine g_lload X625 hx (hb hby at_64) rfl ?_
    show Goes p.tables e below (T625.setTop (mkF m 66 #[.val (.long p0), .second, .val (.long p1), .second, .val (.long p2), .second, .val (.int p3), .val (.int p4), .val (.int (3 : Int32)), .val (.long p0), .second, .val (.long t1), .second, .val (.long t2), .second, .val (.ref a596), .unset, .unset, .unset, .unset, .unset, .unset, .unset, .unset, .unset, .unset] [(.long t2), (.int (2 : Int32)), (.ref a596)])) _
    refine g_lastore X625 hx hZ e625 fx635 2 (by decide) (by show 2 < 3; decide) (hb hby at_66) (fun T638 h638 X638 e638 W638 A638 => ?_)
    have fx639 : Sta Z h638 "com/example/drongo/drongo/event/RotaryEvent$Knob" "NAVIGATION" "Lcom/example/drongo/drongo/event/RotaryEvent$Knob;" (.ref b0) := Sta.wr W638 fx626
    have fx640 : Exa Z h638 b0 "com/example/drongo/drongo/event/RotaryEvent$Knob" := Exa.wr W638 fx627
    have fx641 : Sta Z h638 "com/example/drongo/drongo/event/Display" "CLUSTER" "Lcom/example/drongo/drongo/event/Display;" (.ref b1) := Sta.wr W638 fx628
    have fx642 : Exa Z h638 b1 "com/example/drongo/drongo/event/Display" := Exa.wr W638 fx629
    have fx643 : Sta Z h638 "com/example/drongo/drongo/event/RotaryEvent$Knob" "VOLUME" "Lcom/example/drongo/drongo/event/RotaryEvent$Knob;" (.ref b2) := Sta.wr W638 fx630
    have fx644 : Exa Z h638 b2 "com/example/drongo/drongo/event/RotaryEvent$Knob" := Exa.wr W638 fx631
    have fx645 : Sta Z h638 "com/example/drongo/drongo/event/Display" "MAIN" "Lcom/example/drongo/drongo/event/Display;" (.ref b3) := Sta.wr W638 fx632
    have fx646 : Exa Z h638 b3 "com/example/drongo/drongo/event/Display" := Exa.wr W638 fx633
    have fx647 : Exa Z h638 a596 "[J" := Exa.wr W638 fx634
    have fx648 : Ar Z h638 a596 .long [(.long p0), (.long t1), (.long t2)] := A638
    have N649 := Fr.snoc X638 N636 ge601
    have Z650 : h0.size ≤ h638.size := by rw [W638.size]; exact Z637
    show Goes p.tables e below (T638.setTop (mkF m 67 #[.val (.long p0), .second, .val (.long p1), .second, .val (.long p2), .second, .val (.int p3), .val (.int p4), .val (.int (3 : Int32)), .val (.long p0), .second, .val (.long t1), .second, .val (.long t2), .second, .val (.ref a596), .unset, .unset, .unset, .unset, .unset, .unset, .unset, .unset, .unset, .unset] [])) _
    refine g_iload X638 hx (hb hby at_67) rfl ?_
    show Goes p.tables e below (T638.setTop (mkF m 69 #[.val (.long p0), .second, .val (.long p1), .second, .val (.long p2), .second, .val (.int p3), .val (.int p4), .val (.int (3 : Int32)), .val (.long p0), .second, .val (.long t1), .second, .val (.long t2), .second, .val (.ref a596), .unset, .unset, .unset, .unset, .unset, .unset, .unset, .unset, .unset, .unset] [(.int p4)])) _
    refine g_iconst X638 hx (1 : Int32) (hb hby at_69) rfl ?_
    show Goes p.tables e below (T638.setTop (mkF m 70 #[.val (.long p0), .second, .val (.long p1), .second, .val (.long p2), .second, .val (.int p3), .val (.int p4), .val (.int (3 : Int32)), .val (.long p0), .second, .val (.long t1), .second, .val (.long t2), .second, .val (.ref a596), .unset, .unset, .unset, .unset, .unset, .unset, .unset, .unset, .unset, .unset] [(.int (1 : Int32)), (.int p4)])) _
    refine g_iand X638 hx (hb hby at_70) ?_
    show Goes p.tables e below (T638.setTop (mkF m 71 #[.val (.long p0), .second, .val (.long p1), .second, .val (.long p2), .second, .val (.int p3), .val (.int p4), .val (.int (3 : Int32)), .val (.long p0), .second, .val (.long t1), .second, .val (.long t2), .second, .val (.ref a596), .unset, .unset, .unset, .unset, .unset, .unset, .unset, .unset, .unset, .unset] [(.int (p4 &&& (1 : Int32)))])) _
    refine g_if_eq X638 hx (hb hby at_71) (by decide) (pc' := 80) (by decide) (fun c71 => ?_) (fun c71 => ?_)
    · skip
      show Goes p.tables e below (T638.setTop (mkF m 80 #[.val (.long p0), .second, .val (.long p1), .second, .val (.long p2), .second, .val (.int p3), .val (.int p4), .val (.int (3 : Int32)), .val (.long p0), .second, .val (.long t1), .second, .val (.long t2), .second, .val (.ref a596), .unset, .unset, .unset, .unset, .unset, .unset, .unset, .unset, .unset, .unset] [])) _
      refine g_getS X638 hx hZ hown e638 (host := "") (Or.inl (hw _ (List.mem_of_getElem? (i := 44) rfl))) fx643 (hb hby at_80) (fun T651 X651 e651 => ?_)
      show Goes p.tables e below (T651.setTop (mkF m 83 #[.val (.long p0), .second, .val (.long p1), .second, .val (.long p2), .second, .val (.int p3), .val (.int p4), .val (.int (3 : Int32)), .val (.long p0), .second, .val (.long t1), .second, .val (.long t2), .second, .val (.ref a596), .unset, .unset, .unset, .unset, .unset, .unset, .unset, .unset, .unset, .unset] [(.ref b2)])) _
      refine g_astore X651 hx (hb hby at_83) rfl (l' := #[.val (.long p0), .second, .val (.long p1), .second, .val (.long p2), .second, .val (.int p3), .val (.int p4), .val (.int (3 : Int32)), .val (.long p0), .second, .val (.long t1), .second, .val (.long t2), .second, .val (.ref a596), .val (.ref b2), .unset, .unset, .unset, .unset, .unset, .unset, .unset, .unset, .unset]) rfl ?_
      show Goes p.tables e below (T651.setTop (mkF m 85 #[.val (.long p0), .second, .val (.long p1), .second, .val (.long p2), .second, .val (.int p3), .val (.int p4), .val (.int (3 : Int32)), .val (.long p0), .second, .val (.long t1), .second, .val (.long t2), .second, .val (.ref a596), .val (.ref b2), .unset, .unset, .unset, .unset, .unset, .unset, .unset, .unset, .unset] [])) _
      refine g_iload X651 hx (hb hby at_85) rfl ?_
      show Goes p.tables e below (T651.setTop (mkF m 87 #[.val (.long p0), .second, .val (.long p1), .second, .val (.long p2), .second, .val (.int p3), .val (.int p4), .val (.int (3 : Int32)), .val (.long p0), .second, .val (.long t1), .second, .val (.long t2), .second, .val (.ref a596), .val (.ref b2), .unset, .unset, .unset, .unset, .unset, .unset, .unset, .unset, .unset] [(.int p4)])) _
      refine g_iconst X651 hx (2 : Int32) (hb hby at_87) rfl ?_
      show Goes p.tables e below (T651.setTop (mkF m 88 #[.val (.long p0), .second, .val (.long p1), .second, .val (.long p2), .second, .val (.int p3), .val (.int p4), .val (.int (3 : Int32)), .val (.long p0), .second, .val (.long t1), .second, .val (.long t2), .second, .val (.ref a596), .val (.ref b2), .unset, .unset, .unset, .unset, .unset, .unset, .unset, .unset, .unset] [(.int (2 : Int32)), (.int p4)])) _
      refine g_iand X651 hx (hb hby at_88) ?_
      show Goes p.tables e below (T651.setTop (mkF m 89 #[.val (.long p0), .second, .val (.long p1), .second, .val (.long p2), .second, .val (.int p3), .val (.int p4), .val (.int (3 : Int32)), .val (.long p0), .second, .val (.long t1), .second, .val (.long t2), .second, .val (.ref a596), .val (.ref b2), .unset, .unset, .unset, .unset, .unset, .unset, .unset, .unset, .unset] [(.int (p4 &&& (2 : Int32)))])) _
      obtain ⟨v652, hv652⟩ : ∃ z : Int32, z = (if (p4 &&& (2 : Int32)) = 0 then (0 : Int32) else (1 : Int32)) := ⟨_, rfl⟩
      refine Goes.join (S' := T651.setTop (mkF m 97 #[.val (.long p0), .second, .val (.long p1), .second, .val (.long p2), .second, .val (.int p3), .val (.int p4), .val (.int (3 : Int32)), .val (.long p0), .second, .val (.long t1), .second, .val (.long t2), .second, .val (.ref a596), .val (.ref b2), .unset, .unset, .unset, .unset, .unset, .unset, .unset, .unset, .unset] [(.int v652)])) (fun J => ?_) ?_
      · skip
        refine g_if_eq X651 hx (hb hby at_89) (by decide) (pc' := 96) (by decide) (fun c89 => ?_) (fun c89 => ?_)
        · skip
          show Goes p.tables e below (T651.setTop (mkF m 96 #[.val (.long p0), .second, .val (.long p1), .second, .val (.long p2), .second, .val (.int p3), .val (.int p4), .val (.int (3 : Int32)), .val (.long p0), .second, .val (.long t1), .second, .val (.long t2), .second, .val (.ref a596), .val (.ref b2), .unset, .unset, .unset, .unset, .unset, .unset, .unset, .unset, .unset] [])) _
          refine g_iconst X651 hx (0 : Int32) (hb hby at_96) rfl ?_
          rw [show v652 = ((0 : Int32)) from by rw [hv652, if_pos c89]] at J
          exact J
        · skip
          show Goes p.tables e below (T651.setTop (mkF m 92 #[.val (.long p0), .second, .val (.long p1), .second, .val (.long p2), .second, .val (.int p3), .val (.int p4), .val (.int (3 : Int32)), .val (.long p0), .second, .val (.long t1), .second, .val (.long t2), .second, .val (.ref a596), .val (.ref b2), .unset, .unset, .unset, .unset, .unset, .unset, .unset, .unset, .unset] [])) _
          refine g_iconst X651 hx (1 : Int32) (hb hby at_92) rfl ?_
          show Goes p.tables e below (T651.setTop (mkF m 93 #[.val (.long p0), .second, .val (.long p1), .second, .val (.long p2), .second, .val (.int p3), .val (.int p4), .val (.int (3 : Int32)), .val (.long p0), .second, .val (.long t1), .second, .val (.long t2), .second, .val (.ref a596), .val (.ref b2), .unset, .unset, .unset, .unset, .unset, .unset, .unset, .unset, .unset] [(.int (1 : Int32))])) _
          refine g_goto X651 hx (hb hby at_93) (by decide) (pc' := 97) (by decide) ?_
          rw [show v652 = ((1 : Int32)) from by rw [hv652, if_neg c89]] at J
          exact J
      show Goes p.tables e below (T651.setTop (mkF m 97 #[.val (.long p0), .second, .val (.long p1), .second, .val (.long p2), .second, .val (.int p3), .val (.int p4), .val (.int (3 : Int32)), .val (.long p0), .second, .val (.long t1), .second, .val (.long t2), .second, .val (.ref a596), .val (.ref b2), .unset, .unset, .unset, .unset, .unset, .unset, .unset, .unset, .unset] [(.int v652)])) _
      refine g_istore X651 hx (hb hby at_97) (l' := #[.val (.long p0), .second, .val (.long p1), .second, .val (.long p2), .second, .val (.int p3), .val (.int p4), .val (.int (3 : Int32)), .val (.long p0), .second, .val (.long t1), .second, .val (.long t2), .second, .val (.ref a596), .val (.ref b2), .val (.int v652), .unset, .unset, .unset, .unset, .unset, .unset, .unset, .unset]) rfl ?_
      show Goes p.tables e below (T651.setTop (mkF m 99 #[.val (.long p0), .second, .val (.long p1), .second, .val (.long p2), .second, .val (.int p3), .val (.int p4), .val (.int (3 : Int32)), .val (.long p0), .second, .val (.long t1), .second, .val (.long t2), .second, .val (.ref a596), .val (.ref b2), .val (.int v652), .unset, .unset, .unset, .unset, .unset, .unset, .unset, .unset] [])) _
      refine g_iload X651 hx (hb hby at_99) rfl ?_
      show Goes p.tables e below (T651.setTop (mkF m 101 #[.val (.long p0), .second, .val (.long p1), .second, .val (.long p2), .second, .val (.int p3), .val (.int p4), .val (.int (3 : Int32)), .val (.long p0), .second, .val (.long t1), .second, .val (.long t2), .second, .val (.ref a596), .val (.ref b2), .val (.int v652), .unset, .unset, .unset, .unset, .unset, .unset, .unset, .unset] [(.int p4)])) _
      refine g_iconst X651 hx (4 : Int32) (hb hby at_101) rfl ?_
      show Goes p.tables e below (T651.setTop (mkF m 102 #[.val (.long p0), .second, .val (.long p1), .second, .val (.long p2), .second, .val (.int p3), .val (.int p4), .val (.int (3 : Int32)), .val (.long p0), .second, .val (.long t1), .second, .val (.long t2), .second, .val (.ref a596), .val (.ref b2), .val (.int v652), .unset, .unset, .unset, .unset, .unset, .unset, .unset, .unset] [(.int (4 : Int32)), (.int p4)])) _
      refine g_iand X651 hx (hb hby at_102) ?_
      show Goes p.tables e below (T651.setTop (mkF m 103 #[.val (.long p0), .second, .val (.long p1), .second, .val (.long p2), .second, .val (.int p3), .val (.int p4), .val (.int (3 : Int32)), .val (.long p0), .second, .val (.long t1), .second, .val (.long t2), .second, .val (.ref a596), .val (.ref b2), .val (.int v652), .unset, .unset, .unset, .unset, .unset, .unset, .unset, .unset] [(.int (p4 &&& (4 : Int32)))])) _
      refine g_if_eq X651 hx (hb hby at_103) (by decide) (pc' := 112) (by decide) (fun c103 => ?_) (fun c103 => ?_)
      · skip
        show Goes p.tables e below (T651.setTop (mkF m 112 #[.val (.long p0), .second, .val (.long p1), .second, .val (.long p2), .second, .val (.int p3), .val (.int p4), .val (.int (3 : Int32)), .val (.long p0), .second, .val (.long t1), .second, .val (.long t2), .second, .val (.ref a596), .val (.ref b2), .val (.int v652), .unset, .unset, .unset, .unset, .unset, .unset, .unset, .unset] [])) _
        refine g_getS X651 hx hZ hown e651 (host := "") (Or.inl (hw _ (List.mem_of_getElem? (i := 9) rfl))) fx641 (hb hby at_112) (fun T653 X653 e653 => ?_)
        show Goes p.tables e below (T653.setTop (mkF m 115 #[.val (.long p0), .second, .val (.long p1), .second, .val (.long p2), .second, .val (.int p3), .val (.int p4), .val (.int (3 : Int32)), .val (.long p0), .second, .val (.long t1), .second, .val (.long t2), .second, .val (.ref a596), .val (.ref b2), .val (.int v652), .unset, .unset, .unset, .unset, .unset, .unset, .unset, .unset] [(.ref b1)])) _
        refine g_astore X653 hx (hb hby at_115) rfl (l' := #[.val (.long p0), .second, .val (.long p1), .second, .val (.long p2), .second, .val (.int p3), .val (.int p4), .val (.int (3 : Int32)), .val (.long p0), .second, .val (.long t1), .second, .val (.long t2), .second, .val (.ref a596), .val (.ref b2), .val (.int v652), .val (.ref b1), .unset, .unset, .unset, .unset, .unset, .unset, .unset]) rfl ?_
        show Goes p.tables e below (T653.setTop (mkF m 117 #[.val (.long p0), .second, .val (.long p1), .second, .val (.long p2), .second, .val (.int p3), .val (.int p4), .val (.int (3 : Int32)), .val (.long p0), .second, .val (.long t1), .second, .val (.long t2), .second, .val (.ref a596), .val (.ref b2), .val (.int v652), .val (.ref b1), .unset, .unset, .unset, .unset, .unset, .unset, .unset] [])) _
        refine g_new X653 hx hZ hown e653 (hw _ (List.mem_of_getElem? (i := 12) rfl)) (hw _ (List.mem_of_getElem? (i := 13) rfl)) (hw _ (List.mem_of_getElem? (i := 14) rfl)) (hb hby at_117) (by decide) (by decide) (fun T654 h654 a654 ga654 X654 e654 Ex654 Ea654 Df654 => ?_)
        have ne655 : b0 ≠ a654 := Nat.ne_of_lt (by rw [ga654]; exact fx640.lt)
        have ne656 : b1 ≠ a654 := Nat.ne_of_lt (by rw [ga654]; exact fx642.lt)
        have ne657 : b2 ≠ a654 := Nat.ne_of_lt (by rw [ga654]; exact fx644.lt)
        have ne658 : b3 ≠ a654 := Nat.ne_of_lt (by rw [ga654]; exact fx646.lt)
        have ne659 : a596 ≠ a654 := Nat.ne_of_lt (by rw [ga654]; exact fx647.lt)
        have ge660 : h0.size ≤ a654 := by rw [ga654]; exact Z650
        have fx661 : Sta Z h654 "com/example/drongo/drongo/event/RotaryEvent$Knob" "NAVIGATION" "Lcom/example/drongo/drongo/event/RotaryEvent$Knob;" (.ref b0) := Sta.ext Ex654 fx639
        have fx662 : Exa Z h654 b0 "com/example/drongo/drongo/event/RotaryEvent$Knob" := Exa.ext Ex654 fx640
        have fx663 : Sta Z h654 "com/example/drongo/drongo/event/Display" "CLUSTER" "Lcom/example/drongo/drongo/event/Display;" (.ref b1) := Sta.ext Ex654 fx641
        have fx664 : Exa Z h654 b1 "com/example/drongo/drongo/event/Display" := Exa.ext Ex654 fx642
        have fx665 : Sta Z h654 "com/example/drongo/drongo/event/RotaryEvent$Knob" "VOLUME" "Lcom/example/drongo/drongo/event/RotaryEvent$Knob;" (.ref b2) := Sta.ext Ex654 fx643
        have fx666 : Exa Z h654 b2 "com/example/drongo/drongo/event/RotaryEvent$Knob" := Exa.ext Ex654 fx644
        have fx667 : Sta Z h654 "com/example/drongo/drongo/event/Display" "MAIN" "Lcom/example/drongo/drongo/event/Display;" (.ref b3) := Sta.ext Ex654 fx645
        have fx668 : Exa Z h654 b3 "com/example/drongo/drongo/event/Display" := Exa.ext Ex654 fx646
        have fx669 : Exa Z h654 a596 "[J" := Exa.ext Ex654 fx647
        have fx670 : Ar Z h654 a596 .long [(.long p0), (.long t1), (.long t2)] := Ar.ext fx648 Ex654
        have Z671 : h0.size ≤ h654.size := Nat.le_trans Z650 Ex654.1
        have fx672 : Fld Z h654 a654 "com/example/drongo/drongo/event/RotaryEvent" "knob" "Lcom/example/drongo/drongo/event/RotaryEvent$Knob;" .null := Df654 (Or.inr (hw _ (List.mem_of_getElem? (i := 22) rfl))) (ty := (.object "com/example/drongo/drongo/event/RotaryEvent$Knob")) (by decide)
        have fx673 : Fld Z h654 a654 "com/example/drongo/drongo/event/RotaryEvent" "clockwise" "Z" (.int (0 : Int32)) := Df654 (Or.inr (hw _ (List.mem_of_getElem? (i := 24) rfl))) (ty := .boolean) (by decide)
        have fx674 : Fld Z h654 a654 "com/example/drongo/drongo/event/RotaryEvent" "display" "Lcom/example/drongo/drongo/event/Display;" .null := Df654 (Or.inr (hw _ (List.mem_of_getElem? (i := 26) rfl))) (ty := (.object "com/example/drongo/drongo/event/Display")) (by decide)
        have fx675 : Fld Z h654 a654 "com/example/drongo/drongo/event/RotaryEvent" "timesMillis" "[J" .null := Df654 (Or.inr (hw _ (List.mem_of_getElem? (i := 37) rfl))) (ty := (.array .long)) (by decide)
        show Goes p.tables e below (T654.setTop (mkF m 120 #[.val (.long p0), .second, .val (.long p1), .second, .val (.long p2), .second, .val (.int p3), .val (.int p4), .val (.int (3 : Int32)), .val (.long p0), .second, .val (.long t1), .second, .val (.long t2), .second, .val (.ref a596), .val (.ref b2), .val (.int v652), .val (.ref b1), .unset, .unset, .unset, .unset, .unset, .unset, .unset] [(.ref a654)])) _
        refine g_dup X654 hx (hb hby at_120) rfl ?_
        show Goes p.tables e below (T654.setTop (mkF m 121 #[.val (.long p0), .second, .val (.long p1), .second, .val (.long p2), .second, .val (.int p3), .val (.int p4), .val (.int (3 : Int32)), .val (.long p0), .second, .val (.long t1), .second, .val (.long t2), .second, .val (.ref a596), .val (.ref b2), .val (.int v652), .val (.ref b1), .unset, .unset, .unset, .unset, .unset, .unset, .unset] [(.ref a654), (.ref a654)])) _
        refine g_aload X654 hx (hb hby at_121) rfl rfl ?_
        show Goes p.tables e below (T654.setTop (mkF m 123 #[.val (.long p0), .second, .val (.long p1), .second, .val (.long p2), .second, .val (.int p3), .val (.int p4), .val (.int (3 : Int32)), .val (.long p0), .second, .val (.long t1), .second, .val (.long t2), .second, .val (.ref a596), .val (.ref b2), .val (.int v652), .val (.ref b1), .unset, .unset, .unset, .unset, .unset, .unset, .unset] [(.ref b2), (.ref a654), (.ref a654)])) _
        refine g_iload X654 hx (hb hby at_123) rfl ?_
        show Goes p.tables e below (T654.setTop (mkF m 125 #[.val (.long p0), .second, .val (.long p1), .second, .val (.long p2), .second, .val (.int p3), .val (.int p4), .val (.int (3 : Int32)), .val (.long p0), .second, .val (.long t1), .second, .val (.long t2), .second, .val (.ref a596), .val (.ref b2), .val (.int v652), .val (.ref b1), .unset, .unset, .unset, .unset, .unset, .unset, .unset] [(.int v652), (.ref b2), (.ref a654), (.ref a654)])) _
        refine g_aload X654 hx (hb hby at_125) rfl rfl ?_
        show Goes p.tables e below (T654.setTop (mkF m 127 #[.val (.long p0), .second, .val (.long p1), .second, .val (.long p2), .second, .val (.int p3), .val (.int p4), .val (.int (3 : Int32)), .val (.long p0), .second, .val (.long t1), .second, .val (.long t2), .second, .val (.ref a596), .val (.ref b2), .val (.int v652), .val (.ref b1), .unset, .unset, .unset, .unset, .unset, .unset, .unset] [(.ref b1), (.int v652), (.ref b2), (.ref a654), (.ref a654)])) _
        refine g_aload X654 hx (hb hby at_127) rfl rfl ?_
        show Goes p.tables e below (T654.setTop (mkF m 129 #[.val (.long p0), .second, .val (.long p1), .second, .val (.long p2), .second, .val (.int p3), .val (.int p4), .val (.int (3 : Int32)), .val (.long p0), .second, .val (.long t1), .second, .val (.long t2), .second, .val (.ref a596), .val (.ref b2), .val (.int v652), .val (.ref b1), .unset, .unset, .unset, .unset, .unset, .unset, .unset] [(.ref a596), (.ref b1), (.int v652), (.ref b2), (.ref a654), (.ref a654)])) _
        have lta := fx670.lt
        have ltb := Ea654.lt
        refine g_callI X654 hx hZ hown (by rw [hml]; rfl) e654 rfl (hw _ (List.mem_of_getElem? (i := 15) rfl)) (hw _ (List.mem_of_getElem? (i := 16) rfl)) (hw _ (List.mem_of_getElem? (i := 14) rfl)) (hw _ (List.mem_of_getElem? (i := 17) rfl)) (rmI l Z a0 hw a654 b2 v652 b1 a596 h654 h0.size Z671 [(.long p0), (.long t1), (.long t2)] (by simp) fx672 fx673 fx674 fx675 Ea654 fx670 fx669 ge660 ne659) a654 [(.ref b2), (.int v652), (.ref b1), (.ref a596)] rfl [(.ref a654)] rfl (lenOf pd_2 rfl) (hb hby at_129) (by decide) 1 (by decide) (by decide) (by first | decide | exact Nat.le_refl _) (by decide) (by decide) (fun v T676 L676 X676 hQ676 => ?_)
        obtain ⟨rfl, Nc676, Kc676, b676, gb676, hb676, fT676, Ab676⟩ := hQ676
        have fx677 : Sta Z T676.heap "com/example/drongo/drongo/event/RotaryEvent$Knob" "NAVIGATION" "Lcom/example/drongo/drongo/event/RotaryEvent$Knob;" (.ref b0) := own_stakeep fx661 Kc676 (allS (own_nst Ea654) all0)
        have fx678 : Exa Z T676.heap b0 "com/example/drongo/drongo/event/RotaryEvent$Knob" := Exa.keep fx662 Kc676
        have fx679 : Sta Z T676.heap "com/example/drongo/drongo/event/Display" "CLUSTER" "Lcom/example/drongo/drongo/event/Display;" (.ref b1) := own_stakeep fx663 Kc676 (allS (own_nst Ea654) all0)
        have fx680 : Exa Z T676.heap b1 "com/example/drongo/drongo/event/Display" := Exa.keep fx664 Kc676
        have fx681 : Sta Z T676.heap "com/example/drongo/drongo/event/RotaryEvent$Knob" "VOLUME" "Lcom/example/drongo/drongo/event/RotaryEvent$Knob;" (.ref b2) := own_stakeep fx665 Kc676 (allS (own_nst Ea654) all0)
        have fx682 : Exa Z T676.heap b2 "com/example/drongo/drongo/event/RotaryEvent$Knob" := Exa.keep fx666 Kc676
        have fx683 : Sta Z T676.heap "com/example/drongo/drongo/event/Display" "MAIN" "Lcom/example/drongo/drongo/event/Display;" (.ref b3) := own_stakeep fx667 Kc676 (allS (own_nst Ea654) all0)
        have fx684 : Exa Z T676.heap b3 "com/example/drongo/drongo/event/Display" := Exa.keep fx668 Kc676
        have fx685 : Exa Z T676.heap a596 "[J" := Exa.keep fx669 Kc676
        have fx686 : Ar Z T676.heap a596 .long [(.long p0), (.long t1), (.long t2)] := Ar.keep fx670 Kc676 (ninS ne659 nin0)
        have fx687 : Exa Z T676.heap a654 "com/example/drongo/drongo/event/RotaryEvent" := Exa.keep Ea654 Kc676
        have N688 := Fr.app N649 Nc676
        have Z689 : h0.size ≤ T676.heap.size := Nat.le_trans Z671 Kc676.1
        have ne690 : a596 ≠ b676 := Nat.ne_of_lt (Nat.lt_of_lt_of_le lta hb676)
        have ne691 : a654 ≠ b676 := Nat.ne_of_lt (Nat.lt_of_lt_of_le ltb hb676)
        show Goes p.tables e below (T676.setTop (mkF m 132 #[.val (.long p0), .second, .val (.long p1), .second, .val (.long p2), .second, .val (.int p3), .val (.int p4), .val (.int (3 : Int32)), .val (.long p0), .second, .val (.long t1), .second, .val (.long t2), .second, .val (.ref a596), .val (.ref b2), .val (.int v652), .val (.ref b1), .unset, .unset, .unset, .unset, .unset, .unset, .unset] [(.ref a654)])) _
        refine g_astore X676 hx (hb hby at_132) rfl (l' := #[.val (.long p0), .second, .val (.long p1), .second, .val (.long p2), .second, .val (.int p3), .val (.int p4), .val (.int (3 : Int32)), .val (.long p0), .second, .val (.long t1), .second, .val (.long t2), .second, .val (.ref a596), .val (.ref b2), .val (.int v652), .val (.ref b1), .val (.ref a654), .unset, .unset, .unset, .unset, .unset, .unset]) rfl ?_
        show Goes p.tables e below (T676.setTop (mkF m 134 #[.val (.long p0), .second, .val (.long p1), .second, .val (.long p2), .second, .val (.int p3), .val (.int p4), .val (.int (3 : Int32)), .val (.long p0), .second, .val (.long t1), .second, .val (.long t2), .second, .val (.ref a596), .val (.ref b2), .val (.int v652), .val (.ref b1), .val (.ref a654), .unset, .unset, .unset, .unset, .unset, .unset] [])) _
        refine g_iload X676 hx (hb hby at_134) rfl ?_
        show Goes p.tables e below (T676.setTop (mkF m 136 #[.val (.long p0), .second, .val (.long p1), .second, .val (.long p2), .second, .val (.int p3), .val (.int p4), .val (.int (3 : Int32)), .val (.long p0), .second, .val (.long t1), .second, .val (.long t2), .second, .val (.ref a596), .val (.ref b2), .val (.int v652), .val (.ref b1), .val (.ref a654), .unset, .unset, .unset, .unset, .unset, .unset] [(.int (3 : Int32))])) _
        refine g_iconst X676 hx (1 : Int32) (hb hby at_136) rfl ?_
        show Goes p.tables e below (T676.setTop (mkF m 137 #[.val (.long p0), .second, .val (.long p1), .second, .val (.long p2), .second, .val (.int p3), .val (.int p4), .val (.int (3 : Int32)), .val (.long p0), .second, .val (.long t1), .second, .val (.long t2), .second, .val (.ref a596), .val (.ref b2), .val (.int v652), .val (.ref b1), .val (.ref a654), .unset, .unset, .unset, .unset, .unset, .unset] [(.int (1 : Int32)), (.int (3 : Int32))])) _
        refine g_icmp_ne X676 hx (hb hby at_137) (by decide) (pc' := 145) (by decide) (fun _ => ?_) (fun q => absurd q (by decide))
        show Goes p.tables e below (T676.setTop (mkF m 145 #[.val (.long p0), .second, .val (.long p1), .second, .val (.long p2), .second, .val (.int p3), .val (.int p4), .val (.int (3 : Int32)), .val (.long p0), .second, .val (.long t1), .second, .val (.long t2), .second, .val (.ref a596), .val (.ref b2), .val (.int v652), .val (.ref b1), .val (.ref a654), .unset, .unset, .unset, .unset, .unset, .unset] [])) _
        refine g_iload X676 hx (hb hby at_145) rfl ?_
        show Goes p.tables e below (T676.setTop (mkF m 147 #[.val (.long p0), .second, .val (.long p1), .second, .val (.long p2), .second, .val (.int p3), .val (.int p4), .val (.int (3 : Int32)), .val (.long p0), .second, .val (.long t1), .second, .val (.long t2), .second, .val (.ref a596), .val (.ref b2), .val (.int v652), .val (.ref b1), .val (.ref a654), .unset, .unset, .unset, .unset, .unset, .unset] [(.int (3 : Int32))])) _
        refine g_iconst X676 hx (2 : Int32) (hb hby at_147) rfl ?_
        show Goes p.tables e below (T676.setTop (mkF m 148 #[.val (.long p0), .second, .val (.long p1), .second, .val (.long p2), .second, .val (.int p3), .val (.int p4), .val (.int (3 : Int32)), .val (.long p0), .second, .val (.long t1), .second, .val (.long t2), .second, .val (.ref a596), .val (.ref b2), .val (.int v652), .val (.ref b1), .val (.ref a654), .unset, .unset, .unset, .unset, .unset, .unset] [(.int (2 : Int32)), (.int (3 : Int32))])) _
        refine g_icmp_ne X676 hx (hb hby at_148) (by decide) (pc' := 156) (by decide) (fun _ => ?_) (fun q => absurd q (by decide))
        show Goes p.tables e below (T676.setTop (mkF m 156 #[.val (.long p0), .second, .val (.long p1), .second, .val (.long p2), .second, .val (.int p3), .val (.int p4), .val (.int (3 : Int32)), .val (.long p0), .second, .val (.long t1), .second, .val (.long t2), .second, .val (.ref a596), .val (.ref b2), .val (.int v652), .val (.ref b1), .val (.ref a654), .unset, .unset, .unset, .unset, .unset, .unset] [])) _
        refine g_lload X676 hx (hb hby at_156) rfl ?_
        show Goes p.tables e below (T676.setTop (mkF m 158 #[.val (.long p0), .second, .val (.long p1), .second, .val (.long p2), .second, .val (.int p3), .val (.int p4), .val (.int (3 : Int32)), .val (.long p0), .second, .val (.long t1), .second, .val (.long t2), .second, .val (.ref a596), .val (.ref b2), .val (.int v652), .val (.ref b1), .val (.ref a654), .unset, .unset, .unset, .unset, .unset, .unset] [(.long t2)])) _
        refine g_lstore X676 hx (hb hby at_158) (l' := #[.val (.long p0), .second, .val (.long p1), .second, .val (.long p2), .second, .val (.int p3), .val (.int p4), .val (.int (3 : Int32)), .val (.long p0), .second, .val (.long t1), .second, .val (.long t2), .second, .val (.ref a596), .val (.ref b2), .val (.int v652), .val (.ref b1), .val (.ref a654), .val (.long t2), .second, .unset, .unset, .unset, .unset]) rfl ?_
        show Goes p.tables e below (T676.setTop (mkF m 160 #[.val (.long p0), .second, .val (.long p1), .second, .val (.long p2), .second, .val (.int p3), .val (.int p4), .val (.int (3 : Int32)), .val (.long p0), .second, .val (.long t1), .second, .val (.long t2), .second, .val (.ref a596), .val (.ref b2), .val (.int v652), .val (.ref b1), .val (.ref a654), .val (.long t2), .second, .unset, .unset, .unset, .unset] [])) _
        refine g_lload X676 hx (hb hby at_160) rfl ?_
        show Goes p.tables e below (T676.setTop (mkF m 162 #[.val (.long p0), .second, .val (.long p1), .second, .val (.long p2), .second, .val (.int p3), .val (.int p4), .val (.int (3 : Int32)), .val (.long p0), .second, .val (.long t1), .second, .val (.long t2), .second, .val (.ref a596), .val (.ref b2), .val (.int v652), .val (.ref b1), .val (.ref a654), .val (.long t2), .second, .unset, .unset, .unset, .unset] [(.long p0)])) _
        refine g_iload X676 hx (hb hby at_162) rfl ?_
        show Goes p.tables e below (T676.setTop (mkF m 164 #[.val (.long p0), .second, .val (.long p1), .second, .val (.long p2), .second, .val (.int p3), .val (.int p4), .val (.int (3 : Int32)), .val (.long p0), .second, .val (.long t1), .second, .val (.long t2), .second, .val (.ref a596), .val (.ref b2), .val (.int v652), .val (.ref b1), .val (.ref a654), .val (.long t2), .second, .unset, .unset, .unset, .unset] [(.int (3 : Int32)), (.long p0)])) _
        refine g_iconst X676 hx (1 : Int32) (hb hby at_164) rfl ?_
        show Goes p.tables e below (T676.setTop (mkF m 165 #[.val (.long p0), .second, .val (.long p1), .second, .val (.long p2), .second, .val (.int p3), .val (.int p4), .val (.int (3 : Int32)), .val (.long p0), .second, .val (.long t1), .second, .val (.long t2), .second, .val (.ref a596), .val (.ref b2), .val (.int v652), .val (.ref b1), .val (.ref a654), .val (.long t2), .second, .unset, .unset, .unset, .unset] [(.int (1 : Int32)), (.int (3 : Int32)), (.long p0)])) _
        refine g_icmp_le X676 hx (hb hby at_165) (by decide) (pc' := 173) (by decide) (fun q => absurd (by decide) q) (fun _ => ?_)
        show Goes p.tables e below (T676.setTop (mkF m 168 #[.val (.long p0), .second, .val (.long p1), .second, .val (.long p2), .second, .val (.int p3), .val (.int p4), .val (.int (3 : Int32)), .val (.long p0), .second, .val (.long t1), .second, .val (.long t2), .second, .val (.ref a596), .val (.ref b2), .val (.int v652), .val (.ref b1), .val (.ref a654), .val (.long t2), .second, .unset, .unset, .unset, .unset] [(.long p0)])) _
        refine g_lload X676 hx (hb hby at_168) rfl ?_
        show Goes p.tables e below (T676.setTop (mkF m 170 #[.val (.long p0), .second, .val (.long p1), .second, .val (.long p2), .second, .val (.int p3), .val (.int p4), .val (.int (3 : Int32)), .val (.long p0), .second, .val (.long t1), .second, .val (.long t2), .second, .val (.ref a596), .val (.ref b2), .val (.int v652), .val (.ref b1), .val (.ref a654), .val (.long t2), .second, .unset, .unset, .unset, .unset] [(.long t1), (.long p0)])) _
        refine g_goto X676 hx (hb hby at_170) (by decide) (pc' := 175) (by decide) ?_
        show Goes p.tables e below (T676.setTop (mkF m 175 #[.val (.long p0), .second, .val (.long p1), .second, .val (.long p2), .second, .val (.int p3), .val (.int p4), .val (.int (3 : Int32)), .val (.long p0), .second, .val (.long t1), .second, .val (.long t2), .second, .val (.ref a596), .val (.ref b2), .val (.int v652), .val (.ref b1), .val (.ref a654), .val (.long t2), .second, .unset, .unset, .unset, .unset] [(.long t1), (.long p0)])) _
        refine g_iload X676 hx (hb hby at_175) rfl ?_
        show Goes p.tables e below (T676.setTop (mkF m 177 #[.val (.long p0), .second, .val (.long p1), .second, .val (.long p2), .second, .val (.int p3), .val (.int p4), .val (.int (3 : Int32)), .val (.long p0), .second, .val (.long t1), .second, .val (.long t2), .second, .val (.ref a596), .val (.ref b2), .val (.int v652), .val (.ref b1), .val (.ref a654), .val (.long t2), .second, .unset, .unset, .unset, .unset] [(.int (3 : Int32)), (.long t1), (.long p0)])) _
        refine g_iconst X676 hx (2 : Int32) (hb hby at_177) rfl ?_
        show Goes p.tables e below (T676.setTop (mkF m 178 #[.val (.long p0), .second, .val (.long p1), .second, .val (.long p2), .second, .val (.int p3), .val (.int p4), .val (.int (3 : Int32)), .val (.long p0), .second, .val (.long t1), .second, .val (.long t2), .second, .val (.ref a596), .val (.ref b2), .val (.int v652), .val (.ref b1), .val (.ref a654), .val (.long t2), .second, .unset, .unset, .unset, .unset] [(.int (2 : Int32)), (.int (3 : Int32)), (.long t1), (.long p0)])) _
        refine g_icmp_le X676 hx (hb hby at_178) (by decide) (pc' := 186) (by decide) (fun q => absurd (by decide) q) (fun _ => ?_)
        show Goes p.tables e below (T676.setTop (mkF m 181 #[.val (.long p0), .second, .val (.long p1), .second, .val (.long p2), .second, .val (.int p3), .val (.int p4), .val (.int (3 : Int32)), .val (.long p0), .second, .val (.long t1), .second, .val (.long t2), .second, .val (.ref a596), .val (.ref b2), .val (.int v652), .val (.ref b1), .val (.ref a654), .val (.long t2), .second, .unset, .unset, .unset, .unset] [(.long t1), (.long p0)])) _
        refine g_lload X676 hx (hb hby at_181) rfl ?_
        show Goes p.tables e below (T676.setTop (mkF m 183 #[.val (.long p0), .second, .val (.long p1), .second, .val (.long p2), .second, .val (.int p3), .val (.int p4), .val (.int (3 : Int32)), .val (.long p0), .second, .val (.long t1), .second, .val (.long t2), .second, .val (.ref a596), .val (.ref b2), .val (.int v652), .val (.ref b1), .val (.ref a654), .val (.long t2), .second, .unset, .unset, .unset, .unset] [(.long t2), (.long t1), (.long p0)])) _
        refine g_goto X676 hx (hb hby at_183) (by decide) (pc' := 188) (by decide) ?_
        show Goes p.tables e below (T676.setTop (mkF m 188 #[.val (.long p0), .second, .val (.long p1), .second, .val (.long p2), .second, .val (.int p3), .val (.int p4), .val (.int (3 : Int32)), .val (.long p0), .second, .val (.long t1), .second, .val (.long t2), .second, .val (.ref a596), .val (.ref b2), .val (.int v652), .val (.ref b1), .val (.ref a654), .val (.long t2), .second, .unset, .unset, .unset, .unset] [(.long t2), (.long t1), (.long p0)])) _
        refine g_callS X676 hx hZ hown (by rw [hml]; rfl) rfl (hw _ (List.mem_of_getElem? (i := 1) rfl)) (hw _ (List.mem_of_getElem? (i := 2) rfl)) (hw _ (List.mem_of_getElem? (i := 3) rfl)) (hw _ (List.mem_of_getElem? (i := 4) rfl)) (rmX l Z a0 hw t1 t2 T676.heap) [(.long t1), (.long t2)] rfl [(.long p0)] rfl (lenOf pd_1 rfl) (hb hby at_188) (by decide) 2 (by decide) (by decide) (by first | decide | exact Nat.le_refl _) (by decide) (by decide) (fun v T692 L692 X692 hQ692 => ?_)
        obtain ⟨rfl, e692, rfl⟩ := hQ692
        have N693 := Fr.app N688 (Fr.nil h0.size)
        show Goes p.tables e below (T692.setTop (mkF m 191 #[.val (.long p0), .second, .val (.long p1), .second, .val (.long p2), .second, .val (.int p3), .val (.int p4), .val (.int (3 : Int32)), .val (.long p0), .second, .val (.long t1), .second, .val (.long t2), .second, .val (.ref a596), .val (.ref b2), .val (.int v652), .val (.ref b1), .val (.ref a654), .val (.long t2), .second, .unset, .unset, .unset, .unset] [(.long (maxV t1 t2)), (.long p0)])) _
        refine g_callS X692 hx hZ hown (by rw [hml]; rfl) e692 (hw _ (List.mem_of_getElem? (i := 1) rfl)) (hw _ (List.mem_of_getElem? (i := 2) rfl)) (hw _ (List.mem_of_getElem? (i := 3) rfl)) (hw _ (List.mem_of_getElem? (i := 4) rfl)) (rmX l Z a0 hw p0 (maxV t1 t2) T676.heap) [(.long p0), (.long (maxV t1 t2))] rfl [] rfl (lenOf pd_1 rfl) (hb hby at_191) (by decide) 0 (by decide) (by decide) (by first | decide | exact Nat.le_refl _) (by decide) (by decide) (fun v T694 L694 X694 hQ694 => ?_)
        obtain ⟨rfl, e694, rfl⟩ := hQ694
        have N695 := Fr.app N693 (Fr.nil h0.size)
        show Goes p.tables e below (T694.setTop (mkF m 194 #[.val (.long p0), .second, .val (.long p1), .second, .val (.long p2), .second, .val (.int p3), .val (.int p4), .val (.int (3 : Int32)), .val (.long p0), .second, .val (.long t1), .second, .val (.long t2), .second, .val (.ref a596), .val (.ref b2), .val (.int v652), .val (.ref b1), .val (.ref a654), .val (.long t2), .second, .unset, .unset, .unset, .unset] [(.long (maxV p0 (maxV t1 t2)))])) _
        obtain ⟨vlat, hvlat⟩ : ∃ z : Int64, z = (maxV p0 (maxV t1 t2)) := ⟨_, rfl⟩
        refine g_nameL hvlat ?_
        show Goes p.tables e below (T694.setTop (mkF m 194 #[.val (.long p0), .second, .val (.long p1), .second, .val (.long p2), .second, .val (.int p3), .val (.int p4), .val (.int (3 : Int32)), .val (.long p0), .second, .val (.long t1), .second, .val (.long t2), .second, .val (.ref a596), .val (.ref b2), .val (.int v652), .val (.ref b1), .val (.ref a654), .val (.long t2), .second, .unset, .unset, .unset, .unset] [(.long vlat)])) _
        refine g_lstore X694 hx (hb hby at_194) (l' := #[.val (.long p0), .second, .val (.long p1), .second, .val (.long p2), .second, .val (.int p3), .val (.int p4), .val (.int (3 : Int32)), .val (.long p0), .second, .val (.long t1), .second, .val (.long t2), .second, .val (.ref a596), .val (.ref b2), .val (.int v652), .val (.ref b1), .val (.ref a654), .val (.long t2), .second, .val (.long vlat), .second, .unset, .unset]) rfl ?_
        show Goes p.tables e below (T694.setTop (mkF m 196 #[.val (.long p0), .second, .val (.long p1), .second, .val (.long p2), .second, .val (.int p3), .val (.int p4), .val (.int (3 : Int32)), .val (.long p0), .second, .val (.long t1), .second, .val (.long t2), .second, .val (.ref a596), .val (.ref b2), .val (.int v652), .val (.ref b1), .val (.ref a654), .val (.long t2), .second, .val (.long vlat), .second, .unset, .unset] [])) _
        refine g_aload X694 hx (hb hby at_196) rfl rfl ?_
        show Goes p.tables e below (T694.setTop (mkF m 198 #[.val (.long p0), .second, .val (.long p1), .second, .val (.long p2), .second, .val (.int p3), .val (.int p4), .val (.int (3 : Int32)), .val (.long p0), .second, .val (.long t1), .second, .val (.long t2), .second, .val (.ref a596), .val (.ref b2), .val (.int v652), .val (.ref b1), .val (.ref a654), .val (.long t2), .second, .val (.long vlat), .second, .unset, .unset] [(.ref a596)])) _
        refine g_iload X694 hx (hb hby at_198) rfl ?_
        show Goes p.tables e below (T694.setTop (mkF m 200 #[.val (.long p0), .second, .val (.long p1), .second, .val (.long p2), .second, .val (.int p3), .val (.int p4), .val (.int (3 : Int32)), .val (.long p0), .second, .val (.long t1), .second, .val (.long t2), .second, .val (.ref a596), .val (.ref b2), .val (.int v652), .val (.ref b1), .val (.ref a654), .val (.long t2), .second, .val (.long vlat), .second, .unset, .unset] [(.int (3 : Int32)), (.ref a596)])) _
        refine g_iconst X694 hx (1 : Int32) (hb hby at_200) rfl ?_
        show Goes p.tables e below (T694.setTop (mkF m 201 #[.val (.long p0), .second, .val (.long p1), .second, .val (.long p2), .second, .val (.int p3), .val (.int p4), .val (.int (3 : Int32)), .val (.long p0), .second, .val (.long t1), .second, .val (.long t2), .second, .val (.ref a596), .val (.ref b2), .val (.int v652), .val (.ref b1), .val (.ref a654), .val (.long t2), .second, .val (.long vlat), .second, .unset, .unset] [(.int (1 : Int32)), (.int (3 : Int32)), (.ref a596)])) _
        refine g_isub X694 hx (hb hby at_201) ?_
        show Goes p.tables e below (T694.setTop (mkF m 202 #[.val (.long p0), .second, .val (.long p1), .second, .val (.long p2), .second, .val (.int p3), .val (.int p4), .val (.int (3 : Int32)), .val (.long p0), .second, .val (.long t1), .second, .val (.long t2), .second, .val (.ref a596), .val (.ref b2), .val (.int v652), .val (.ref b1), .val (.ref a654), .val (.long t2), .second, .val (.long vlat), .second, .unset, .unset] [(.int ((3 : Int32) - (1 : Int32))), (.ref a596)])) _
        refine g_lload X694 hx (hb hby at_202) rfl ?_
        show Goes p.tables e below (T694.setTop (mkF m 204 #[.val (.long p0), .second, .val (.long p1), .second, .val (.long p2), .second, .val (.int p3), .val (.int p4), .val (.int (3 : Int32)), .val (.long p0), .second, .val (.long t1), .second, .val (.long t2), .second, .val (.ref a596), .val (.ref b2), .val (.int v652), .val (.ref b1), .val (.ref a654), .val (.long t2), .second, .val (.long vlat), .second, .unset, .unset] [(.long t2), (.int ((3 : Int32) - (1 : Int32))), (.ref a596)])) _
        refine g_ldc2 X694 hx hZ hown (hw _ (List.mem_of_getElem? (i := 38) rfl)) (hb hby at_204) ?_
        show Goes p.tables e below (T694.setTop (mkF m 207 #[.val (.long p0), .second, .val (.long p1), .second, .val (.long p2), .second, .val (.int p3), .val (.int p4), .val (.int (3 : Int32)), .val (.long p0), .second, .val (.long t1), .second, .val (.long t2), .second, .val (.ref a596), .val (.ref b2), .val (.int v652), .val (.ref b1), .val (.ref a654), .val (.long t2), .second, .val (.long vlat), .second, .unset, .unset] [(.long (-1 : Int64)), (.long t2), (.int ((3 : Int32) - (1 : Int32))), (.ref a596)])) _
        refine g_lxor X694 hx (hb hby at_207) ?_
        show Goes p.tables e below (T694.setTop (mkF m 208 #[.val (.long p0), .second, .val (.long p1), .second, .val (.long p2), .second, .val (.int p3), .val (.int p4), .val (.int (3 : Int32)), .val (.long p0), .second, .val (.long t1), .second, .val (.long t2), .second, .val (.ref a596), .val (.ref b2), .val (.int v652), .val (.ref b1), .val (.ref a654), .val (.long t2), .second, .val (.long vlat), .second, .unset, .unset] [(.long (t2 ^^^ (-1 : Int64))), (.int ((3 : Int32) - (1 : Int32))), (.ref a596)])) _
        refine g_lastore X694 hx hZ e694 fx686 2 (by decide) (by simp) (hb hby at_208) (fun T696 h696 X696 e696 W696 A696 => ?_)
        have fx697 : Sta Z h696 "com/example/drongo/drongo/event/RotaryEvent$Knob" "NAVIGATION" "Lcom/example/drongo/drongo/event/RotaryEvent$Knob;" (.ref b0) := Sta.wr W696 fx677
        have fx698 : Exa Z h696 b0 "com/example/drongo/drongo/event/RotaryEvent$Knob" := Exa.wr W696 fx678
        have fx699 : Sta Z h696 "com/example/drongo/drongo/event/Display" "CLUSTER" "Lcom/example/drongo/drongo/event/Display;" (.ref b1) := Sta.wr W696 fx679
        have fx700 : Exa Z h696 b1 "com/example/drongo/drongo/event/Display" := Exa.wr W696 fx680
        have fx701 : Sta Z h696 "com/example/drongo/drongo/event/RotaryEvent$Knob" "VOLUME" "Lcom/example/drongo/drongo/event/RotaryEvent$Knob;" (.ref b2) := Sta.wr W696 fx681
        have fx702 : Exa Z h696 b2 "com/example/drongo/drongo/event/RotaryEvent$Knob" := Exa.wr W696 fx682
        have fx703 : Sta Z h696 "com/example/drongo/drongo/event/Display" "MAIN" "Lcom/example/drongo/drongo/event/Display;" (.ref b3) := Sta.wr W696 fx683
        have fx704 : Exa Z h696 b3 "com/example/drongo/drongo/event/Display" := Exa.wr W696 fx684
        have fx705 : Exa Z h696 a596 "[J" := Exa.wr W696 fx685
        have fx706 : Exa Z h696 a654 "com/example/drongo/drongo/event/RotaryEvent" := Exa.wr W696 fx687
        have fx707 : Fld Z h696 a654 "com/example/drongo/drongo/event/RotaryEvent" "timesMillis" "[J" (.ref b676) := Fld.other W696 fT676 (Or.inl (Ne.symm ne659))
        have fx708 : Ar Z h696 b676 .long [(.long p0), (.long t1), (.long t2)] := Ar.other Ab676 W696 (Ne.symm ne690)
        have fx709 : Ar Z h696 a596 .long (List.set [(.long p0), (.long t1), (.long t2)] 2 (.long (t2 ^^^ (-1 : Int64)))) := A696
        have N710 := Fr.snoc X696 N695 ge601
        have Z711 : h0.size ≤ h696.size := by rw [W696.size]; exact Z689
        show Goes p.tables e below (T696.setTop (mkF m 209 #[.val (.long p0), .second, .val (.long p1), .second, .val (.long p2), .second, .val (.int p3), .val (.int p4), .val (.int (3 : Int32)), .val (.long p0), .second, .val (.long t1), .second, .val (.long t2), .second, .val (.ref a596), .val (.ref b2), .val (.int v652), .val (.ref b1), .val (.ref a654), .val (.long t2), .second, .val (.long vlat), .second, .unset, .unset] [])) _
        refine g_aload X696 hx (hb hby at_209) rfl rfl ?_
        show Goes p.tables e below (T696.setTop (mkF m 211 #[.val (.long p0), .second, .val (.long p1), .second, .val (.long p2), .second, .val (.int p3), .val (.int p4), .val (.int (3 : Int32)), .val (.long p0), .second, .val (.long t1), .second, .val (.long t2), .second, .val (.ref a596), .val (.ref b2), .val (.int v652), .val (.ref b1), .val (.ref a654), .val (.long t2), .second, .val (.long vlat), .second, .unset, .unset] [(.ref a654)])) _
        refine g_callV X696 hx hZ hown (by rw [hml]; rfl) e696 (K := "com/example/drongo/drongo/event/RotaryEvent") (hw _ (List.mem_of_getElem? (i := 39) rfl)) (hw _ (List.mem_of_getElem? (i := 40) rfl)) (hw _ (List.mem_of_getElem? (i := 42) rfl)) (hw _ (List.mem_of_getElem? (i := 41) rfl)) (hw _ (List.mem_of_getElem? (i := 14) rfl)) (hw _ (List.mem_of_getElem? (i := 43) rfl)) fx706 (rmL l Z a0 hw a654 h696 b676 [(.long p0), (.long t1), (.long t2)] (3 : Int32) 2 t2 rfl (by decide) rfl fx707 fx708) [] rfl [] rfl (lenOf pd_4 rfl) (hb hby at_211) (by decide) 0 (by decide) (by decide) (by first | decide | exact Nat.le_refl _) (by decide) (by decide) (fun v T712 L712 X712 hQ712 => ?_)
        obtain ⟨rfl, e712, rfl⟩ := hQ712
        have N713 := Fr.app N710 (Fr.nil h0.size)
        show Goes p.tables e below (T712.setTop (mkF m 214 #[.val (.long p0), .second, .val (.long p1), .second, .val (.long p2), .second, .val (.int p3), .val (.int p4), .val (.int (3 : Int32)), .val (.long p0), .second, .val (.long t1), .second, .val (.long t2), .second, .val (.ref a596), .val (.ref b2), .val (.int v652), .val (.ref b1), .val (.ref a654), .val (.long t2), .second, .val (.long vlat), .second, .unset, .unset] [(.long t2)])) _
        refine g_lstore X712 hx (hb hby at_214) (l' := #[.val (.long p0), .second, .val (.long p1), .second, .val (.long p2), .second, .val (.int p3), .val (.int p4), .val (.int (3 : Int32)), .val (.long p0), .second, .val (.long t1), .second, .val (.long t2), .second, .val (.ref a596), .val (.ref b2), .val (.int v652), .val (.ref b1), .val (.ref a654), .val (.long t2), .second, .val (.long vlat), .second, .val (.long t2), .second]) rfl ?_
        show Goes p.tables e below (T712.setTop (mkF m 216 #[.val (.long p0), .second, .val (.long p1), .second, .val (.long p2), .second, .val (.int p3), .val (.int p4), .val (.int (3 : Int32)), .val (.long p0), .second, .val (.long t1), .second, .val (.long t2), .second, .val (.ref a596), .val (.ref b2), .val (.int v652), .val (.ref b1), .val (.ref a654), .val (.long t2), .second, .val (.long vlat), .second, .val (.long t2), .second] [])) _
        refine g_lload X712 hx (hb hby at_216) rfl ?_
        show Goes p.tables e below (T712.setTop (mkF m 218 #[.val (.long p0), .second, .val (.long p1), .second, .val (.long p2), .second, .val (.int p3), .val (.int p4), .val (.int (3 : Int32)), .val (.long p0), .second, .val (.long t1), .second, .val (.long t2), .second, .val (.ref a596), .val (.ref b2), .val (.int v652), .val (.ref b1), .val (.ref a654), .val (.long t2), .second, .val (.long vlat), .second, .val (.long t2), .second] [(.long t2)])) _
        refine g_lload X712 hx (hb hby at_218) rfl ?_
        show Goes p.tables e below (T712.setTop (mkF m 220 #[.val (.long p0), .second, .val (.long p1), .second, .val (.long p2), .second, .val (.int p3), .val (.int p4), .val (.int (3 : Int32)), .val (.long p0), .second, .val (.long t1), .second, .val (.long t2), .second, .val (.ref a596), .val (.ref b2), .val (.int v652), .val (.ref b1), .val (.ref a654), .val (.long t2), .second, .val (.long vlat), .second, .val (.long t2), .second] [(.long t2), (.long t2)])) _
        refine g_lcmp X712 hx (hb hby at_220) ?_
        show Goes p.tables e below (T712.setTop (mkF m 221 #[.val (.long p0), .second, .val (.long p1), .second, .val (.long p2), .second, .val (.int p3), .val (.int p4), .val (.int (3 : Int32)), .val (.long p0), .second, .val (.long t1), .second, .val (.long t2), .second, .val (.ref a596), .val (.ref b2), .val (.int v652), .val (.ref b1), .val (.ref a654), .val (.long t2), .second, .val (.long vlat), .second, .val (.long t2), .second] [(.int (XT.cmpL t2 t2))])) _
        have c221 : t2 = t2 := rfl
        refine g_lif_ne X712 hx (hb hby at_221) (by decide) (pc' := 247) (by decide) (fun q => absurd c221 q) (fun _ => ?_)
        show Goes p.tables e below (T712.setTop (mkF m 224 #[.val (.long p0), .second, .val (.long p1), .second, .val (.long p2), .second, .val (.int p3), .val (.int p4), .val (.int (3 : Int32)), .val (.long p0), .second, .val (.long t1), .second, .val (.long t2), .second, .val (.ref a596), .val (.ref b2), .val (.int v652), .val (.ref b1), .val (.ref a654), .val (.long t2), .second, .val (.long vlat), .second, .val (.long t2), .second] [])) _
        refine g_lload X712 hx (hb hby at_224) rfl ?_
        show Goes p.tables e below (T712.setTop (mkF m 226 #[.val (.long p0), .second, .val (.long p1), .second, .val (.long p2), .second, .val (.int p3), .val (.int p4), .val (.int (3 : Int32)), .val (.long p0), .second, .val (.long t1), .second, .val (.long t2), .second, .val (.ref a596), .val (.ref b2), .val (.int v652), .val (.ref b1), .val (.ref a654), .val (.long t2), .second, .val (.long vlat), .second, .val (.long t2), .second] [(.long t2)])) _
        refine g_lload X712 hx (hb hby at_226) rfl ?_
        show Goes p.tables e below (T712.setTop (mkF m 228 #[.val (.long p0), .second, .val (.long p1), .second, .val (.long p2), .second, .val (.int p3), .val (.int p4), .val (.int (3 : Int32)), .val (.long p0), .second, .val (.long t1), .second, .val (.long t2), .second, .val (.ref a596), .val (.ref b2), .val (.int v652), .val (.ref b1), .val (.ref a654), .val (.long t2), .second, .val (.long vlat), .second, .val (.long t2), .second] [(.long vlat), (.long t2)])) _
        refine g_lcmp X712 hx (hb hby at_228) ?_
        show Goes p.tables e below (T712.setTop (mkF m 229 #[.val (.long p0), .second, .val (.long p1), .second, .val (.long p2), .second, .val (.int p3), .val (.int p4), .val (.int (3 : Int32)), .val (.long p0), .second, .val (.long t1), .second, .val (.long t2), .second, .val (.ref a596), .val (.ref b2), .val (.int v652), .val (.ref b1), .val (.ref a654), .val (.long t2), .second, .val (.long vlat), .second, .val (.long t2), .second] [(.int (XT.cmpL t2 vlat))])) _
        have c229 : t2 = vlat := (by rw [hvlat, ht2, ht1]; exact (own_max3 p0 p1 p2).symm)
        refine g_lif_ne X712 hx (hb hby at_229) (by decide) (pc' := 247) (by decide) (fun q => absurd c229 q) (fun _ => ?_)
        show Goes p.tables e below (T712.setTop (mkF m 232 #[.val (.long p0), .second, .val (.long p1), .second, .val (.long p2), .second, .val (.int p3), .val (.int p4), .val (.int (3 : Int32)), .val (.long p0), .second, .val (.long t1), .second, .val (.long t2), .second, .val (.ref a596), .val (.ref b2), .val (.int v652), .val (.ref b1), .val (.ref a654), .val (.long t2), .second, .val (.long vlat), .second, .val (.long t2), .second] [])) _
        refine g_aload X712 hx (hb hby at_232) rfl rfl ?_
        show Goes p.tables e below (T712.setTop (mkF m 234 #[.val (.long p0), .second, .val (.long p1), .second, .val (.long p2), .second, .val (.int p3), .val (.int p4), .val (.int (3 : Int32)), .val (.long p0), .second, .val (.long t1), .second, .val (.long t2), .second, .val (.ref a596), .val (.ref b2), .val (.int v652), .val (.ref b1), .val (.ref a654), .val (.long t2), .second, .val (.long vlat), .second, .val (.long t2), .second] [(.ref a654)])) _
        refine g_callV X712 hx hZ hown (by rw [hml]; rfl) e712 (K := "com/example/drongo/drongo/event/RotaryEvent") (hw _ (List.mem_of_getElem? (i := 39) rfl)) (hw _ (List.mem_of_getElem? (i := 40) rfl)) (hw _ (List.mem_of_getElem? (i := 42) rfl)) (hw _ (List.mem_of_getElem? (i := 41) rfl)) (hw _ (List.mem_of_getElem? (i := 14) rfl)) (hw _ (List.mem_of_getElem? (i := 43) rfl)) fx706 (rmL l Z a0 hw a654 h696 b676 [(.long p0), (.long t1), (.long t2)] (3 : Int32) 2 t2 rfl (by decide) rfl fx707 fx708) [] rfl [] rfl (lenOf pd_4 rfl) (hb hby at_234) (by decide) 0 (by decide) (by decide) (by first | decide | exact Nat.le_refl _) (by decide) (by decide) (fun v T714 L714 X714 hQ714 => ?_)
        obtain ⟨rfl, e714, rfl⟩ := hQ714
        have N715 := Fr.app N713 (Fr.nil h0.size)
        show Goes p.tables e below (T714.setTop (mkF m 237 #[.val (.long p0), .second, .val (.long p1), .second, .val (.long p2), .second, .val (.int p3), .val (.int p4), .val (.int (3 : Int32)), .val (.long p0), .second, .val (.long t1), .second, .val (.long t2), .second, .val (.ref a596), .val (.ref b2), .val (.int v652), .val (.ref b1), .val (.ref a654), .val (.long t2), .second, .val (.long vlat), .second, .val (.long t2), .second] [(.long t2)])) _
        refine g_lload X714 hx (hb hby at_237) rfl ?_
        show Goes p.tables e below (T714.setTop (mkF m 239 #[.val (.long p0), .second, .val (.long p1), .second, .val (.long p2), .second, .val (.int p3), .val (.int p4), .val (.int (3 : Int32)), .val (.long p0), .second, .val (.long t1), .second, .val (.long t2), .second, .val (.ref a596), .val (.ref b2), .val (.int v652), .val (.ref b1), .val (.ref a654), .val (.long t2), .second, .val (.long vlat), .second, .val (.long t2), .second] [(.long t2), (.long t2)])) _
        refine g_lcmp X714 hx (hb hby at_239) ?_
        show Goes p.tables e below (T714.setTop (mkF m 240 #[.val (.long p0), .second, .val (.long p1), .second, .val (.long p2), .second, .val (.int p3), .val (.int p4), .val (.int (3 : Int32)), .val (.long p0), .second, .val (.long t1), .second, .val (.long t2), .second, .val (.ref a596), .val (.ref b2), .val (.int v652), .val (.ref b1), .val (.ref a654), .val (.long t2), .second, .val (.long vlat), .second, .val (.long t2), .second] [(.int (XT.cmpL t2 t2))])) _
        have c240 : t2 = t2 := rfl
        refine g_lif_ne X714 hx (hb hby at_240) (by decide) (pc' := 247) (by decide) (fun q => absurd c240 q) (fun _ => ?_)
        show Goes p.tables e below (T714.setTop (mkF m 243 #[.val (.long p0), .second, .val (.long p1), .second, .val (.long p2), .second, .val (.int p3), .val (.int p4), .val (.int (3 : Int32)), .val (.long p0), .second, .val (.long t1), .second, .val (.long t2), .second, .val (.ref a596), .val (.ref b2), .val (.int v652), .val (.ref b1), .val (.ref a654), .val (.long t2), .second, .val (.long vlat), .second, .val (.long t2), .second] [])) _
        refine g_iconst X714 hx (1 : Int32) (hb hby at_243) rfl ?_
        show Goes p.tables e below (T714.setTop (mkF m 244 #[.val (.long p0), .second, .val (.long p1), .second, .val (.long p2), .second, .val (.int p3), .val (.int p4), .val (.int (3 : Int32)), .val (.long p0), .second, .val (.long t1), .second, .val (.long t2), .second, .val (.ref a596), .val (.ref b2), .val (.int v652), .val (.ref b1), .val (.ref a654), .val (.long t2), .second, .val (.long vlat), .second, .val (.long t2), .second] [(.int (1 : Int32))])) _
        refine g_goto X714 hx (hb hby at_244) (by decide) (pc' := 248) (by decide) ?_
        show Goes p.tables e below (T714.setTop (mkF m 248 #[.val (.long p0), .second, .val (.long p1), .second, .val (.long p2), .second, .val (.int p3), .val (.int p4), .val (.int (3 : Int32)), .val (.long p0), .second, .val (.long t1), .second, .val (.long t2), .second, .val (.ref a596), .val (.ref b2), .val (.int v652), .val (.ref b1), .val (.ref a654), .val (.long t2), .second, .val (.long vlat), .second, .val (.long t2), .second] [(.int (1 : Int32))])) _
        exact g_retZ X714 hx (hz := (by decide)) hret hlk (hb hby at_248) (by decide) (by decide) ⟨rfl, N715⟩
      · skip
        show Goes p.tables e below (T651.setTop (mkF m 106 #[.val (.long p0), .second, .val (.long p1), .second, .val (.long p2), .second, .val (.int p3), .val (.int p4), .val (.int (3 : Int32)), .val (.long p0), .second, .val (.long t1), .second, .val (.long t2), .second, .val (.ref a596), .val (.ref b2), .val (.int v652), .unset, .unset, .unset, .unset, .unset, .unset, .unset, .unset] [])) _
        refine g_getS X651 hx hZ hown e651 (host := "") (Or.inl (hw _ (List.mem_of_getElem? (i := 46) rfl))) fx645 (hb hby at_106) (fun T716 X716 e716 => ?_)
        show Goes p.tables e below (T716.setTop (mkF m 109 #[.val (.long p0), .second, .val (.long p1), .second, .val (.long p2), .second, .val (.int p3), .val (.int p4), .val (.int (3 : Int32)), .val (.long p0), .second, .val (.long t1), .second, .val (.long t2), .second, .val (.ref a596), .val (.ref b2), .val (.int v652), .unset, .unset, .unset, .unset, .unset, .unset, .unset, .unset] [(.ref b3)])) _
        refine g_goto X716 hx (hb hby at_109) (by decide) (pc' := 115) (by decide) ?_
        show Goes p.tables e below (T716.setTop (mkF m 115 #[.val (.long p0), .second, .val (.long p1), .second, .val (.long p2), .second, .val (.int p3), .val (.int p4), .val (.int (3 : Int32)), .val (.long p0), .second, .val (.long t1), .second, .val (.long t2), .second, .val (.ref a596), .val (.ref b2), .val (.int v652), .unset, .unset, .unset, .unset, .unset, .unset, .unset, .unset] [(.ref b3)])) _
        refine g_astore X716 hx (hb hby at_115) rfl (l' := #[.val (.long p0), .second, .val (.long p1), .second, .val (.long p2), .second, .val (.int p3), .val (.int p4), .val (.int (3 : Int32)), .val (.long p0), .second, .val (.long t1), .second, .val (.long t2), .second, .val (.ref a596), .val (.ref b2), .val (.int v652), .val (.ref b3), .unset, .unset, .unset, .unset, .unset, .unset, .unset]) rfl ?_
        show Goes p.tables e below (T716.setTop (mkF m 117 #[.val (.long p0), .second, .val (.long p1), .second, .val (.long p2), .second, .val (.int p3), .val (.int p4), .val (.int (3 : Int32)), .val (.long p0), .second, .val (.long t1), .second, .val (.long t2), .second, .val (.ref a596), .val (.ref b2), .val (.int v652), .val (.ref b3), .unset, .unset, .unset, .unset, .unset, .unset, .unset] [])) _
        refine g_new X716 hx hZ hown e716 (hw _ (List.mem_of_getElem? (i := 12) rfl)) (hw _ (List.mem_of_getElem? (i := 13) rfl)) (hw _ (List.mem_of_getElem? (i := 14) rfl)) (hb hby at_117) (by decide) (by decide) (fun T717 h717 a717 ga717 X717 e717 Ex717 Ea717 Df717 => ?_)
        have ne718 : b0 ≠ a717 := Nat.ne_of_lt (by rw [ga717]; exact fx640.lt)
        have ne719 : b1 ≠ a717 := Nat.ne_of_lt (by rw [ga717]; exact fx642.lt)
        have ne720 : b2 ≠ a717 := Nat.ne_of_lt (by rw [ga717]; exact fx644.lt)
        have ne721 : b3 ≠ a717 := Nat.ne_of_lt (by rw [ga717]; exact fx646.lt)
        have ne722 : a596 ≠ a717 := Nat.ne_of_lt (by rw [ga717]; exact fx647.lt)
        have ge723 : h0.size ≤ a717 := by rw [ga717]; exact Z650
        have fx724 : Sta Z h717 "com/example/drongo/drongo/event/RotaryEvent$Knob" "NAVIGATION" "Lcom/example/drongo/drongo/event/RotaryEvent$Knob;" (.ref b0) := Sta.ext Ex717 fx639
        have fx725 : Exa Z h717 b0 "com/example/drongo/drongo/event/RotaryEvent$Knob" := Exa.ext Ex717 fx640
        have fx726 : Sta Z h717 "com/example/drongo/drongo/event/Display" "CLUSTER" "Lcom/example/drongo/drongo/event/Display;" (.ref b1) := Sta.ext Ex717 fx641
        have fx727 : Exa Z h717 b1 "com/example/drongo/drongo/event/Display" := Exa.ext Ex717 fx642
        have fx728 : Sta Z h717 "com/example/drongo/drongo/event/RotaryEvent$Knob" "VOLUME" "Lcom/example/drongo/drongo/event/RotaryEvent$Knob;" (.ref b2) := Sta.ext Ex717 fx643
        have fx729 : Exa Z h717 b2 "com/example/drongo/drongo/event/RotaryEvent$Knob" := Exa.ext Ex717 fx644
        have fx730 : Sta Z h717 "com/example/drongo/drongo/event/Display" "MAIN" "Lcom/example/drongo/drongo/event/Display;" (.ref b3) := Sta.ext Ex717 fx645
        have fx731 : Exa Z h717 b3 "com/example/drongo/drongo/event/Display" := Exa.ext Ex717 fx646
        have fx732 : Exa Z h717 a596 "[J" := Exa.ext Ex717 fx647
        have fx733 : Ar Z h717 a596 .long [(.long p0), (.long t1), (.long t2)] := Ar.ext fx648 Ex717
        have Z734 : h0.size ≤ h717.size := Nat.le_trans Z650 Ex717.1
        have fx735 : Fld Z h717 a717 "com/example/drongo/drongo/event/RotaryEvent" "knob" "Lcom/example/drongo/drongo/event/RotaryEvent$Knob;" .null := Df717 (Or.inr (hw _ (List.mem_of_getElem? (i := 22) rfl))) (ty := (.object "com/example/drongo/drongo/event/RotaryEvent$Knob")) (by decide)
        have fx736 : Fld Z h717 a717 "com/example/drongo/drongo/event/RotaryEvent" "clockwise" "Z" (.int (0 : Int32)) := Df717 (Or.inr (hw _ (List.mem_of_getElem? (i := 24) rfl))) (ty := .boolean) (by decide)
        have fx737 : Fld Z h717 a717 "com/example/drongo/drongo/event/RotaryEvent" "display" "Lcom/example/drongo/drongo/event/Display;" .null := Df717 (Or.inr (hw _ (List.mem_of_getElem? (i := 26) rfl))) (ty := (.object "com/example/drongo/drongo/event/Display")) (by decide)
        have fx738 : Fld Z h717 a717 "com/example/drongo/drongo/event/RotaryEvent" "timesMillis" "[J" .null := Df717 (Or.inr (hw _ (List.mem_of_getElem? (i := 37) rfl))) (ty := (.array .long)) (by decide)
        show Goes p.tables e below (T717.setTop (mkF m 120 #[.val (.long p0), .second, .val (.long p1), .second, .val (.long p2), .second, .val (.int p3), .val (.int p4), .val (.int (3 : Int32)), .val (.long p0), .second, .val (.long t1), .second, .val (.long t2), .second, .val (.ref a596), .val (.ref b2), .val (.int v652), .val (.ref b3), .unset, .unset, .unset, .unset, .unset, .unset, .unset] [(.ref a717)])) _
        refine g_dup X717 hx (hb hby at_120) rfl ?_
        show Goes p.tables e below (T717.setTop (mkF m 121 #[.val (.long p0), .second, .val (.long p1), .second, .val (.long p2), .second, .val (.int p3), .val (.int p4), .val (.int (3 : Int32)), .val (.long p0), .second, .val (.long t1), .second, .val (.long t2), .second, .val (.ref a596), .val (.ref b2), .val (.int v652), .val (.ref b3), .unset, .unset, .unset, .unset, .unset, .unset, .unset] [(.ref a717), (.ref a717)])) _
        refine g_aload X717 hx (hb hby at_121) rfl rfl ?_
        show Goes p.tables e below (T717.setTop (mkF m 123 #[.val (.long p0), .second, .val (.long p1), .second, .val (.long p2), .second, .val (.int p3), .val (.int p4), .val (.int (3 : Int32)), .val (.long p0), .second, .val (.long t1), .second, .val (.long t2), .second, .val (.ref a596), .val (.ref b2), .val (.int v652), .val (.ref b3), .unset, .unset, .unset, .unset, .unset, .unset, .unset] [(.ref b2), (.ref a717), (.ref a717)])) _
        refine g_iload X717 hx (hb hby at_123) rfl ?_
        show Goes p.tables e below (T717.setTop (mkF m 125 #[.val (.long p0), .second, .val (.long p1), .second, .val (.long p2), .second, .val (.int p3), .val (.int p4), .val (.int (3 : Int32)), .val (.long p0), .second, .val (.long t1), .second, .val (.long t2), .second, .val (.ref a596), .val (.ref b2), .val (.int v652), .val (.ref b3), .unset, .unset, .unset, .unset, .unset, .unset, .unset] [(.int v652), (.ref b2), (.ref a717), (.ref a717)])) _
        refine g_aload X717 hx (hb hby at_125) rfl rfl ?_
        show Goes p.tables e below (T717.setTop (mkF m 127 #[.val (.long p0), .second, .val (.long p1), .second, .val (.long p2), .second, .val (.int p3), .val (.int p4), .val (.int (3 : Int32)), .val (.long p0), .second, .val (.long t1), .second, .val (.long t2), .second, .val (.ref a596), .val (.ref b2), .val (.int v652), .val (.ref b3), .unset, .unset, .unset, .unset, .unset, .unset, .unset] [(.ref b3), (.int v652), (.ref b2), (.ref a717), (.ref a717)])) _
        refine g_aload X717 hx (hb hby at_127) rfl rfl ?_
        show Goes p.tables e below (T717.setTop (mkF m 129 #[.val (.long p0), .second, .val (.long p1), .second, .val (.long p2), .second, .val (.int p3), .val (.int p4), .val (.int (3 : Int32)), .val (.long p0), .second, .val (.long t1), .second, .val (.long t2), .second, .val (.ref a596), .val (.ref b2), .val (.int v652), .val (.ref b3), .unset, .unset, .unset, .unset, .unset, .unset, .unset] [(.ref a596), (.ref b3), (.int v652), (.ref b2), (.ref a717), (.ref a717)])) _
        have lta := fx733.lt
        have ltb := Ea717.lt
        refine g_callI X717 hx hZ hown (by rw [hml]; rfl) e717 rfl (hw _ (List.mem_of_getElem? (i := 15) rfl)) (hw _ (List.mem_of_getElem? (i := 16) rfl)) (hw _ (List.mem_of_getElem? (i := 14) rfl)) (hw _ (List.mem_of_getElem? (i := 17) rfl)) (rmI l Z a0 hw a717 b2 v652 b3 a596 h717 h0.size Z734 [(.long p0), (.long t1), (.long t2)] (by simp) fx735 fx736 fx737 fx738 Ea717 fx733 fx732 ge723 ne722) a717 [(.ref b2), (.int v652), (.ref b3), (.ref a596)] rfl [(.ref a717)] rfl (lenOf pd_2 rfl) (hb hby at_129) (by decide) 1 (by decide) (by decide) (by first | decide | exact Nat.le_refl _) (by decide) (by decide) (fun v T739 L739 X739 hQ739 => ?_)
        obtain ⟨rfl, Nc739, Kc739, b739, gb739, hb739, fT739, Ab739⟩ := hQ739
        have fx740 : Sta Z T739.heap "com/example/drongo/drongo/event/RotaryEvent$Knob" "NAVIGATION" "Lcom/example/drongo/drongo/event/RotaryEvent$Knob;" (.ref b0) := own_stakeep fx724 Kc739 (allS (own_nst Ea717) all0)
        have fx741 : Exa Z T739.heap b0 "com/example/drongo/drongo/event/RotaryEvent$Knob" := Exa.keep fx725 Kc739
        have fx742 : Sta Z T739.heap "com/example/drongo/drongo/event/Display" "CLUSTER" "Lcom/example/drongo/drongo/event/Display;" (.ref b1) := own_stakeep fx726 Kc739 (allS (own_nst Ea717) all0)
        have fx743 : Exa Z T739.heap b1 "com/example/drongo/drongo/event/Display" := Exa.keep fx727 Kc739
        have fx744 : Sta Z T739.heap "com/example/drongo/drongo/event/RotaryEvent$Knob" "VOLUME" "Lcom/example/drongo/drongo/event/RotaryEvent$Knob;" (.ref b2) := own_stakeep fx728 Kc739 (allS (own_nst Ea717) all0)
        have fx745 : Exa Z T739.heap b2 "com/example/drongo/drongo/event/RotaryEvent$Knob" := Exa.keep fx729 Kc739
        have fx746 : Sta Z T739.heap "com/example/drongo/drongo/event/Display" "MAIN" "Lcom/example/drongo/drongo/event/Display;" (.ref b3) := own_stakeep fx730 Kc739 (allS (own_nst Ea717) all0)
        have fx747 : Exa Z T739.heap b3 "com/example/drongo/drongo/event/Display" := Exa.keep fx731 Kc739
        have fx748 : Exa Z T739.heap a596 "[J" := Exa.keep fx732 Kc739
        have fx749 : Ar Z T739.heap a596 .long [(.long p0), (.long t1), (.long t2)] := Ar.keep fx733 Kc739 (ninS ne722 nin0)
        have fx750 : Exa Z T739.heap a717 "com/example/drongo/drongo/event/RotaryEvent" := Exa.keep Ea717 Kc739
        have N751 := Fr.app N649 Nc739
        have Z752 : h0.size ≤ T739.heap.size := Nat.le_trans Z734 Kc739.1
        have ne753 : a596 ≠ b739 := Nat.ne_of_lt (Nat.lt_of_lt_of_le lta hb739)
        have ne754 : a717 ≠ b739 := Nat.ne_of_lt (Nat.lt_of_lt_of_le ltb hb739)
        show Goes p.tables e below (T739.setTop (mkF m 132 #[.val (.long p0), .second, .val (.long p1), .second, .val (.long p2), .second, .val (.int p3), .val (.int p4), .val (.int (3 : Int32)), .val (.long p0), .second, .val (.long t1), .second, .val (.long t2), .second, .val (.ref a596), .val (.ref b2), .val (.int v652), .val (.ref b3), .unset, .unset, .unset, .unset, .unset, .unset, .unset] [(.ref a717)])) _
        refine g_astore X739 hx (hb hby at_132) rfl (l' := #[.val (.long p0), .second, .val (.long p1), .second, .val (.long p2), .second, .val (.int p3), .val (.int p4), .val (.int (3 : Int32)), .val (.long p0), .second, .val (.long t1), .second, .val (.long t2), .second, .val (.ref a596), .val (.ref b2), .val (.int v652), .val (.ref b3), .val (.ref a717), .unset, .unset, .unset, .unset, .unset, .unset]) rfl ?_
        show Goes p.tables e below (T739.setTop (mkF m 134 #[.val (.long p0), .second, .val (.long p1), .second, .val (.long p2), .second, .val (.int p3), .val (.int p4), .val (.int (3 : Int32)), .val (.long p0), .second, .val (.long t1), .second, .val (.long t2), .second, .val (.ref a596), .val (.ref b2), .val (.int v652), .val (.ref b3), .val (.ref a717), .unset, .unset, .unset, .unset, .unset, .unset] [])) _
        refine g_iload X739 hx (hb hby at_134) rfl ?_
        show Goes p.tables e below (T739.setTop (mkF m 136 #[.val (.long p0), .second, .val (.long p1), .second, .val (.long p2), .second, .val (.int p3), .val (.int p4), .val (.int (3 : Int32)), .val (.long p0), .second, .val (.long t1), .second, .val (.long t2), .second, .val (.ref a596), .val (.ref b2), .val (.int v652), .val (.ref b3), .val (.ref a717), .unset, .unset, .unset, .unset, .unset, .unset] [(.int (3 : Int32))])) _
        refine g_iconst X739 hx (1 : Int32) (hb hby at_136) rfl ?_
        show Goes p.tables e below (T739.setTop (mkF m 137 #[.val (.long p0), .second, .val (.long p1), .second, .val (.long p2), .second, .val (.int p3), .val (.int p4), .val (.int (3 : Int32)), .val (.long p0), .second, .val (.long t1), .second, .val (.long t2), .second, .val (.ref a596), .val (.ref b2), .val (.int v652), .val (.ref b3), .val (.ref a717), .unset, .unset, .unset, .unset, .unset, .unset] [(.int (1 : Int32)), (.int (3 : Int32))])) _
        refine g_icmp_ne X739 hx (hb hby at_137) (by decide) (pc' := 145) (by decide) (fun _ => ?_) (fun q => absurd q (by decide))
        show Goes p.tables e below (T739.setTop (mkF m 145 #[.val (.long p0), .second, .val (.long p1), .second, .val (.long p2), .second, .val (.int p3), .val (.int p4), .val (.int (3 : Int32)), .val (.long p0), .second, .val (.long t1), .second, .val (.long t2), .second, .val (.ref a596), .val (.ref b2), .val (.int v652), .val (.ref b3), .val (.ref a717), .unset, .unset, .unset, .unset, .unset, .unset] [])) _
        refine g_iload X739 hx (hb hby at_145) rfl ?_
        show Goes p.tables e below (T739.setTop (mkF m 147 #[.val (.long p0), .second, .val (.long p1), .second, .val (.long p2), .second, .val (.int p3), .val (.int p4), .val (.int (3 : Int32)), .val (.long p0), .second, .val (.long t1), .second, .val (.long t2), .second, .val (.ref a596), .val (.ref b2), .val (.int v652), .val (.ref b3), .val (.ref a717), .unset, .unset, .unset, .unset, .unset, .unset] [(.int (3 : Int32))])) _
        refine g_iconst X739 hx (2 : Int32) (hb hby at_147) rfl ?_
        show Goes p.tables e below (T739.setTop (mkF m 148 #[.val (.long p0), .second, .val (.long p1), .second, .val (.long p2), .second, .val (.int p3), .val (.int p4), .val (.int (3 : Int32)), .val (.long p0), .second, .val (.long t1), .second, .val (.long t2), .second, .val (.ref a596), .val (.ref b2), .val (.int v652), .val (.ref b3), .val (.ref a717), .unset, .unset, .unset, .unset, .unset, .unset] [(.int (2 : Int32)), (.int (3 : Int32))])) _
        refine g_icmp_ne X739 hx (hb hby at_148) (by decide) (pc' := 156) (by decide) (fun _ => ?_) (fun q => absurd q (by decide))
        show Goes p.tables e below (T739.setTop (mkF m 156 #[.val (.long p0), .second, .val (.long p1), .second, .val (.long p2), .second, .val (.int p3), .val (.int p4), .val (.int (3 : Int32)), .val (.long p0), .second, .val (.long t1), .second, .val (.long t2), .second, .val (.ref a596), .val (.ref b2), .val (.int v652), .val (.ref b3), .val (.ref a717), .unset, .unset, .unset, .unset, .unset, .unset] [])) _
        refine g_lload X739 hx (hb hby at_156) rfl ?_
        show Goes p.tables e below (T739.setTop (mkF m 158 #[.val (.long p0), .second, .val (.long p1), .second, .val (.long p2), .second, .val (.int p3), .val (.int p4), .val (.int (3 : Int32)), .val (.long p0), .second, .val (.long t1), .second, .val (.long t2), .second, .val (.ref a596), .val (.ref b2), .val (.int v652), .val (.ref b3), .val (.ref a717), .unset, .unset, .unset, .unset, .unset, .unset] [(.long t2)])) _
        refine g_lstore X739 hx (hb hby at_158) (l' := #[.val (.long p0), .second, .val (.long p1), .second, .val (.long p2), .second, .val (.int p3), .val (.int p4), .val (.int (3 : Int32)), .val (.long p0), .second, .val (.long t1), .second, .val (.long t2), .second, .val (.ref a596), .val (.ref b2), .val (.int v652), .val (.ref b3), .val (.ref a717), .val (.long t2), .second, .unset, .unset, .unset, .unset]) rfl ?_
        show Goes p.tables e below (T739.setTop (mkF m 160 #[.val (.long p0), .second, .val (.long p1), .second, .val (.long p2), .second, .val (.int p3), .val (.int p4), .val (.int (3 : Int32)), .val (.long p0), .second, .val (.long t1), .second, .val (.long t2), .second, .val (.ref a596), .val (.ref b2), .val (.int v652), .val (.ref b3), .val (.ref a717), .val (.long t2), .second, .unset, .unset, .unset, .unset] [])) _
        refine g_lload X739 hx (hb hby at_160) rfl ?_
        show Goes p.tables e below (T739.setTop (mkF m 162 #[.val (.long p0), .second, .val (.long p1), .second, .val (.long p2), .second, .val (.int p3), .val (.int p4), .val (.int (3 : Int32)), .val (.long p0), .second, .val (.long t1), .second, .val (.long t2), .second, .val (.ref a596), .val (.ref b2), .val (.int v652), .val (.ref b3), .val (.ref a717), .val (.long t2), .second, .unset, .unset, .unset, .unset] [(.long p0)])) _
        refine g_iload X739 hx (hb hby at_162) rfl ?_
        show Goes p.tables e below (T739.setTop (mkF m 164 #[.val (.long p0), .second, .val (.long p1), .second, .val (.long p2), .second, .val (.int p3), .val (.int p4), .val (.int (3 : Int32)), .val (.long p0), .second, .val (.long t1), .second, .val (.long t2), .second, .val (.ref a596), .val (.ref b2), .val (.int v652), .val (.ref b3), .val (.ref a717), .val (.long t2), .second, .unset, .unset, .unset, .unset] [(.int (3 : Int32)), (.long p0)])) _
        refine g_iconst X739 hx (1 : Int32) (hb hby at_164) rfl ?_
        show Goes p.tables e below (T739.setTop (mkF m 165 #[.val (.long p0), .second, .val (.long p1), .second, .val (.long p2), .second, .val (.int p3), .val (.int p4), .val (.int (3 : Int32)), .val (.long p0), .second, .val (.long t1), .second, .val (.long t2), .second, .val (.ref a596), .val (.ref b2), .val (.int v652), .val (.ref b3), .val (.ref a717), .val (.long t2), .second, .unset, .unset, .unset, .unset] [(.int (1 : Int32)), (.int (3 : Int32)), (.long p0)])) _
        refine g_icmp_le X739 hx (hb hby at_165) (by decide) (pc' := 173) (by decide) (fun q => absurd (by decide) q) (fun _ => ?_)
        show Goes p.tables e below (T739.setTop (mkF m 168 #[.val (.long p0), .second, .val (.long p1), .second, .val (.long p2), .second, .val (.int p3), .val (.int p4), .val (.int (3 : Int32)), .val (.long p0), .second, .val (.long t1), .second, .val (.long t2), .second, .val (.ref a596), .val (.ref b2), .val (.int v652), .val (.ref b3), .val (.ref a717), .val (.long t2), .second, .unset, .unset, .unset, .unset] [(.long p0)])) _
        refine g_lload X739 hx (hb hby at_168) rfl ?_
        show Goes p.tables e below (T739.setTop (mkF m 170 #[.val (.long p0), .second, .val (.long p1), .second, .val (.long p2), .second, .val (.int p3), .val (.int p4), .val (.int (3 : Int32)), .val (.long p0), .second, .val (.long t1), .second, .val (.long t2), .second, .val (.ref a596), .val (.ref b2), .val (.int v652), .val (.ref b3), .val (.ref a717), .val (.long t2), .second, .unset, .unset, .unset, .unset] [(.long t1), (.long p0)])) _
        refine g_goto X739 hx (hb hby at_170) (by decide) (pc' := 175) (by decide) ?_
        show Goes p.tables e below (T739.setTop (mkF m 175 #[.val (.long p0), .second, .val (.long p1), .second, .val (.long p2), .second, .val (.int p3), .val (.int p4), .val (.int (3 : Int32)), .val (.long p0), .second, .val (.long t1), .second, .val (.long t2), .second, .val (.ref a596), .val (.ref b2), .val (.int v652), .val (.ref b3), .val (.ref a717), .val (.long t2), .second, .unset, .unset, .unset, .unset] [(.long t1), (.long p0)])) _
        refine g_iload X739 hx (hb hby at_175) rfl ?_
        show Goes p.tables e below (T739.setTop (mkF m 177 #[.val (.long p0), .second, .val (.long p1), .second, .val (.long p2), .second, .val (.int p3), .val (.int p4), .val (.int (3 : Int32)), .val (.long p0), .second, .val (.long t1), .second, .val (.long t2), .second, .val (.ref a596), .val (.ref b2), .val (.int v652), .val (.ref b3), .val (.ref a717), .val (.long t2), .second, .unset, .unset, .unset, .unset] [(.int (3 : Int32)), (.long t1), (.long p0)])) _
        refine g_iconst X739 hx (2 : Int32) (hb hby at_177) rfl ?_
        show Goes p.tables e below (T739.setTop (mkF m 178 #[.val (.long p0), .second, .val (.long p1), .second, .val (.long p2), .second, .val (.int p3), .val (.int p4), .val (.int (3 : Int32)), .val (.long p0), .second, .val (.long t1), .second, .val (.long t2), .second, .val (.ref a596), .val (.ref b2), .val (.int v652), .val (.ref b3), .val (.ref a717), .val (.long t2), .second, .unset, .unset, .unset, .unset] [(.int (2 : Int32)), (.int (3 : Int32)), (.long t1), (.long p0)])) _
        refine g_icmp_le X739 hx (hb hby at_178) (by decide) (pc' := 186) (by decide) (fun q => absurd (by decide) q) (fun _ => ?_)
        show Goes p.tables e below (T739.setTop (mkF m 181 #[.val (.long p0), .second, .val (.long p1), .second, .val (.long p2), .second, .val (.int p3), .val (.int p4), .val (.int (3 : Int32)), .val (.long p0), .second, .val (.long t1), .second, .val (.long t2), .second, .val (.ref a596), .val (.ref b2), .val (.int v652), .val (.ref b3), .val (.ref a717), .val (.long t2), .second, .unset, .unset, .unset, .unset] [(.long t1), (.long p0)])) _
        refine g_lload X739 hx (hb hby at_181) rfl ?_
        show Goes p.tables e below (T739.setTop (mkF m 183 #[.val (.long p0), .second, .val (.long p1), .second, .val (.long p2), .second, .val (.int p3), .val (.int p4), .val (.int (3 : Int32)), .val (.long p0), .second, .val (.long t1), .second, .val (.long t2), .second, .val (.ref a596), .val (.ref b2), .val (.int v652), .val (.ref b3), .val (.ref a717), .val (.long t2), .second, .unset, .unset, .unset, .unset] [(.long t2), (.long t1), (.long p0)])) _
        refine g_goto X739 hx (hb hby at_183) (by decide) (pc' := 188) (by decide) ?_
        show Goes p.tables e below (T739.setTop (mkF m 188 #[.val (.long p0), .second, .val (.long p1), .second, .val (.long p2), .second, .val (.int p3), .val (.int p4), .val (.int (3 : Int32)), .val (.long p0), .second, .val (.long t1), .second, .val (.long t2), .second, .val (.ref a596), .val (.ref b2), .val (.int v652), .val (.ref b3), .val (.ref a717), .val (.long t2), .second, .unset, .unset, .unset, .unset] [(.long t2), (.long t1), (.long p0)])) _
        refine g_callS X739 hx hZ hown (by rw [hml]; rfl) rfl (hw _ (List.mem_of_getElem? (i := 1) rfl)) (hw _ (List.mem_of_getElem? (i := 2) rfl)) (hw _ (List.mem_of_getElem? (i := 3) rfl)) (hw _ (List.mem_of_getElem? (i := 4) rfl)) (rmX l Z a0 hw t1 t2 T739.heap) [(.long t1), (.long t2)] rfl [(.long p0)] rfl (lenOf pd_1 rfl) (hb hby at_188) (by decide) 2 (by decide) (by decide) (by first | decide | exact Nat.le_refl _) (by decide) (by decide) (fun v T755 L755 X755 hQ755 => ?_)
        obtain ⟨rfl, e755, rfl⟩ := hQ755
        have N756 := Fr.app N751 (Fr.nil h0.size)
        show Goes p.tables e below (T755.setTop (mkF m 191 #[.val (.long p0), .second, .val (.long p1), .second, .val (.long p2), .second, .val (.int p3), .val (.int p4), .val (.int (3 : Int32)), .val (.long p0), .second, .val (.long t1), .second, .val (.long t2), .second, .val (.ref a596), .val (.ref b2), .val (.int v652), .val (.ref b3), .val (.ref a717), .val (.long t2), .second, .unset, .unset, .unset, .unset] [(.long (maxV t1 t2)), (.long p0)])) _
        refine g_callS X755 hx hZ hown (by rw [hml]; rfl) e755 (hw _ (List.mem_of_getElem? (i := 1) rfl)) (hw _ (List.mem_of_getElem? (i := 2) rfl)) (hw _ (List.mem_of_getElem? (i := 3) rfl)) (hw _ (List.mem_of_getElem? (i := 4) rfl)) (rmX l Z a0 hw p0 (maxV t1 t2) T739.heap) [(.long p0), (.long (maxV t1 t2))] rfl [] rfl (lenOf pd_1 rfl) (hb hby at_191) (by decide) 0 (by decide) (by decide) (by first | decide | exact Nat.le_refl _) (by decide) (by decide) (fun v T757 L757 X757 hQ757 => ?_)
        obtain ⟨rfl, e757, rfl⟩ := hQ757
        have N758 := Fr.app N756 (Fr.nil h0.size)
        show Goes p.tables e below (T757.setTop (mkF m 194 #[.val (.long p0), .second, .val (.long p1), .second, .val (.long p2), .second, .val (.int p3), .val (.int p4), .val (.int (3 : Int32)), .val (.long p0), .second, .val (.long t1), .second, .val (.long t2), .second, .val (.ref a596), .val (.ref b2), .val (.int v652), .val (.ref b3), .val (.ref a717), .val (.long t2), .second, .unset, .unset, .unset, .unset] [(.long (maxV p0 (maxV t1 t2)))])) _
        obtain ⟨vlat, hvlat⟩ : ∃ z : Int64, z = (maxV p0 (maxV t1 t2)) := ⟨_, rfl⟩
        refine g_nameL hvlat ?_
        show Goes p.tables e below (T757.setTop (mkF m 194 #[.val (.long p0), .second, .val (.long p1), .second, .val (.long p2), .second, .val (.int p3), .val (.int p4), .val (.int (3 : Int32)), .val (.long p0), .second, .val (.long t1), .second, .val (.long t2), .second, .val (.ref a596), .val (.ref b2), .val (.int v652), .val (.ref b3), .val (.ref a717), .val (.long t2), .second, .unset, .unset, .unset, .unset] [(.long vlat)])) _
        refine g_lstore X757 hx (hb hby at_194) (l' := #[.val (.long p0), .second, .val (.long p1), .second, .val (.long p2), .second, .val (.int p3), .val (.int p4), .val (.int (3 : Int32)), .val (.long p0), .second, .val (.long t1), .second, .val (.long t2), .second, .val (.ref a596), .val (.ref b2), .val (.int v652), .val (.ref b3), .val (.ref a717), .val (.long t2), .second, .val (.long vlat), .second, .unset, .unset]) rfl ?_
        show Goes p.tables e below (T757.setTop (mkF m 196 #[.val (.long p0), .second, .val (.long p1), .second, .val (.long p2), .second, .val (.int p3), .val (.int p4), .val (.int (3 : Int32)), .val (.long p0), .second, .val (.long t1), .second, .val (.long t2), .second, .val (.ref a596), .val (.ref b2), .val (.int v652), .val (.ref b3), .val (.ref a717), .val (.long t2), .second, .val (.long vlat), .second, .unset, .unset] [])) _
        refine g_aload X757 hx (hb hby at_196) rfl rfl ?_
        show Goes p.tables e below (T757.setTop (mkF m 198 #[.val (.long p0), .second, .val (.long p1), .second, .val (.long p2), .second, .val (.int p3), .val (.int p4), .val (.int (3 : Int32)), .val (.long p0), .second, .val (.long t1), .second, .val (.long t2), .second, .val (.ref a596), .val (.ref b2), .val (.int v652), .val (.ref b3), .val (.ref a717), .val (.long t2), .second, .val (.long vlat), .second, .unset, .unset] [(.ref a596)])) _
        refine g_iload X757 hx (hb hby at_198) rfl ?_
        show Goes p.tables e below (T757.setTop (mkF m 200 #[.val (.long p0), .second, .val (.long p1), .second, .val (.long p2), .second, .val (.int p3), .val (.int p4), .val (.int (3 : Int32)), .val (.long p0), .second, .val (.long t1), .second, .val (.long t2), .second, .val (.ref a596), .val (.ref b2), .val (.int v652), .val (.ref b3), .val (.ref a717), .val (.long t2), .second, .val (.long vlat), .second, .unset, .unset] [(.int (3 : Int32)), (.ref a596)])) _
        refine g_iconst X757 hx (1 : Int32) (hb hby at_200) rfl ?_
        show Goes p.tables e below (T757.setTop (mkF m 201 #[.val (.long p0), .second, .val (.long p1), .second, .val (.long p2), .second, .val (.int p3), .val (.int p4), .val (.int (3 : Int32)), .val (.long p0), .second, .val (.long t1), .second, .val (.long t2), .second, .val (.ref a596), .val (.ref b2), .val (.int v652), .val (.ref b3), .val (.ref a717), .val (.long t2), .second, .val (.long vlat), .second, .unset, .unset] [(.int (1 : Int32)), (.int (3 : Int32)), (.ref a596)])) _
        refine g_isub X757 hx (hb hby at_201) ?_
        show Goes p.tables e below (T757.setTop (mkF m 202 #[.val (.long p0), .second, .val (.long p1), .second, .val (.long p2), .second, .val (.int p3), .val (.int p4), .val (.int (3 : Int32)), .val (.long p0), .second, .val (.long t1), .second, .val (.long t2), .second, .val (.ref a596), .val (.ref b2), .val (.int v652), .val (.ref b3), .val (.ref a717), .val (.long t2), .second, .val (.long vlat), .second, .unset, .unset] [(.int ((3 : Int32) - (1 : Int32))), (.ref a596)])) _
        refine g_lload X757 hx (hb hby at_202) rfl ?_
        show Goes p.tables e below (T757.setTop (mkF m 204 #[.val (.long p0), .second, .val (.long p1), .second, .val (.long p2), .second, .val (.int p3), .val (.int p4), .val (.int (3 : Int32)), .val (.long p0), .second, .val (.long t1), .second, .val (.long t2), .second, .val (.ref a596), .val (.ref b2), .val (.int v652), .val (.ref b3), .val (.ref a717), .val (.long t2), .second, .val (.long vlat), .second, .unset, .unset] [(.long t2), (.int ((3 : Int32) - (1 : Int32))), (.ref a596)])) _
        refine g_ldc2 X757 hx hZ hown (hw _ (List.mem_of_getElem? (i := 38) rfl)) (hb hby at_204) ?_
        show Goes p.tables e below (T757.setTop (mkF m 207 #[.val (.long p0), .second, .val (.long p1), .second, .val (.long p2), .second, .val (.int p3), .val (.int p4), .val (.int (3 : Int32)), .val (.long p0), .second, .val (.long t1), .second, .val (.long t2), .second, .val (.ref a596), .val (.ref b2), .val (.int v652), .val (.ref b3), .val (.ref a717), .val (.long t2), .second, .val (.long vlat), .second, .unset, .unset] [(.long (-1 : Int64)), (.long t2), (.int ((3 : Int32) - (1 : Int32))), (.ref a596)])) _
        refine g_lxor X757 hx (hb hby at_207) ?_
        show Goes p.tables e below (T757.setTop (mkF m 208 #[.val (.long p0), .second, .val (.long p1), .second, .val (.long p2), .second, .val (.int p3), .val (.int p4), .val (.int (3 : Int32)), .val (.long p0), .second, .val (.long t1), .second, .val (.long t2), .second, .val (.ref a596), .val (.ref b2), .val (.int v652), .val (.ref b3), .val (.ref a717), .val (.long t2), .second, .val (.long vlat), .second, .unset, .unset] [(.long (t2 ^^^ (-1 : Int64))), (.int ((3 : Int32) - (1 : Int32))), (.ref a596)])) _
        refine g_lastore X757 hx hZ e757 fx749 2 (by decide) (by simp) (hb hby at_208) (fun T759 h759 X759 e759 W759 A759 => ?_)
        have fx760 : Sta Z h759 "com/example/drongo/drongo/event/RotaryEvent$Knob" "NAVIGATION" "Lcom/example/drongo/drongo/event/RotaryEvent$Knob;" (.ref b0) := Sta.wr W759 fx740
        have fx761 : Exa Z h759 b0 "com/example/drongo/drongo/event/RotaryEvent$Knob" := Exa.wr W759 fx741
        have fx762 : Sta Z h759 "com/example/drongo/drongo/event/Display" "CLUSTER" "Lcom/example/drongo/drongo/event/Display;" (.ref b1) := Sta.wr W759 fx742
        have fx763 : Exa Z h759 b1 "com/example/drongo/drongo/event/Display" := Exa.wr W759 fx743
        have fx764 : Sta Z h759 "com/example/drongo/drongo/event/RotaryEvent$Knob" "VOLUME" "Lcom/example/drongo/drongo/event/RotaryEvent$Knob;" (.ref b2) := Sta.wr W759 fx744
        have fx765 : Exa Z h759 b2 "com/example/drongo/drongo/event/RotaryEvent$Knob" := Exa.wr W759 fx745
        have fx766 : Sta Z h759 "com/example/drongo/drongo/event/Display" "MAIN" "Lcom/example/drongo/drongo/event/Display;" (.ref b3) := Sta.wr W759 fx746
        have fx767 : Exa Z h759 b3 "com/example/drongo/drongo/event/Display" := Exa.wr W759 fx747
        have fx768 : Exa Z h759 a596 "[J" := Exa.wr W759 fx748
        have fx769 : Exa Z h759 a717 "com/example/drongo/drongo/event/RotaryEvent" := Exa.wr W759 fx750
        have fx770 : Fld Z h759 a717 "com/example/drongo/drongo/event/RotaryEvent" "timesMillis" "[J" (.ref b739) := Fld.other W759 fT739 (Or.inl (Ne.symm ne722))
        have fx771 : Ar Z h759 b739 .long [(.long p0), (.long t1), (.long t2)] := Ar.other Ab739 W759 (Ne.symm ne753)
        have fx772 : Ar Z h759 a596 .long (List.set [(.long p0), (.long t1), (.long t2)] 2 (.long (t2 ^^^ (-1 : Int64)))) := A759
        have N773 := Fr.snoc X759 N758 ge601
        have Z774 : h0.size ≤ h759.size := by rw [W759.size]; exact Z752
        show Goes p.tables e below (T759.setTop (mkF m 209 #[.val (.long p0), .second, .val (.long p1), .second, .val (.long p2), .second, .val (.int p3), .val (.int p4), .val (.int (3 : Int32)), .val (.long p0), .second, .val (.long t1), .second, .val (.long t2), .second, .val (.ref a596), .val (.ref b2), .val (.int v652), .val (.ref b3), .val (.ref a717), .val (.long t2), .second, .val (.long vlat), .second, .unset, .unset] [])) _
        refine g_aload X759 hx (hb hby at_209) rfl rfl ?_
        show Goes p.tables e below (T759.setTop (mkF m 211 #[.val (.long p0), .second, .val (.long p1), .second, .val (.long p2), .second, .val (.int p3), .val (.int p4), .val (.int (3 : Int32)), .val (.long p0), .second, .val (.long t1), .second, .val (.long t2), .second, .val (.ref a596), .val (.ref b2), .val (.int v652), .val (.ref b3), .val (.ref a717), .val (.long t2), .second, .val (.long vlat), .second, .unset, .unset] [(.ref a717)])) _
        refine g_callV X759 hx hZ hown (by rw [hml]; rfl) e759 (K := "com/example/drongo/drongo/event/RotaryEvent") (hw _ (List.mem_of_getElem? (i := 39) rfl)) (hw _ (List.mem_of_getElem? (i := 40) rfl)) (hw _ (List.mem_of_getElem? (i := 42) rfl)) (hw _ (List.mem_of_getElem? (i := 41) rfl)) (hw _ (List.mem_of_getElem? (i := 14) rfl)) (hw _ (List.mem_of_getElem? (i := 43) rfl)) fx769 (rmL l Z a0 hw a717 h759 b739 [(.long p0), (.long t1), (.long t2)] (3 : Int32) 2 t2 rfl (by decide) rfl fx770 fx771) [] rfl [] rfl (lenOf pd_4 rfl) (hb hby at_211) (by decide) 0 (by decide) (by decide) (by first | decide | exact Nat.le_refl _) (by decide) (by decide) (fun v T775 L775 X775 hQ775 => ?_)
        obtain ⟨rfl, e775, rfl⟩ := hQ775
        have N776 := Fr.app N773 (Fr.nil h0.size)
        show Goes p.tables e below (T775.setTop (mkF m 214 #[.val (.long p0), .second, .val (.long p1), .second, .val (.long p2), .second, .val (.int p3), .val (.int p4), .val (.int (3 : Int32)), .val (.long p0), .second, .val (.long t1), .second, .val (.long t2), .second, .val (.ref a596), .val (.ref b2), .val (.int v652), .val (.ref b3), .val (.ref a717), .val (.long t2), .second, .val (.long vlat), .second, .unset, .unset] [(.long t2)])) _
        refine g_lstore X775 hx (hb hby at_214) (l' := #[.val (.long p0), .second, .val (.long p1), .second, .val (.long p2), .second, .val (.int p3), .val (.int p4), .val (.int (3 : Int32)), .val (.long p0), .second, .val (.long t1), .second, .val (.long t2), .second, .val (.ref a596), .val (.ref b2), .val (.int v652), .val (.ref b3), .val (.ref a717), .val (.long t2), .second, .val (.long vlat), .second, .val (.long t2), .second]) rfl ?_
        show Goes p.tables e below (T775.setTop (mkF m 216 #[.val (.long p0), .second, .val (.long p1), .second, .val (.long p2), .second, .val (.int p3), .val (.int p4), .val (.int (3 : Int32)), .val (.long p0), .second, .val (.long t1), .second, .val (.long t2), .second, .val (.ref a596), .val (.ref b2), .val (.int v652), .val (.ref b3), .val (.ref a717), .val (.long t2), .second, .val (.long vlat), .second, .val (.long t2), .second] [])) _
        refine g_lload X775 hx (hb hby at_216) rfl ?_
        show Goes p.tables e below (T775.setTop (mkF m 218 #[.val (.long p0), .second, .val (.long p1), .second, .val (.long p2), .second, .val (.int p3), .val (.int p4), .val (.int (3 : Int32)), .val (.long p0), .second, .val (.long t1), .second, .val (.long t2), .second, .val (.ref a596), .val (.ref b2), .val (.int v652), .val (.ref b3), .val (.ref a717), .val (.long t2), .second, .val (.long vlat), .second, .val (.long t2), .second] [(.long t2)])) _
        refine g_lload X775 hx (hb hby at_218) rfl ?_
        show Goes p.tables e below (T775.setTop (mkF m 220 #[.val (.long p0), .second, .val (.long p1), .second, .val (.long p2), .second, .val (.int p3), .val (.int p4), .val (.int (3 : Int32)), .val (.long p0), .second, .val (.long t1), .second, .val (.long t2), .second, .val (.ref a596), .val (.ref b2), .val (.int v652), .val (.ref b3), .val (.ref a717), .val (.long t2), .second, .val (.long vlat), .second, .val (.long t2), .second] [(.long t2), (.long t2)])) _
        refine g_lcmp X775 hx (hb hby at_220) ?_
        show Goes p.tables e below (T775.setTop (mkF m 221 #[.val (.long p0), .second, .val (.long p1), .second, .val (.long p2), .second, .val (.int p3), .val (.int p4), .val (.int (3 : Int32)), .val (.long p0), .second, .val (.long t1), .second, .val (.long t2), .second, .val (.ref a596), .val (.ref b2), .val (.int v652), .val (.ref b3), .val (.ref a717), .val (.long t2), .second, .val (.long vlat), .second, .val (.long t2), .second] [(.int (XT.cmpL t2 t2))])) _
        have c221 : t2 = t2 := rfl
        refine g_lif_ne X775 hx (hb hby at_221) (by decide) (pc' := 247) (by decide) (fun q => absurd c221 q) (fun _ => ?_)
        show Goes p.tables e below (T775.setTop (mkF m 224 #[.val (.long p0), .second, .val (.long p1), .second, .val (.long p2), .second, .val (.int p3), .val (.int p4), .val (.int (3 : Int32)), .val (.long p0), .second, .val (.long t1), .second, .val (.long t2), .second, .val (.ref a596), .val (.ref b2), .val (.int v652), .val (.ref b3), .val (.ref a717), .val (.long t2), .second, .val (.long vlat), .second, .val (.long t2), .second] [])) _
        refine g_lload X775 hx (hb hby at_224) rfl ?_
        show Goes p.tables e below (T775.setTop (mkF m 226 #[.val (.long p0), .second, .val (.long p1), .second, .val (.long p2), .second, .val (.int p3), .val (.int p4), .val (.int (3 : Int32)), .val (.long p0), .second, .val (.long t1), .second, .val (.long t2), .second, .val (.ref a596), .val (.ref b2), .val (.int v652), .val (.ref b3), .val (.ref a717), .val (.long t2), .second, .val (.long vlat), .second, .val (.long t2), .second] [(.long t2)])) _
        refine g_lload X775 hx (hb hby at_226) rfl ?_
        show Goes p.tables e below (T775.setTop (mkF m 228 #[.val (.long p0), .second, .val (.long p1), .second, .val (.long p2), .second, .val (.int p3), .val (.int p4), .val (.int (3 : Int32)), .val (.long p0), .second, .val (.long t1), .second, .val (.long t2), .second, .val (.ref a596), .val (.ref b2), .val (.int v652), .val (.ref b3), .val (.ref a717), .val (.long t2), .second, .val (.long vlat), .second, .val (.long t2), .second] [(.long vlat), (.long t2)])) _
        refine g_lcmp X775 hx (hb hby at_228) ?_
        show Goes p.tables e below (T775.setTop (mkF m 229 #[.val (.long p0), .second, .val (.long p1), .second, .val (.long p2), .second, .val (.int p3), .val (.int p4), .val (.int (3 : Int32)), .val (.long p0), .second, .val (.long t1), .second, .val (.long t2), .second, .val (.ref a596), .val (.ref b2), .val (.int v652), .val (.ref b3), .val (.ref a717), .val (.long t2), .second, .val (.long vlat), .second, .val (.long t2), .second] [(.int (XT.cmpL t2 vlat))])) _
        have c229 : t2 = vlat := (by rw [hvlat, ht2, ht1]; exact (own_max3 p0 p1 p2).symm)
        refine g_lif_ne X775 hx (hb hby at_229) (by decide) (pc' := 247) (by decide) (fun q => absurd c229 q) (fun _ => ?_)
        show Goes p.tables e below (T775.setTop (mkF m 232 #[.val (.long p0), .second, .val (.long p1), .second, .val (.long p2), .second, .val (.int p3), .val (.int p4), .val (.int (3 : Int32)), .val (.long p0), .second, .val (.long t1), .second, .val (.long t2), .second, .val (.ref a596), .val (.ref b2), .val (.int v652), .val (.ref b3), .val (.ref a717), .val (.long t2), .second, .val (.long vlat), .second, .val (.long t2), .second] [])) _
        refine g_aload X775 hx (hb hby at_232) rfl rfl ?_
        show Goes p.tables e below (T775.setTop (mkF m 234 #[.val (.long p0), .second, .val (.long p1), .second, .val (.long p2), .second, .val (.int p3), .val (.int p4), .val (.int (3 : Int32)), .val (.long p0), .second, .val (.long t1), .second, .val (.long t2), .second, .val (.ref a596), .val (.ref b2), .val (.int v652), .val (.ref b3), .val (.ref a717), .val (.long t2), .second, .val (.long vlat), .second, .val (.long t2), .second] [(.ref a717)])) _
        refine g_callV X775 hx hZ hown (by rw [hml]; rfl) e775 (K := "com/example/drongo/drongo/event/RotaryEvent") (hw _ (List.mem_of_getElem? (i := 39) rfl)) (hw _ (List.mem_of_getElem? (i := 40) rfl)) (hw _ (List.mem_of_getElem? (i := 42) rfl)) (hw _ (List.mem_of_getElem? (i := 41) rfl)) (hw _ (List.mem_of_getElem? (i := 14) rfl)) (hw _ (List.mem_of_getElem? (i := 43) rfl)) fx769 (rmL l Z a0 hw a717 h759 b739 [(.long p0), (.long t1), (.long t2)] (3 : Int32) 2 t2 rfl (by decide) rfl fx770 fx771) [] rfl [] rfl (lenOf pd_4 rfl) (hb hby at_234) (by decide) 0 (by decide) (by decide) (by first | decide | exact Nat.le_refl _) (by decide) (by decide) (fun v T777 L777 X777 hQ777 => ?_)
        obtain ⟨rfl, e777, rfl⟩ := hQ777
        have N778 := Fr.app N776 (Fr.nil h0.size)
        show Goes p.tables e below (T777.setTop (mkF m 237 #[.val (.long p0), .second, .val (.long p1), .second, .val (.long p2), .second, .val (.int p3), .val (.int p4), .val (.int (3 : Int32)), .val (.long p0), .second, .val (.long t1), .second, .val (.long t2), .second, .val (.ref a596), .val (.ref b2), .val (.int v652), .val (.ref b3), .val (.ref a717), .val (.long t2), .second, .val (.long vlat), .second, .val (.long t2), .second] [(.long t2)])) _
        refine g_lload X777 hx (hb hby at_237) rfl ?_
        show Goes p.tables e below (T777.setTop (mkF m 239 #[.val (.long p0), .second, .val (.long p1), .second, .val (.long p2), .second, .val (.int p3), .val (.int p4), .val (.int (3 : Int32)), .val (.long p0), .second, .val (.long t1), .second, .val (.long t2), .second, .val (.ref a596), .val (.ref b2), .val (.int v652), .val (.ref b3), .val (.ref a717), .val (.long t2), .second, .val (.long vlat), .second, .val (.long t2), .second] [(.long t2), (.long t2)])) _
        refine g_lcmp X777 hx (hb hby at_239) ?_
        show Goes p.tables e below (T777.setTop (mkF m 240 #[.val (.long p0), .second, .val (.long p1), .second, .val (.long p2), .second, .val (.int p3), .val (.int p4), .val (.int (3 : Int32)), .val (.long p0), .second, .val (.long t1), .second, .val (.long t2), .second, .val (.ref a596), .val (.ref b2), .val (.int v652), .val (.ref b3), .val (.ref a717), .val (.long t2), .second, .val (.long vlat), .second, .val (.long t2), .second] [(.int (XT.cmpL t2 t2))])) _
        have c240 : t2 = t2 := rfl
        refine g_lif_ne X777 hx (hb hby at_240) (by decide) (pc' := 247) (by decide) (fun q => absurd c240 q) (fun _ => ?_)
        show Goes p.tables e below (T777.setTop (mkF m 243 #[.val (.long p0), .second, .val (.long p1), .second, .val (.long p2), .second, .val (.int p3), .val (.int p4), .val (.int (3 : Int32)), .val (.long p0), .second, .val (.long t1), .second, .val (.long t2), .second, .val (.ref a596), .val (.ref b2), .val (.int v652), .val (.ref b3), .val (.ref a717), .val (.long t2), .second, .val (.long vlat), .second, .val (.long t2), .second] [])) _
        refine g_iconst X777 hx (1 : Int32) (hb hby at_243) rfl ?_
        show Goes p.tables e below (T777.setTop (mkF m 244 #[.val (.long p0), .second, .val (.long p1), .second, .val (.long p2), .second, .val (.int p3), .val (.int p4), .val (.int (3 : Int32)), .val (.long p0), .second, .val (.long t1), .second, .val (.long t2), .second, .val (.ref a596), .val (.ref b2), .val (.int v652), .val (.ref b3), .val (.ref a717), .val (.long t2), .second, .val (.long vlat), .second, .val (.long t2), .second] [(.int (1 : Int32))])) _
        refine g_goto X777 hx (hb hby at_244) (by decide) (pc' := 248) (by decide) ?_
        show Goes p.tables e below (T777.setTop (mkF m 248 #[.val (.long p0), .second, .val (.long p1), .second, .val (.long p2), .second, .val (.int p3), .val (.int p4), .val (.int (3 : Int32)), .val (.long p0), .second, .val (.long t1), .second, .val (.long t2), .second, .val (.ref a596), .val (.ref b2), .val (.int v652), .val (.ref b3), .val (.ref a717), .val (.long t2), .second, .val (.long vlat), .second, .val (.long t2), .second] [(.int (1 : Int32))])) _
        exact g_retZ X777 hx (hz := (by decide)) hret hlk (hb hby at_248) (by decide) (by decide) ⟨rfl, N778⟩
    · skip
      show Goes p.tables e below (T638.setTop (mkF m 74 #[.val (.long p0), .second, .val (.long p1), .second, .val (.long p2), .second, .val (.int p3), .val (.int p4), .val (.int (3 : Int32)), .val (.long p0), .second, .val (.long t1), .second, .val (.long t2), .second, .val (.ref a596), .unset, .unset, .unset, .unset, .unset, .unset, .unset, .unset, .unset, .unset] [])) _
      refine g_getS X638 hx hZ hown e638 (host := "") (Or.inl (hw _ (List.mem_of_getElem? (i := 6) rfl))) fx639 (hb hby at_74) (fun T779 X779 e779 => ?_)
      show Goes p.tables e below (T779.setTop (mkF m 77 #[.val (.long p0), .second, .val (.long p1), .second, .val (.long p2), .second, .val (.int p3), .val (.int p4), .val (.int (3 : Int32)), .val (.long p0), .second, .val (.long t1), .second, .val (.long t2), .second, .val (.ref a596), .unset, .unset, .unset, .unset, .unset, .unset, .unset, .unset, .unset, .unset] [(.ref b0)])) _
      refine g_goto X779 hx (hb hby at_77) (by decide) (pc' := 83) (by decide) ?_
      show Goes p.tables e below (T779.setTop (mkF m 83 #[.val (.long p0), .second, .val (.long p1), .second, .val (.long p2), .second, .val (.int p3), .val (.int p4), .val (.int (3 : Int32)), .val (.long p0), .second, .val (.long t1), .second, .val (.long t2), .second, .val (.ref a596), .unset, .unset, .unset, .unset, .unset, .unset, .unset, .unset, .unset, .unset] [(.ref b0)])) _
      refine g_astore X779 hx (hb hby at_83) rfl (l' := #[.val (.long p0), .second, .val (.long p1), .second, .val (.long p2), .second, .val (.int p3), .val (.int p4), .val (.int (3 : Int32)), .val (.long p0), .second, .val (.long t1), .second, .val (.long t2), .second, .val (.ref a596), .val (.ref b0), .unset, .unset, .unset, .unset, .unset, .unset, .unset, .unset, .unset]) rfl ?_
      show Goes p.tables e below (T779.setTop (mkF m 85 #[.val (.long p0), .second, .val (.long p1), .second, .val (.long p2), .second, .val (.int p3), .val (.int p4), .val (.int (3 : Int32)), .val (.long p0), .second, .val (.long t1), .second, .val (.long t2), .second, .val (.ref a596), .val (.ref b0), .unset, .unset, .unset, .unset, .unset, .unset, .unset, .unset, .unset] [])) _
      refine g_iload X779 hx (hb hby at_85) rfl ?_
      show Goes p.tables e below (T779.setTop (mkF m 87 #[.val (.long p0), .second, .val (.long p1), .second, .val (.long p2), .second, .val (.int p3), .val (.int p4), .val (.int (3 : Int32)), .val (.long p0), .second, .val (.long t1), .second, .val (.long t2), .second, .val (.ref a596), .val (.ref b0), .unset, .unset, .unset, .unset, .unset, .unset, .unset, .unset, .unset] [(.int p4)])) _
      refine g_iconst X779 hx (2 : Int32) (hb hby at_87) rfl ?_
      show Goes p.tables e below (T779.setTop (mkF m 88 #[.val (.long p0), .second, .val (.long p1), .second, .val (.long p2), .second, .val (.int p3), .val (.int p4), .val (.int (3 : Int32)), .val (.long p0), .second, .val (.long t1), .second, .val (.long t2), .second, .val (.ref a596), .val (.ref b0), .unset, .unset, .unset, .unset, .unset, .unset, .unset, .unset, .unset] [(.int (2 : Int32)), (.int p4)])) _
      refine g_iand X779 hx (hb hby at_88) ?_
      show Goes p.tables e below (T779.setTop (mkF m 89 #[.val (.long p0), .second, .val (.long p1), .second, .val (.long p2), .second, .val (.int p3), .val (.int p4), .val (.int (3 : Int32)), .val (.long p0), .second, .val (.long t1), .second, .val (.long t2), .second, .val (.ref a596), .val (.ref b0), .unset, .unset, .unset, .unset, .unset, .unset, .unset, .unset, .unset] [(.int (p4 &&& (2 : Int32)))])) _
      obtain ⟨v780, hv780⟩ : ∃ z : Int32, z = (if (p4 &&& (2 : Int32)) = 0 then (0 : Int32) else (1 : Int32)) := ⟨_, rfl⟩
      refine Goes.join (S' := T779.setTop (mkF m 97 #[.val (.long p0), .second, .val (.long p1), .second, .val (.long p2), .second, .val (.int p3), .val (.int p4), .val (.int (3 : Int32)), .val (.long p0), .second, .val (.long t1), .second, .val (.long t2), .second, .val (.ref a596), .val (.ref b0), .unset, .unset, .unset, .unset, .unset, .unset, .unset, .unset, .unset] [(.int v780)])) (fun J => ?_) ?_
      · skip
        refine g_if_eq X779 hx (hb hby at_89) (by decide) (pc' := 96) (by decide) (fun c89 => ?_) (fun c89 => ?_)
        · skip
          show Goes p.tables e below (T779.setTop (mkF m 96 #[.val (.long p0), .second, .val (.long p1), .second, .val (.long p2), .second, .val (.int p3), .val (.int p4), .val (.int (3 : Int32)), .val (.long p0), .second, .val (.long t1), .second, .val (.long t2), .second, .val (.ref a596), .val (.ref b0), .unset, .unset, .unset, .unset, .unset, .unset, .unset, .unset, .unset] [])) _
          refine g_iconst X779 hx (0 : Int32) (hb hby at_96) rfl ?_
          rw [show v780 = ((0 : Int32)) from by rw [hv780, if_pos c89]] at J
          exact J
        · skip
          show Goes p.tables e below (T779.setTop (mkF m 92 #[.val (.long p0), .second, .val (.long p1), .second, .val (.long p2), .second, .val (.int p3), .val (.int p4), .val (.int (3 : Int32)), .val (.long p0), .second, .val (.long t1), .second, .val (.long t2), .second, .val (.ref a596), .val (.ref b0), .unset, .unset, .unset, .unset, .unset, .unset, .unset, .unset, .unset] [])) _
          refine g_iconst X779 hx (1 : Int32) (hb hby at_92) rfl ?_
          show Goes p.tables e below (T779.setTop (mkF m 93 #[.val (.long p0), .second, .val (.long p1), .second, .val (.long p2), .second, .val (.int p3), .val (.int p4), .val (.int (3 : Int32)), .val (.long p0), .second, .val (.long t1), .second, .val (.long t2), .second, .val (.ref a596), .val (.ref b0), .unset, .unset, .unset, .unset, .unset, .unset, .unset, .unset, .unset] [(.int (1 : Int32))])) _
          refine g_goto X779 hx (hb hby at_93) (by decide) (pc' := 97) (by decide) ?_
          rw [show v780 = ((1 : Int32)) from by rw [hv780, if_neg c89]] at J
          exact J
      show Goes p.tables e below (T779.setTop (mkF m 97 #[.val (.long p0), .second, .val (.long p1), .second, .val (.long p2), .second, .val (.int p3), .val (.int p4), .val (.int (3 : Int32)), .val (.long p0), .second, .val (.long t1), .second, .val (.long t2), .second, .val (.ref a596), .val (.ref b0), .unset, .unset, .unset, .unset, .unset, .unset, .unset, .unset, .unset] [(.int v780)])) _
      refine g_istore X779 hx (hb hby at_97) (l' := #[.val (.long p0), .second, .val (.long p1), .second, .val (.long p2), .second, .val (.int p3), .val (.int p4), .val (.int (3 : Int32)), .val (.long p0), .second, .val (.long t1), .second, .val (.long t2), .second, .val (.ref a596), .val (.ref b0), .val (.int v780), .unset, .unset, .unset, .unset, .unset, .unset, .unset, .unset]) rfl ?_
      show Goes p.tables e below (T779.setTop (mkF m 99 #[.val (.long p0), .second, .val (.long p1), .second, .val (.long p2), .second, .val (.int p3), .val (.int p4), .val (.int (3 : Int32)), .val (.long p0), .second, .val (.long t1), .second, .val (.long t2), .second, .val (.ref a596), .val (.ref b0), .val (.int v780), .unset, .unset, .unset, .unset, .unset, .unset, .unset, .unset] [])) _
      refine g_iload X779 hx (hb hby at_99) rfl ?_
      show Goes p.tables e below (T779.setTop (mkF m 101 #[.val (.long p0), .second, .val (.long p1), .second, .val (.long p2), .second, .val (.int p3), .val (.int p4), .val (.int (3 : Int32)), .val (.long p0), .second, .val (.long t1), .second, .val (.long t2), .second, .val (.ref a596), .val (.ref b0), .val (.int v780), .unset, .unset, .unset, .unset, .unset, .unset, .unset, .unset] [(.int p4)])) _
      refine g_iconst X779 hx (4 : Int32) (hb hby at_101) rfl ?_
      show Goes p.tables e below (T779.setTop (mkF m 102 #[.val (.long p0), .second, .val (.long p1), .second, .val (.long p2), .second, .val (.int p3), .val (.int p4), .val (.int (3 : Int32)), .val (.long p0), .second, .val (.long t1), .second, .val (.long t2), .second, .val (.ref a596), .val (.ref b0), .val (.int v780), .unset, .unset, .unset, .unset, .unset, .unset, .unset, .unset] [(.int (4 : Int32)), (.int p4)])) _
      refine g_iand X779 hx (hb hby at_102) ?_
      show Goes p.tables e below (T779.setTop (mkF m 103 #[.val (.long p0), .second, .val (.long p1), .second, .val (.long p2), .second, .val (.int p3), .val (.int p4), .val (.int (3 : Int32)), .val (.long p0), .second, .val (.long t1), .second, .val (.long t2), .second, .val (.ref a596), .val (.ref b0), .val (.int v780), .unset, .unset, .unset, .unset, .unset, .unset, .unset, .unset] [(.int (p4 &&& (4 : Int32)))])) _
      refine g_if_eq X779 hx (hb hby at_103) (by decide) (pc' := 112) (by decide) (fun c103 => ?_) (fun c103 => ?_)
      · skip
        show Goes p.tables e below (T779.setTop (mkF m 112 #[.val (.long p0), .second, .val (.long p1), .second, .val (.long p2), .second, .val (.int p3), .val (.int p4), .val (.int (3 : Int32)), .val (.long p0), .second, .val (.long t1), .second, .val (.long t2), .second, .val (.ref a596), .val (.ref b0), .val (.int v780), .unset, .unset, .unset, .unset, .unset, .unset, .unset, .unset] [])) _
        refine g_getS X779 hx hZ hown e779 (host := "") (Or.inl (hw _ (List.mem_of_getElem? (i := 9) rfl))) fx641 (hb hby at_112) (fun T781 X781 e781 => ?_)
        show Goes p.tables e below (T781.setTop (mkF m 115 #[.val (.long p0), .second, .val (.long p1), .second, .val (.long p2), .second, .val (.int p3), .val (.int p4), .val (.int (3 : Int32)), .val (.long p0), .second, .val (.long t1), .second, .val (.long t2), .second, .val (.ref a596), .val (.ref b0), .val (.int v780), .unset, .unset, .unset, .unset, .unset, .unset, .unset, .unset] [(.ref b1)])) _
        refine g_astore X781 hx (hb hby at_115) rfl (l' := #[.val (.long p0), .second, .val (.long p1), .second, .val (.long p2), .second, .val (.int p3), .val (.int p4), .val (.int (3 : Int32)), .val (.long p0), .second, .val (.long t1), .second, .val (.long t2), .second, .val (.ref a596), .val (.ref b0), .val (.int v780), .val (.ref b1), .unset, .unset, .unset, .unset, .unset, .unset, .unset]) rfl ?_
        show Goes p.tables e below (T781.setTop (mkF m 117 #[.val (.long p0), .second, .val (.long p1), .second, .val (.long p2), .second, .val (.int p3), .val (.int p4), .val (.int (3 : Int32)), .val (.long p0), .second, .val (.long t1), .second, .val (.long t2), .second, .val (.ref a596), .val (.ref b0), .val (.int v780), .val (.ref b1), .unset, .unset, .unset, .unset, .unset, .unset, .unset] [])) _
        refine g_new X781 hx hZ hown e781 (hw _ (List.mem_of_getElem? (i := 12) rfl)) (hw _ (List.mem_of_getElem? (i := 13) rfl)) (hw _ (List.mem_of_getElem? (i := 14) rfl)) (hb hby at_117) (by decide) (by decide) (fun T782 h782 a782 ga782 X782 e782 Ex782 Ea782 Df782 => ?_)
        have ne783 : b0 ≠ a782 := Nat.ne_of_lt (by rw [ga782]; exact fx640.lt)
        have ne784 : b1 ≠ a782 := Nat.ne_of_lt (by rw [ga782]; exact fx642.lt)
        have ne785 : b2 ≠ a782 := Nat.ne_of_lt (by rw [ga782]; exact fx644.lt)
        have ne786 : b3 ≠ a782 := Nat.ne_of_lt (by rw [ga782]; exact fx646.lt)
        have ne787 : a596 ≠ a782 := Nat.ne_of_lt (by rw [ga782]; exact fx647.lt)
        have ge788 : h0.size ≤ a782 := by rw [ga782]; exact Z650
        have fx789 : Sta Z h782 "com/example/drongo/drongo/event/RotaryEvent$Knob" "NAVIGATION" "Lcom/example/drongo/drongo/event/RotaryEvent$Knob;" (.ref b0) := Sta.ext Ex782 fx639
        have fx790 : Exa Z h782 b0 "com/example/drongo/drongo/event/RotaryEvent$Knob" := Exa.ext Ex782 fx640
        have fx791 : Sta Z h782 "com/example/drongo/drongo/event/Display" "CLUSTER" "Lcom/example/drongo/drongo/event/Display;" (.ref b1) := Sta.ext Ex782 fx641
        have fx792 : Exa Z h782 b1 "com/example/drongo/drongo/event/Display" := Exa.ext Ex782 fx642
        have fx793 : Sta Z h782 "com/example/drongo/drongo/event/RotaryEvent$Knob" "VOLUME" "Lcom/example/drongo/drongo/event/RotaryEvent$Knob;" (.ref b2) := Sta.ext Ex782 fx643
        have fx794 : Exa Z h782 b2 "com/example/drongo/drongo/event/RotaryEvent$Knob" := Exa.ext Ex782 fx644
        have fx795 : Sta Z h782 "com/example/drongo/drongo/event/Display" "MAIN" "Lcom/example/drongo/drongo/event/Display;" (.ref b3) := Sta.ext Ex782 fx645
        have fx796 : Exa Z h782 b3 "com/example/drongo/drongo/event/Display" := Exa.ext Ex782 fx646
        have fx797 : Exa Z h782 a596 "[J" := Exa.ext Ex782 fx647
        have fx798 : Ar Z h782 a596 .long [(.long p0), (.long t1), (.long t2)] := Ar.ext fx648 Ex782
        have Z799 : h0.size ≤ h782.size := Nat.le_trans Z650 Ex782.1
        have fx800 : Fld Z h782 a782 "com/example/drongo/drongo/event/RotaryEvent" "knob" "Lcom/example/drongo/drongo/event/RotaryEvent$Knob;" .null := Df782 (Or.inr (hw _ (List.mem_of_getElem? (i := 22) rfl))) (ty := (.object "com/example/drongo/drongo/event/RotaryEvent$Knob")) (by decide)
        have fx801 : Fld Z h782 a782 "com/example/drongo/drongo/event/RotaryEvent" "clockwise" "Z" (.int (0 : Int32)) := Df782 (Or.inr (hw _ (List.mem_of_getElem? (i := 24) rfl))) (ty := .boolean) (by decide)
        have fx802 : Fld Z h782 a782 "com/example/drongo/drongo/event/RotaryEvent" "display" "Lcom/example/drongo/drongo/event/Display;" .null := Df782 (Or.inr (hw _ (List.mem_of_getElem? (i := 26) rfl))) (ty := (.object "com/example/drongo/drongo/event/Display")) (by decide)
        have fx803 : Fld Z h782 a782 "com/example/drongo/drongo/event/RotaryEvent" "timesMillis" "[J" .null := Df782 (Or.inr (hw _ (List.mem_of_getElem? (i := 37) rfl))) (ty := (.array .long)) (by decide)
        show Goes p.tables e below (T782.setTop (mkF m 120 #[.val (.long p0), .second, .val (.long p1), .second, .val (.long p2), .second, .val (.int p3), .val (.int p4), .val (.int (3 : Int32)), .val (.long p0), .second, .val (.long t1), .second, .val (.long t2), .second, .val (.ref a596), .val (.ref b0), .val (.int v780), .val (.ref b1), .unset, .unset, .unset, .unset, .unset, .unset, .unset] [(.ref a782)])) _
        refine g_dup X782 hx (hb hby at_120) rfl ?_
        show Goes p.tables e below (T782.setTop (mkF m 121 #[.val (.long p0), .second, .val (.long p1), .second, .val (.long p2), .second, .val (.int p3), .val (.int p4), .val (.int (3 : Int32)), .val (.long p0), .second, .val (.long t1), .second, .val (.long t2), .second, .val (.ref a596), .val (.ref b0), .val (.int v780), .val (.ref b1), .unset, .unset, .unset, .unset, .unset, .unset, .unset] [(.ref a782), (.ref a782)])) _
        refine g_aload X782 hx (hb hby at_121) rfl rfl ?_
        show Goes p.tables e below (T782.setTop (mkF m 123 #[.val (.long p0), .second, .val (.long p1), .second, .val (.long p2), .second, .val (.int p3), .val (.int p4), .val (.int (3 : Int32)), .val (.long p0), .second, .val (.long t1), .second, .val (.long t2), .second, .val (.ref a596), .val (.ref b0), .val (.int v780), .val (.ref b1), .unset, .unset, .unset, .unset, .unset, .unset, .unset] [(.ref b0), (.ref a782), (.ref a782)])) _
        refine g_iload X782 hx (hb hby at_123) rfl ?_
        show Goes p.tables e below (T782.setTop (mkF m 125 #[.val (.long p0), .second, .val (.long p1), .second, .val (.long p2), .second, .val (.int p3), .val (.int p4), .val (.int (3 : Int32)), .val (.long p0), .second, .val (.long t1), .second, .val (.long t2), .second, .val (.ref a596), .val (.ref b0), .val (.int v780), .val (.ref b1), .unset, .unset, .unset, .unset, .unset, .unset, .unset] [(.int v780), (.ref b0), (.ref a782), (.ref a782)])) _
        refine g_aload X782 hx (hb hby at_125) rfl rfl ?_
        show Goes p.tables e below (T782.setTop (mkF m 127 #[.val (.long p0), .second, .val (.long p1), .second, .val (.long p2), .second, .val (.int p3), .val (.int p4), .val (.int (3 : Int32)), .val (.long p0), .second, .val (.long t1), .second, .val (.long t2), .second, .val (.ref a596), .val (.ref b0), .val (.int v780), .val (.ref b1), .unset, .unset, .unset, .unset, .unset, .unset, .unset] [(.ref b1), (.int v780), (.ref b0), (.ref a782), (.ref a782)])) _
        refine g_aload X782 hx (hb hby at_127) rfl rfl ?_
        show Goes p.tables e below (T782.setTop (mkF m 129 #[.val (.long p0), .second, .val (.long p1), .second, .val (.long p2), .second, .val (.int p3), .val (.int p4), .val (.int (3 : Int32)), .val (.long p0), .second, .val (.long t1), .second, .val (.long t2), .second, .val (.ref a596), .val (.ref b0), .val (.int v780), .val (.ref b1), .unset, .unset, .unset, .unset, .unset, .unset, .unset] [(.ref a596), (.ref b1), (.int v780), (.ref b0), (.ref a782), (.ref a782)])) _
        have lta := fx798.lt
        have ltb := Ea782.lt
        refine g_callI X782 hx hZ hown (by rw [hml]; rfl) e782 rfl (hw _ (List.mem_of_getElem? (i := 15) rfl)) (hw _ (List.mem_of_getElem? (i := 16) rfl)) (hw _ (List.mem_of_getElem? (i := 14) rfl)) (hw _ (List.mem_of_getElem? (i := 17) rfl)) (rmI l Z a0 hw a782 b0 v780 b1 a596 h782 h0.size Z799 [(.long p0), (.long t1), (.long t2)] (by simp) fx800 fx801 fx802 fx803 Ea782 fx798 fx797 ge788 ne787) a782 [(.ref b0), (.int v780), (.ref b1), (.ref a596)] rfl [(.ref a782)] rfl (lenOf pd_2 rfl) (hb hby at_129) (by decide) 1 (by decide) (by decide) (by first | decide | exact Nat.le_refl _) (by decide) (by decide) (fun v T804 L804 X804 hQ804 => ?_)
        obtain ⟨rfl, Nc804, Kc804, b804, gb804, hb804, fT804, Ab804⟩ := hQ804
        have fx805 : Sta Z T804.heap "com/example/drongo/drongo/event/RotaryEvent$Knob" "NAVIGATION" "Lcom/example/drongo/drongo/event/RotaryEvent$Knob;" (.ref b0) := own_stakeep fx789 Kc804 (allS (own_nst Ea782) all0)
        have fx806 : Exa Z T804.heap b0 "com/example/drongo/drongo/event/RotaryEvent$Knob" := Exa.keep fx790 Kc804
        have fx807 : Sta Z T804.heap "com/example/drongo/drongo/event/Display" "CLUSTER" "Lcom/example/drongo/drongo/event/Display;" (.ref b1) := own_stakeep fx791 Kc804 (allS (own_nst Ea782) all0)
        have fx808 : Exa Z T804.heap b1 "com/example/drongo/drongo/event/Display" := Exa.keep fx792 Kc804
        have fx809 : Sta Z T804.heap "com/example/drongo/drongo/event/RotaryEvent$Knob" "VOLUME" "Lcom/example/drongo/drongo/event/RotaryEvent$Knob;" (.ref b2) := own_stakeep fx793 Kc804 (allS (own_nst Ea782) all0)
        have fx810 : Exa Z T804.heap b2 "com/example/drongo/drongo/event/RotaryEvent$Knob" := Exa.keep fx794 Kc804
        have fx811 : Sta Z T804.heap "com/example/drongo/drongo/event/Display" "MAIN" "Lcom/example/drongo/drongo/event/Display;" (.ref b3) := own_stakeep fx795 Kc804 (allS (own_nst Ea782) all0)
        have fx812 : Exa Z T804.heap b3 "com/example/drongo/drongo/event/Display" := Exa.keep fx796 Kc804
        have fx813 : Exa Z T804.heap a596 "[J" := Exa.keep fx797 Kc804
        have fx814 : Ar Z T804.heap a596 .long [(.long p0), (.long t1), (.long t2)] := Ar.keep fx798 Kc804 (ninS ne787 nin0)
        have fx815 : Exa Z T804.heap a782 "com/example/drongo/drongo/event/RotaryEvent" := Exa.keep Ea782 Kc804
        have N816 := Fr.app N649 Nc804
        have Z817 : h0.size ≤ T804.heap.size := Nat.le_trans Z799 Kc804.1
        have ne818 : a596 ≠ b804 := Nat.ne_of_lt (Nat.lt_of_lt_of_le lta hb804)
        have ne819 : a782 ≠ b804 := Nat.ne_of_lt (Nat.lt_of_lt_of_le ltb hb804)
        show Goes p.tables e below (T804.setTop (mkF m 132 #[.val (.long p0), .second, .val (.long p1), .second, .val (.long p2), .second, .val (.int p3), .val (.int p4), .val (.int (3 : Int32)), .val (.long p0), .second, .val (.long t1), .second, .val (.long t2), .second, .val (.ref a596), .val (.ref b0), .val (.int v780), .val (.ref b1), .unset, .unset, .unset, .unset, .unset, .unset, .unset] [(.ref a782)])) _
        refine g_astore X804 hx (hb hby at_132) rfl (l' := #[.val (.long p0), .second, .val (.long p1), .second, .val (.long p2), .second, .val (.int p3), .val (.int p4), .val (.int (3 : Int32)), .val (.long p0), .second, .val (.long t1), .second, .val (.long t2), .second, .val (.ref a596), .val (.ref b0), .val (.int v780), .val (.ref b1), .val (.ref a782), .unset, .unset, .unset, .unset, .unset, .unset]) rfl ?_
        show Goes p.tables e below (T804.setTop (mkF m 134 #[.val (.long p0), .second, .val (.long p1), .second, .val (.long p2), .second, .val (.int p3), .val (.int p4), .val (.int (3 : Int32)), .val (.long p0), .second, .val (.long t1), .second, .val (.long t2), .second, .val (.ref a596), .val (.ref b0), .val (.int v780), .val (.ref b1), .val (.ref a782), .unset, .unset, .unset, .unset, .unset, .unset] [])) _
        refine g_iload X804 hx (hb hby at_134) rfl ?_
        show Goes p.tables e below (T804.setTop (mkF m 136 #[.val (.long p0), .second, .val (.long p1), .second, .val (.long p2), .second, .val (.int p3), .val (.int p4), .val (.int (3 : Int32)), .val (.long p0), .second, .val (.long t1), .second, .val (.long t2), .second, .val (.ref a596), .val (.ref b0), .val (.int v780), .val (.ref b1), .val (.ref a782), .unset, .unset, .unset, .unset, .unset, .unset] [(.int (3 : Int32))])) _
        refine g_iconst X804 hx (1 : Int32) (hb hby at_136) rfl ?_
        show Goes p.tables e below (T804.setTop (mkF m 137 #[.val (.long p0), .second, .val (.long p1), .second, .val (.long p2), .second, .val (.int p3), .val (.int p4), .val (.int (3 : Int32)), .val (.long p0), .second, .val (.long t1), .second, .val (.long t2), .second, .val (.ref a596), .val (.ref b0), .val (.int v780), .val (.ref b1), .val (.ref a782), .unset, .unset, .unset, .unset, .unset, .unset] [(.int (1 : Int32)), (.int (3 : Int32))])) _
        refine g_icmp_ne X804 hx (hb hby at_137) (by decide) (pc' := 145) (by decide) (fun _ => ?_) (fun q => absurd q (by decide))
        show Goes p.tables e below (T804.setTop (mkF m 145 #[.val (.long p0), .second, .val (.long p1), .second, .val (.long p2), .second, .val (.int p3), .val (.int p4), .val (.int (3 : Int32)), .val (.long p0), .second, .val (.long t1), .second, .val (.long t2), .second, .val (.ref a596), .val (.ref b0), .val (.int v780), .val (.ref b1), .val (.ref a782), .unset, .unset, .unset, .unset, .unset, .unset] [])) _
        refine g_iload X804 hx (hb hby at_145) rfl ?_
        show Goes p.tables e below (T804.setTop (mkF m 147 #[.val (.long p0), .second, .val (.long p1), .second, .val (.long p2), .second, .val (.int p3), .val (.int p4), .val (.int (3 : Int32)), .val (.long p0), .second, .val (.long t1), .second, .val (.long t2), .second, .val (.ref a596), .val (.ref b0), .val (.int v780), .val (.ref b1), .val (.ref a782), .unset, .unset, .unset, .unset, .unset, .unset] [(.int (3 : Int32))])) _
        refine g_iconst X804 hx (2 : Int32) (hb hby at_147) rfl ?_
        show Goes p.tables e below (T804.setTop (mkF m 148 #[.val (.long p0), .second, .val (.long p1), .second, .val (.long p2), .second, .val (.int p3), .val (.int p4), .val (.int (3 : Int32)), .val (.long p0), .second, .val (.long t1), .second, .val (.long t2), .second, .val (.ref a596), .val (.ref b0), .val (.int v780), .val (.ref b1), .val (.ref a782), .unset, .unset, .unset, .unset, .unset, .unset] [(.int (2 : Int32)), (.int (3 : Int32))])) _
        refine g_icmp_ne X804 hx (hb hby at_148) (by decide) (pc' := 156) (by decide) (fun _ => ?_) (fun q => absurd q (by decide))
        show Goes p.tables e below (T804.setTop (mkF m 156 #[.val (.long p0), .second, .val (.long p1), .second, .val (.long p2), .second, .val (.int p3), .val (.int p4), .val (.int (3 : Int32)), .val (.long p0), .second, .val (.long t1), .second, .val (.long t2), .second, .val (.ref a596), .val (.ref b0), .val (.int v780), .val (.ref b1), .val (.ref a782), .unset, .unset, .unset, .unset, .unset, .unset] [])) _
        refine g_lload X804 hx (hb hby at_156) rfl ?_
        show Goes p.tables e below (T804.setTop (mkF m 158 #[.val (.long p0), .second, .val (.long p1), .second, .val (.long p2), .second, .val (.int p3), .val (.int p4), .val (.int (3 : Int32)), .val (.long p0), .second, .val (.long t1), .second, .val (.long t2), .second, .val (.ref a596), .val (.ref b0), .val (.int v780), .val (.ref b1), .val (.ref a782), .unset, .unset, .unset, .unset, .unset, .unset] [(.long t2)])) _
        refine g_lstore X804 hx (hb hby at_158) (l' := #[.val (.long p0), .second, .val (.long p1), .second, .val (.long p2), .second, .val (.int p3), .val (.int p4), .val (.int (3 : Int32)), .val (.long p0), .second, .val (.long t1), .second, .val (.long t2), .second, .val (.ref a596), .val (.ref b0), .val (.int v780), .val (.ref b1), .val (.ref a782), .val (.long t2), .second, .unset, .unset, .unset, .unset]) rfl ?_
        show Goes p.tables e below (T804.setTop (mkF m 160 #[.val (.long p0), .second, .val (.long p1), .second, .val (.long p2), .second, .val (.int p3), .val (.int p4), .val (.int (3 : Int32)), .val (.long p0), .second, .val (.long t1), .second, .val (.long t2), .second, .val (.ref a596), .val (.ref b0), .val (.int v780), .val (.ref b1), .val (.ref a782), .val (.long t2), .second, .unset, .unset, .unset, .unset] [])) _
        refine g_lload X804 hx (hb hby at_160) rfl ?_
        show Goes p.tables e below (T804.setTop (mkF m 162 #[.val (.long p0), .second, .val (.long p1), .second, .val (.long p2), .second, .val (.int p3), .val (.int p4), .val (.int (3 : Int32)), .val (.long p0), .second, .val (.long t1), .second, .val (.long t2), .second, .val (.ref a596), .val (.ref b0), .val (.int v780), .val (.ref b1), .val (.ref a782), .val (.long t2), .second, .unset, .unset, .unset, .unset] [(.long p0)])) _
        refine g_iload X804 hx (hb hby at_162) rfl ?_
        show Goes p.tables e below (T804.setTop (mkF m 164 #[.val (.long p0), .second, .val (.long p1), .second, .val (.long p2), .second, .val (.int p3), .val (.int p4), .val (.int (3 : Int32)), .val (.long p0), .second, .val (.long t1), .second, .val (.long t2), .second, .val (.ref a596), .val (.ref b0), .val (.int v780), .val (.ref b1), .val (.ref a782), .val (.long t2), .second, .unset, .unset, .unset, .unset] [(.int (3 : Int32)), (.long p0)])) _
        refine g_iconst X804 hx (1 : Int32) (hb hby at_164) rfl ?_
        show Goes p.tables e below (T804.setTop (mkF m 165 #[.val (.long p0), .second, .val (.long p1), .second, .val (.long p2), .second, .val (.int p3), .val (.int p4), .val (.int (3 : Int32)), .val (.long p0), .second, .val (.long t1), .second, .val (.long t2), .second, .val (.ref a596), .val (.ref b0), .val (.int v780), .val (.ref b1), .val (.ref a782), .val (.long t2), .second, .unset, .unset, .unset, .unset] [(.int (1 : Int32)), (.int (3 : Int32)), (.long p0)])) _
        refine g_icmp_le X804 hx (hb hby at_165) (by decide) (pc' := 173) (by decide) (fun q => absurd (by decide) q) (fun _ => ?_)
        show Goes p.tables e below (T804.setTop (mkF m 168 #[.val (.long p0), .second, .val (.long p1), .second, .val (.long p2), .second, .val (.int p3), .val (.int p4), .val (.int (3 : Int32)), .val (.long p0), .second, .val (.long t1), .second, .val (.long t2), .second, .val (.ref a596), .val (.ref b0), .val (.int v780), .val (.ref b1), .val (.ref a782), .val (.long t2), .second, .unset, .unset, .unset, .unset] [(.long p0)])) _
        refine g_lload X804 hx (hb hby at_168) rfl ?_
        show Goes p.tables e below (T804.setTop (mkF m 170 #[.val (.long p0), .second, .val (.long p1), .second, .val (.long p2), .second, .val (.int p3), .val (.int p4), .val (.int (3 : Int32)), .val (.long p0), .second, .val (.long t1), .second, .val (.long t2), .second, .val (.ref a596), .val (.ref b0), .val (.int v780), .val (.ref b1), .val (.ref a782), .val (.long t2), .second, .unset, .unset, .unset, .unset] [(.long t1), (.long p0)])) _
        refine g_goto X804 hx (hb hby at_170) (by decide) (pc' := 175) (by decide) ?_
        show Goes p.tables e below (T804.setTop (mkF m 175 #[.val (.long p0), .second, .val (.long p1), .second, .val (.long p2), .second, .val (.int p3), .val (.int p4), .val (.int (3 : Int32)), .val (.long p0), .second, .val (.long t1), .second, .val (.long t2), .second, .val (.ref a596), .val (.ref b0), .val (.int v780), .val (.ref b1), .val (.ref a782), .val (.long t2), .second, .unset, .unset, .unset, .unset] [(.long t1), (.long p0)])) _
        refine g_iload X804 hx (hb hby at_175) rfl ?_
        show Goes p.tables e below (T804.setTop (mkF m 177 #[.val (.long p0), .second, .val (.long p1), .second, .val (.long p2), .second, .val (.int p3), .val (.int p4), .val (.int (3 : Int32)), .val (.long p0), .second, .val (.long t1), .second, .val (.long t2), .second, .val (.ref a596), .val (.ref b0), .val (.int v780), .val (.ref b1), .val (.ref a782), .val (.long t2), .second, .unset, .unset, .unset, .unset] [(.int (3 : Int32)), (.long t1), (.long p0)])) _
        refine g_iconst X804 hx (2 : Int32) (hb hby at_177) rfl ?_
        show Goes p.tables e below (T804.setTop (mkF m 178 #[.val (.long p0), .second, .val (.long p1), .second, .val (.long p2), .second, .val (.int p3), .val (.int p4), .val (.int (3 : Int32)), .val (.long p0), .second, .val (.long t1), .second, .val (.long t2), .second, .val (.ref a596), .val (.ref b0), .val (.int v780), .val (.ref b1), .val (.ref a782), .val (.long t2), .second, .unset, .unset, .unset, .unset] [(.int (2 : Int32)), (.int (3 : Int32)), (.long t1), (.long p0)])) _
        refine g_icmp_le X804 hx (hb hby at_178) (by decide) (pc' := 186) (by decide) (fun q => absurd (by decide) q) (fun _ => ?_)
        show Goes p.tables e below (T804.setTop (mkF m 181 #[.val (.long p0), .second, .val (.long p1), .second, .val (.long p2), .second, .val (.int p3), .val (.int p4), .val (.int (3 : Int32)), .val (.long p0), .second, .val (.long t1), .second, .val (.long t2), .second, .val (.ref a596), .val (.ref b0), .val (.int v780), .val (.ref b1), .val (.ref a782), .val (.long t2), .second, .unset, .unset, .unset, .unset] [(.long t1), (.long p0)])) _
        refine g_lload X804 hx (hb hby at_181) rfl ?_
        show Goes p.tables e below (T804.setTop (mkF m 183 #[.val (.long p0), .second, .val (.long p1), .second, .val (.long p2), .second, .val (.int p3), .val (.int p4), .val (.int (3 : Int32)), .val (.long p0), .second, .val (.long t1), .second, .val (.long t2), .second, .val (.ref a596), .val (.ref b0), .val (.int v780), .val (.ref b1), .val (.ref a782), .val (.long t2), .second, .unset, .unset, .unset, .unset] [(.long t2), (.long t1), (.long p0)])) _
        refine g_goto X804 hx (hb hby at_183) (by decide) (pc' := 188) (by decide) ?_
        show Goes p.tables e below (T804.setTop (mkF m 188 #[.val (.long p0), .second, .val (.long p1), .second, .val (.long p2), .second, .val (.int p3), .val (.int p4), .val (.int (3 : Int32)), .val (.long p0), .second, .val (.long t1), .second, .val (.long t2), .second, .val (.ref a596), .val (.ref b0), .val (.int v780), .val (.ref b1), .val (.ref a782), .val (.long t2), .second, .unset, .unset, .unset, .unset] [(.long t2), (.long t1), (.long p0)])) _
        refine g_callS X804 hx hZ hown (by rw [hml]; rfl) rfl (hw _ (List.mem_of_getElem? (i := 1) rfl)) (hw _ (List.mem_of_getElem? (i := 2) rfl)) (hw _ (List.mem_of_getElem? (i := 3) rfl)) (hw _ (List.mem_of_getElem? (i := 4) rfl)) (rmX l Z a0 hw t1 t2 T804.heap) [(.long t1), (.long t2)] rfl [(.long p0)] rfl (lenOf pd_1 rfl) (hb hby at_188) (by decide) 2 (by decide) (by decide) (by first | decide | exact Nat.le_refl _) (by decide) (by decide) (fun v T820 L820 X820 hQ820 => ?_)
        obtain ⟨rfl, e820, rfl⟩ := hQ820
        have N821 := Fr.app N816 (Fr.nil h0.size)
        show Goes p.tables e below (T820.setTop (mkF m 191 #[.val (.long p0), .second, .val (.long p1), .second, .val (.long p2), .second, .val (.int p3), .val (.int p4), .val (.int (3 : Int32)), .val (.long p0), .second, .val (.long t1), .second, .val (.long t2), .second, .val (.ref a596), .val (.ref b0), .val (.int v780), .val (.ref b1), .val (.ref a782), .val (.long t2), .second, .unset, .unset, .unset, .unset] [(.long (maxV t1 t2)), (.long p0)])) _
        refine g_callS X820 hx hZ hown (by rw [hml]; rfl) e820 (hw _ (List.mem_of_getElem? (i := 1) rfl)) (hw _ (List.mem_of_getElem? (i := 2) rfl)) (hw _ (List.mem_of_getElem? (i := 3) rfl)) (hw _ (List.mem_of_getElem? (i := 4) rfl)) (rmX l Z a0 hw p0 (maxV t1 t2) T804.heap) [(.long p0), (.long (maxV t1 t2))] rfl [] rfl (lenOf pd_1 rfl) (hb hby at_191) (by decide) 0 (by decide) (by decide) (by first | decide | exact Nat.le_refl _) (by decide) (by decide) (fun v T822 L822 X822 hQ822 => ?_)
        obtain ⟨rfl, e822, rfl⟩ := hQ822
        have N823 := Fr.app N821 (Fr.nil h0.size)
        show Goes p.tables e below (T822.setTop (mkF m 194 #[.val (.long p0), .second, .val (.long p1), .second, .val (.long p2), .second, .val (.int p3), .val (.int p4), .val (.int (3 : Int32)), .val (.long p0), .second, .val (.long t1), .second, .val (.long t2), .second, .val (.ref a596), .val (.ref b0), .val (.int v780), .val (.ref b1), .val (.ref a782), .val (.long t2), .second, .unset, .unset, .unset, .unset] [(.long (maxV p0 (maxV t1 t2)))])) _
        obtain ⟨vlat, hvlat⟩ : ∃ z : Int64, z = (maxV p0 (maxV t1 t2)) := ⟨_, rfl⟩
        refine g_nameL hvlat ?_
        show Goes p.tables e below (T822.setTop (mkF m 194 #[.val (.long p0), .second, .val (.long p1), .second, .val (.long p2), .second, .val (.int p3), .val (.int p4), .val (.int (3 : Int32)), .val (.long p0), .second, .val (.long t1), .second, .val (.long t2), .second, .val (.ref a596), .val (.ref b0), .val (.int v780), .val (.ref b1), .val (.ref a782), .val (.long t2), .second, .unset, .unset, .unset, .unset] [(.long vlat)])) _
        refine g_lstore X822 hx (hb hby at_194) (l' := #[.val (.long p0), .second, .val (.long p1), .second, .val (.long p2), .second, .val (.int p3), .val (.int p4), .val (.int (3 : Int32)), .val (.long p0), .second, .val (.long t1), .second, .val (.long t2), .second, .val (.ref a596), .val (.ref b0), .val (.int v780), .val (.ref b1), .val (.ref a782), .val (.long t2), .second, .val (.long vlat), .second, .unset, .unset]) rfl ?_
        show Goes p.tables e below (T822.setTop (mkF m 196 #[.val (.long p0), .second, .val (.long p1), .second, .val (.long p2), .second, .val (.int p3), .val (.int p4), .val (.int (3 : Int32)), .val (.long p0), .second, .val (.long t1), .second, .val (.long t2), .second, .val (.ref a596), .val (.ref b0), .val (.int v780), .val (.ref b1), .val (.ref a782), .val (.long t2), .second, .val (.long vlat), .second, .unset, .unset] [])) _
        refine g_aload X822 hx (hb hby at_196) rfl rfl ?_
        show Goes p.tables e below (T822.setTop (mkF m 198 #[.val (.long p0), .second, .val (.long p1), .second, .val (.long p2), .second, .val (.int p3), .val (.int p4), .val (.int (3 : Int32)), .val (.long p0), .second, .val (.long t1), .second, .val (.long t2), .second, .val (.ref a596), .val (.ref b0), .val (.int v780), .val (.ref b1), .val (.ref a782), .val (.long t2), .second, .val (.long vlat), .second, .unset, .unset] [(.ref a596)])) _
        refine g_iload X822 hx (hb hby at_198) rfl ?_
        show Goes p.tables e below (T822.setTop (mkF m 200 #[.val (.long p0), .second, .val (.long p1), .second, .val (.long p2), .second, .val (.int p3), .val (.int p4), .val (.int (3 : Int32)), .val (.long p0), .second, .val (.long t1), .second, .val (.long t2), .second, .val (.ref a596), .val (.ref b0), .val (.int v780), .val (.ref b1), .val (.ref a782), .val (.long t2), .second, .val (.long vlat), .second, .unset, .unset] [(.int (3 : Int32)), (.ref a596)])) _
        refine g_iconst X822 hx (1 : Int32) (hb hby at_200) rfl ?_
        show Goes p.tables e below (T822.setTop (mkF m 201 #[.val (.long p0), .second, .val (.long p1), .second, .val (.long p2), .second, .val (.int p3), .val (.int p4), .val (.int (3 : Int32)), .val (.long p0), .second, .val (.long t1), .second, .val (.long t2), .second, .val (.ref a596), .val (.ref b0), .val (.int v780), .val (.ref b1), .val (.ref a782), .val (.long t2), .second, .val (.long vlat), .second, .unset, .unset] [(.int (1 : Int32)), (.int (3 : Int32)), (.ref a596)])) _
        refine g_isub X822 hx (hb hby at_201) ?_
        show Goes p.tables e below (T822.setTop (mkF m 202 #[.val (.long p0), .second, .val (.long p1), .second, .val (.long p2), .second, .val (.int p3), .val (.int p4), .val (.int (3 : Int32)), .val (.long p0), .second, .val (.long t1), .second, .val (.long t2), .second, .val (.ref a596), .val (.ref b0), .val (.int v780), .val (.ref b1), .val (.ref a782), .val (.long t2), .second, .val (.long vlat), .second, .unset, .unset] [(.int ((3 : Int32) - (1 : Int32))), (.ref a596)])) _
        refine g_lload X822 hx (hb hby at_202) rfl ?_
        show Goes p.tables e below (T822.setTop (mkF m 204 #[.val (.long p0), .second, .val (.long p1), .second, .val (.long p2), .second, .val (.int p3), .val (.int p4), .val (.int (3 : Int32)), .val (.long p0), .second, .val (.long t1), .second, .val (.long t2), .second, .val (.ref a596), .val (.ref b0), .val (.int v780), .val (.ref b1), .val (.ref a782), .val (.long t2), .second, .val (.long vlat), .second, .unset, .unset] [(.long t2), (.int ((3 : Int32) - (1 : Int32))), (.ref a596)])) _
        refine g_ldc2 X822 hx hZ hown (hw _ (List.mem_of_getElem? (i := 38) rfl)) (hb hby at_204) ?_
        show Goes p.tables e below (T822.setTop (mkF m 207 #[.val (.long p0), .second, .val (.long p1), .second, .val (.long p2), .second, .val (.int p3), .val (.int p4), .val (.int (3 : Int32)), .val (.long p0), .second, .val (.long t1), .second, .val (.long t2), .second, .val (.ref a596), .val (.ref b0), .val (.int v780), .val (.ref b1), .val (.ref a782), .val (.long t2), .second, .val (.long vlat), .second, .unset, .unset] [(.long (-1 : Int64)), (.long t2), (.int ((3 : Int32) - (1 : Int32))), (.ref a596)])) _
        refine g_lxor X822 hx (hb hby at_207) ?_
        show Goes p.tables e below (T822.setTop (mkF m 208 #[.val (.long p0), .second, .val (.long p1), .second, .val (.long p2), .second, .val (.int p3), .val (.int p4), .val (.int (3 : Int32)), .val (.long p0), .second, .val (.long t1), .second, .val (.long t2), .second, .val (.ref a596), .val (.ref b0), .val (.int v780), .val (.ref b1), .val (.ref a782), .val (.long t2), .second, .val (.long vlat), .second, .unset, .unset] [(.long (t2 ^^^ (-1 : Int64))), (.int ((3 : Int32) - (1 : Int32))), (.ref a596)])) _
        refine g_lastore X822 hx hZ e822 fx814 2 (by decide) (by simp) (hb hby at_208) (fun T824 h824 X824 e824 W824 A824 => ?_)
        have fx825 : Sta Z h824 "com/example/drongo/drongo/event/RotaryEvent$Knob" "NAVIGATION" "Lcom/example/drongo/drongo/event/RotaryEvent$Knob;" (.ref b0) := Sta.wr W824 fx805
        have fx826 : Exa Z h824 b0 "com/example/drongo/drongo/event/RotaryEvent$Knob" := Exa.wr W824 fx806
        have fx827 : Sta Z h824 "com/example/drongo/drongo/event/Display" "CLUSTER" "Lcom/example/drongo/drongo/event/Display;" (.ref b1) := Sta.wr W824 fx807
        have fx828 : Exa Z h824 b1 "com/example/drongo/drongo/event/Display" := Exa.wr W824 fx808
        have fx829 : Sta Z h824 "com/example/drongo/drongo/event/RotaryEvent$Knob" "VOLUME" "Lcom/example/drongo/drongo/event/RotaryEvent$Knob;" (.ref b2) := Sta.wr W824 fx809
        have fx830 : Exa Z h824 b2 "com/example/drongo/drongo/event/RotaryEvent$Knob" := Exa.wr W824 fx810
        have fx831 : Sta Z h824 "com/example/drongo/drongo/event/Display" "MAIN" "Lcom/example/drongo/drongo/event/Display;" (.ref b3) := Sta.wr W824 fx811
        have fx832 : Exa Z h824 b3 "com/example/drongo/drongo/event/Display" := Exa.wr W824 fx812
        have fx833 : Exa Z h824 a596 "[J" := Exa.wr W824 fx813
        have fx834 : Exa Z h824 a782 "com/example/drongo/drongo/event/RotaryEvent" := Exa.wr W824 fx815
        have fx835 : Fld Z h824 a782 "com/example/drongo/drongo/event/RotaryEvent" "timesMillis" "[J" (.ref b804) := Fld.other W824 fT804 (Or.inl (Ne.symm ne787))
        have fx836 : Ar Z h824 b804 .long [(.long p0), (.long t1), (.long t2)] := Ar.other Ab804 W824 (Ne.symm ne818)
        have fx837 : Ar Z h824 a596 .long (List.set [(.long p0), (.long t1), (.long t2)] 2 (.long (t2 ^^^ (-1 : Int64)))) := A824
        have N838 := Fr.snoc X824 N823 ge601
        have Z839 : h0.size ≤ h824.size := by rw [W824.size]; exact Z817
        show Goes p.tables e below (T824.setTop (mkF m 209 #[.val (.long p0), .second, .val (.long p1), .second, .val (.long p2), .second, .val (.int p3), .val (.int p4), .val (.int (3 : Int32)), .val (.long p0), .second, .val (.long t1), .second, .val (.long t2), .second, .val (.ref a596), .val (.ref b0), .val (.int v780), .val (.ref b1), .val (.ref a782), .val (.long t2), .second, .val (.long vlat), .second, .unset, .unset] [])) _
        refine g_aload X824 hx (hb hby at_209) rfl rfl ?_
        show Goes p.tables e below (T824.setTop (mkF m 211 #[.val (.long p0), .second, .val (.long p1), .second, .val (.long p2), .second, .val (.int p3), .val (.int p4), .val (.int (3 : Int32)), .val (.long p0), .second, .val (.long t1), .second, .val (.long t2), .second, .val (.ref a596), .val (.ref b0), .val (.int v780), .val (.ref b1), .val (.ref a782), .val (.long t2), .second, .val (.long vlat), .second, .unset, .unset] [(.ref a782)])) _
        refine g_callV X824 hx hZ hown (by rw [hml]; rfl) e824 (K := "com/example/drongo/drongo/event/RotaryEvent") (hw _ (List.mem_of_getElem? (i := 39) rfl)) (hw _ (List.mem_of_getElem? (i := 40) rfl)) (hw _ (List.mem_of_getElem? (i := 42) rfl)) (hw _ (List.mem_of_getElem? (i := 41) rfl)) (hw _ (List.mem_of_getElem? (i := 14) rfl)) (hw _ (List.mem_of_getElem? (i := 43) rfl)) fx834 (rmL l Z a0 hw a782 h824 b804 [(.long p0), (.long t1), (.long t2)] (3 : Int32) 2 t2 rfl (by decide) rfl fx835 fx836) [] rfl [] rfl (lenOf pd_4 rfl) (hb hby at_211) (by decide) 0 (by decide) (by decide) (by first | decide | exact Nat.le_refl _) (by decide) (by decide) (fun v T840 L840 X840 hQ840 => ?_)
        obtain ⟨rfl, e840, rfl⟩ := hQ840
        have N841 := Fr.app N838 (Fr.nil h0.size)
        show Goes p.tables e below (T840.setTop (mkF m 214 #[.val (.long p0), .second, .val (.long p1), .second, .val (.long p2), .second, .val (.int p3), .val (.int p4), .val (.int (3 : Int32)), .val (.long p0), .second, .val (.long t1), .second, .val (.long t2), .second, .val (.ref a596), .val (.ref b0), .val (.int v780), .val (.ref b1), .val (.ref a782), .val (.long t2), .second, .val (.long vlat), .second, .unset, .unset] [(.long t2)])) _
        refine g_lstore X840 hx (hb hby at_214) (l' := #[.val (.long p0), .second, .val (.long p1), .second, .val (.long p2), .second, .val (.int p3), .val (.int p4), .val (.int (3 : Int32)), .val (.long p0), .second, .val (.long t1), .second, .val (.long t2), .second, .val (.ref a596), .val (.ref b0), .val (.int v780), .val (.ref b1), .val (.ref a782), .val (.long t2), .second, .val (.long vlat), .second, .val (.long t2), .second]) rfl ?_
        show Goes p.tables e below (T840.setTop (mkF m 216 #[.val (.long p0), .second, .val (.long p1), .second, .val (.long p2), .second, .val (.int p3), .val (.int p4), .val (.int (3 : Int32)), .val (.long p0), .second, .val (.long t1), .second, .val (.long t2), .second, .val (.ref a596), .val (.ref b0), .val (.int v780), .val (.ref b1), .val (.ref a782), .val (.long t2), .second, .val (.long vlat), .second, .val (.long t2), .second] [])) _
        refine g_lload X840 hx (hb hby at_216) rfl ?_
        show Goes p.tables e below (T840.setTop (mkF m 218 #[.val (.long p0), .second, .val (.long p1), .second, .val (.long p2), .second, .val (.int p3), .val (.int p4), .val (.int (3 : Int32)), .val (.long p0), .second, .val (.long t1), .second, .val (.long t2), .second, .val (.ref a596), .val (.ref b0), .val (.int v780), .val (.ref b1), .val (.ref a782), .val (.long t2), .second, .val (.long vlat), .second, .val (.long t2), .second] [(.long t2)])) _
        refine g_lload X840 hx (hb hby at_218) rfl ?_
        show Goes p.tables e below (T840.setTop (mkF m 220 #[.val (.long p0), .second, .val (.long p1), .second, .val (.long p2), .second, .val (.int p3), .val (.int p4), .val (.int (3 : Int32)), .val (.long p0), .second, .val (.long t1), .second, .val (.long t2), .second, .val (.ref a596), .val (.ref b0), .val (.int v780), .val (.ref b1), .val (.ref a782), .val (.long t2), .second, .val (.long vlat), .second, .val (.long t2), .second] [(.long t2), (.long t2)])) _
        refine g_lcmp X840 hx (hb hby at_220) ?_
        show Goes p.tables e below (T840.setTop (mkF m 221 #[.val (.long p0), .second, .val (.long p1), .second, .val (.long p2), .second, .val (.int p3), .val (.int p4), .val (.int (3 : Int32)), .val (.long p0), .second, .val (.long t1), .second, .val (.long t2), .second, .val (.ref a596), .val (.ref b0), .val (.int v780), .val (.ref b1), .val (.ref a782), .val (.long t2), .second, .val (.long vlat), .second, .val (.long t2), .second] [(.int (XT.cmpL t2 t2))])) _
        have c221 : t2 = t2 := rfl
        refine g_lif_ne X840 hx (hb hby at_221) (by decide) (pc' := 247) (by decide) (fun q => absurd c221 q) (fun _ => ?_)
        show Goes p.tables e below (T840.setTop (mkF m 224 #[.val (.long p0), .second, .val (.long p1), .second, .val (.long p2), .second, .val (.int p3), .val (.int p4), .val (.int (3 : Int32)), .val (.long p0), .second, .val (.long t1), .second, .val (.long t2), .second, .val (.ref a596), .val (.ref b0), .val (.int v780), .val (.ref b1), .val (.ref a782), .val (.long t2), .second, .val (.long vlat), .second, .val (.long t2), .second] [])) _
        refine g_lload X840 hx (hb hby at_224) rfl ?_
        show Goes p.tables e below (T840.setTop (mkF m 226 #[.val (.long p0), .second, .val (.long p1), .second, .val (.long p2), .second, .val (.int p3), .val (.int p4), .val (.int (3 : Int32)), .val (.long p0), .second, .val (.long t1), .second, .val (.long t2), .second, .val (.ref a596), .val (.ref b0), .val (.int v780), .val (.ref b1), .val (.ref a782), .val (.long t2), .second, .val (.long vlat), .second, .val (.long t2), .second] [(.long t2)])) _
        refine g_lload X840 hx (hb hby at_226) rfl ?_
        show Goes p.tables e below (T840.setTop (mkF m 228 #[.val (.long p0), .second, .val (.long p1), .second, .val (.long p2), .second, .val (.int p3), .val (.int p4), .val (.int (3 : Int32)), .val (.long p0), .second, .val (.long t1), .second, .val (.long t2), .second, .val (.ref a596), .val (.ref b0), .val (.int v780), .val (.ref b1), .val (.ref a782), .val (.long t2), .second, .val (.long vlat), .second, .val (.long t2), .second] [(.long vlat), (.long t2)])) _
        refine g_lcmp X840 hx (hb hby at_228) ?_
        show Goes p.tables e below (T840.setTop (mkF m 229 #[.val (.long p0), .second, .val (.long p1), .second, .val (.long p2), .second, .val (.int p3), .val (.int p4), .val (.int (3 : Int32)), .val (.long p0), .second, .val (.long t1), .second, .val (.long t2), .second, .val (.ref a596), .val (.ref b0), .val (.int v780), .val (.ref b1), .val (.ref a782), .val (.long t2), .second, .val (.long vlat), .second, .val (.long t2), .second] [(.int (XT.cmpL t2 vlat))])) _
        have c229 : t2 = vlat := (by rw [hvlat, ht2, ht1]; exact (own_max3 p0 p1 p2).symm)
        refine g_lif_ne X840 hx (hb hby at_229) (by decide) (pc' := 247) (by decide) (fun q => absurd c229 q) (fun _ => ?_)
        show Goes p.tables e below (T840.setTop (mkF m 232 #[.val (.long p0), .second, .val (.long p1), .second, .val (.long p2), .second, .val (.int p3), .val (.int p4), .val (.int (3 : Int32)), .val (.long p0), .second, .val (.long t1), .second, .val (.long t2), .second, .val (.ref a596), .val (.ref b0), .val (.int v780), .val (.ref b1), .val (.ref a782), .val (.long t2), .second, .val (.long vlat), .second, .val (.long t2), .second] [])) _
        refine g_aload X840 hx (hb hby at_232) rfl rfl ?_
        show Goes p.tables e below (T840.setTop (mkF m 234 #[.val (.long p0), .second, .val (.long p1), .second, .val (.long p2), .second, .val (.int p3), .val (.int p4), .val (.int (3 : Int32)), .val (.long p0), .second, .val (.long t1), .second, .val (.long t2), .second, .val (.ref a596), .val (.ref b0), .val (.int v780), .val (.ref b1), .val (.ref a782), .val (.long t2), .second, .val (.long vlat), .second, .val (.long t2), .second] [(.ref a782)])) _
        refine g_callV X840 hx hZ hown (by rw [hml]; rfl) e840 (K := "com/example/drongo/drongo/event/RotaryEvent") (hw _ (List.mem_of_getElem? (i := 39) rfl)) (hw _ (List.mem_of_getElem? (i := 40) rfl)) (hw _ (List.mem_of_getElem? (i := 42) rfl)) (hw _ (List.mem_of_getElem? (i := 41) rfl)) (hw _ (List.mem_of_getElem? (i := 14) rfl)) (hw _ (List.mem_of_getElem? (i := 43) rfl)) fx834 (rmL l Z a0 hw a782 h824 b804 [(.long p0), (.long t1), (.long t2)] (3 : Int32) 2 t2 rfl (by decide) rfl fx835 fx836) [] rfl [] rfl (lenOf pd_4 rfl) (hb hby at_234) (by decide) 0 (by decide) (by decide) (by first | decide | exact Nat.le_refl _) (by decide) (by decide) (fun v T842 L842 X842 hQ842 => ?_)
        obtain ⟨rfl, e842, rfl⟩ := hQ842
        have N843 := Fr.app N841 (Fr.nil h0.size)
        show Goes p.tables e below (T842.setTop (mkF m 237 #[.val (.long p0), .second, .val (.long p1), .second, .val (.long p2), .second, .val (.int p3), .val (.int p4), .val (.int (3 : Int32)), .val (.long p0), .second, .val (.long t1), .second, .val (.long t2), .second, .val (.ref a596), .val (.ref b0), .val (.int v780), .val (.ref b1), .val (.ref a782), .val (.long t2), .second, .val (.long vlat), .second, .val (.long t2), .second] [(.long t2)])) _
        refine g_lload X842 hx (hb hby at_237) rfl ?_
        show Goes p.tables e below (T842.setTop (mkF m 239 #[.val (.long p0), .second, .val (.long p1), .second, .val (.long p2), .second, .val (.int p3), .val (.int p4), .val (.int (3 : Int32)), .val (.long p0), .second, .val (.long t1), .second, .val (.long t2), .second, .val (.ref a596), .val (.ref b0), .val (.int v780), .val (.ref b1), .val (.ref a782), .val (.long t2), .second, .val (.long vlat), .second, .val (.long t2), .second] [(.long t2), (.long t2)])) _
        refine g_lcmp X842 hx (hb hby at_239) ?_
        show Goes p.tables e below (T842.setTop (mkF m 240 #[.val (.long p0), .second, .val (.long p1), .second, .val (.long p2), .second, .val (.int p3), .val (.int p4), .val (.int (3 : Int32)), .val (.long p0), .second, .val (.long t1), .second, .val (.long t2), .second, .val (.ref a596), .val (.ref b0), .val (.int v780), .val (.ref b1), .val (.ref a782), .val (.long t2), .second, .val (.long vlat), .second, .val (.long t2), .second] [(.int (XT.cmpL t2 t2))])) _
        have c240 : t2 = t2 := rfl
        refine g_lif_ne X842 hx (hb hby at_240) (by decide) (pc' := 247) (by decide) (fun q => absurd c240 q) (fun _ => ?_)
        show Goes p.tables e below (T842.setTop (mkF m 243 #[.val (.long p0), .second, .val (.long p1), .second, .val (.long p2), .second, .val (.int p3), .val (.int p4), .val (.int (3 : Int32)), .val (.long p0), .second, .val (.long t1), .second, .val (.long t2), .second, .val (.ref a596), .val (.ref b0), .val (.int v780), .val (.ref b1), .val (.ref a782), .val (.long t2), .second, .val (.long vlat), .second, .val (.long t2), .second] [])) _
        refine g_iconst X842 hx (1 : Int32) (hb hby at_243) rfl ?_
        show Goes p.tables e below (T842.setTop (mkF m 244 #[.val (.long p0), .second, .val (.long p1), .second, .val (.long p2), .second, .val (.int p3), .val (.int p4), .val (.int (3 : Int32)), .val (.long p0), .second, .val (.long t1), .second, .val (.long t2), .second, .val (.ref a596), .val (.ref b0), .val (.int v780), .val (.ref b1), .val (.ref a782), .val (.long t2), .second, .val (.long vlat), .second, .val (.long t2), .second] [(.int (1 : Int32))])) _
        refine g_goto X842 hx (hb hby at_244) (by decide) (pc' := 248) (by decide) ?_
        show Goes p.tables e below (T842.setTop (mkF m 248 #[.val (.long p0), .second, .val (.long p1), .second, .val (.long p2), .second, .val (.int p3), .val (.int p4), .val (.int (3 : Int32)), .val (.long p0), .second, .val (.long t1), .second, .val (.long t2), .second, .val (.ref a596), .val (.ref b0), .val (.int v780), .val (.ref b1), .val (.ref a782), .val (.long t2), .second, .val (.long vlat), .second, .val (.long t2), .second] [(.int (1 : Int32))])) _
        exact g_retZ X842 hx (hz := (by decide)) hret hlk (hb hby at_248) (by decide) (by decide) ⟨rfl, N843⟩
      · skip
        show Goes p.tables e below (T779.setTop (mkF m 106 #[.val (.long p0), .second, .val (.long p1), .second, .val (.long p2), .second, .val (.int p3), .val (.int p4), .val (.int (3 : Int32)), .val (.long p0), .second, .val (.long t1), .second, .val (.long t2), .second, .val (.ref a596), .val (.ref b0), .val (.int v780), .unset, .unset, .unset, .unset, .unset, .unset, .unset, .unset] [])) _
        refine g_getS X779 hx hZ hown e779 (host := "") (Or.inl (hw _ (List.mem_of_getElem? (i := 46) rfl))) fx645 (hb hby at_106) (fun T844 X844 e844 => ?_)
        show Goes p.tables e below (T844.setTop (mkF m 109 #[.val (.long p0), .second, .val (.long p1), .second, .val (.long p2), .second, .val (.int p3), .val (.int p4), .val (.int (3 : Int32)), .val (.long p0), .second, .val (.long t1), .second, .val (.long t2), .second, .val (.ref a596), .val (.ref b0), .val (.int v780), .unset, .unset, .unset, .unset, .unset, .unset, .unset, .unset] [(.ref b3)])) _
        refine g_goto X844 hx (hb hby at_109) (by decide) (pc' := 115) (by decide) ?_
        show Goes p.tables e below (T844.setTop (mkF m 115 #[.val (.long p0), .second, .val (.long p1), .second, .val (.long p2), .second, .val (.int p3), .val (.int p4), .val (.int (3 : Int32)), .val (.long p0), .second, .val (.long t1), .second, .val (.long t2), .second, .val (.ref a596), .val (.ref b0), .val (.int v780), .unset, .unset, .unset, .unset, .unset, .unset, .unset, .unset] [(.ref b3)])) _
        refine g_astore X844 hx (hb hby at_115) rfl (l' := #[.val (.long p0), .second, .val (.long p1), .second, .val (.long p2), .second, .val (.int p3), .val (.int p4), .val (.int (3 : Int32)), .val (.long p0), .second, .val (.long t1), .second, .val (.long t2), .second, .val (.ref a596), .val (.ref b0), .val (.int v780), .val (.ref b3), .unset, .unset, .unset, .unset, .unset, .unset, .unset]) rfl ?_
        show Goes p.tables e below (T844.setTop (mkF m 117 #[.val (.long p0), .second, .val (.long p1), .second, .val (.long p2), .second, .val (.int p3), .val (.int p4), .val (.int (3 : Int32)), .val (.long p0), .second, .val (.long t1), .second, .val (.long t2), .second, .val (.ref a596), .val (.ref b0), .val (.int v780), .val (.ref b3), .unset, .unset, .unset, .unset, .unset, .unset, .unset] [])) _
        refine g_new X844 hx hZ hown e844 (hw _ (List.mem_of_getElem? (i := 12) rfl)) (hw _ (List.mem_of_getElem? (i := 13) rfl)) (hw _ (List.mem_of_getElem? (i := 14) rfl)) (hb hby at_117) (by decide) (by decide) (fun T845 h845 a845 ga845 X845 e845 Ex845 Ea845 Df845 => ?_)
        have ne846 : b0 ≠ a845 := Nat.ne_of_lt (by rw [ga845]; exact fx640.lt)
        have ne847 : b1 ≠ a845 := Nat.ne_of_lt (by rw [ga845]; exact fx642.lt)
        have ne848 : b2 ≠ a845 := Nat.ne_of_lt (by rw [ga845]; exact fx644.lt)
        have ne849 : b3 ≠ a845 := Nat.ne_of_lt (by rw [ga845]; exact fx646.lt)
        have ne850 : a596 ≠ a845 := Nat.ne_of_lt (by rw [ga845]; exact fx647.lt)
        have ge851 : h0.size ≤ a845 := by rw [ga845]; exact Z650
        have fx852 : Sta Z h845 "com/example/drongo/drongo/event/RotaryEvent$Knob" "NAVIGATION" "Lcom/example/drongo/drongo/event/RotaryEvent$Knob;" (.ref b0) := Sta.ext Ex845 fx639
        have fx853 : Exa Z h845 b0 "com/example/drongo/drongo/event/RotaryEvent$Knob" := Exa.ext Ex845 fx640
        have fx854 : Sta Z h845 "com/example/drongo/drongo/event/Display" "CLUSTER" "Lcom/example/drongo/drongo/event/Display;" (.ref b1) := Sta.ext Ex845 fx641
        have fx855 : Exa Z h845 b1 "com/example/drongo/drongo/event/Display" := Exa.ext Ex845 fx642
        have fx856 : Sta Z h845 "com/example/drongo/drongo/event/RotaryEvent$Knob" "VOLUME" "Lcom/example/drongo/drongo/event/RotaryEvent$Knob;" (.ref b2) := Sta.ext Ex845 fx643
        have fx857 : Exa Z h845 b2 "com/example/drongo/drongo/event/RotaryEvent$Knob" := Exa.ext Ex845 fx644
        have fx858 : Sta Z h845 "com/example/drongo/drongo/event/Display" "MAIN" "Lcom/example/drongo/drongo/event/Display;" (.ref b3) := Sta.ext Ex845 fx645
        have fx859 : Exa Z h845 b3 "com/example/drongo/drongo/event/Display" := Exa.ext Ex845 fx646
        have fx860 : Exa Z h845 a596 "[J" := Exa.ext Ex845 fx647
        have fx861 : Ar Z h845 a596 .long [(.long p0), (.long t1), (.long t2)] := Ar.ext fx648 Ex845
        have Z862 : h0.size ≤ h845.size := Nat.le_trans Z650 Ex845.1
        have fx863 : Fld Z h845 a845 "com/example/drongo/drongo/event/RotaryEvent" "knob" "Lcom/example/drongo/drongo/event/RotaryEvent$Knob;" .null := Df845 (Or.inr (hw _ (List.mem_of_getElem? (i := 22) rfl))) (ty := (.object "com/example/drongo/drongo/event/RotaryEvent$Knob")) (by decide)
        have fx864 : Fld Z h845 a845 "com/example/drongo/drongo/event/RotaryEvent" "clockwise" "Z" (.int (0 : Int32)) := Df845 (Or.inr (hw _ (List.mem_of_getElem? (i := 24) rfl))) (ty := .boolean) (by decide)
        have fx865 : Fld Z h845 a845 "com/example/drongo/drongo/event/RotaryEvent" "display" "Lcom/example/drongo/drongo/event/Display;" .null := Df845 (Or.inr (hw _ (List.mem_of_getElem? (i := 26) rfl))) (ty := (.object "com/example/drongo/drongo/event/Display")) (by decide)
        have fx866 : Fld Z h845 a845 "com/example/drongo/drongo/event/RotaryEvent" "timesMillis" "[J" .null := Df845 (Or.inr (hw _ (List.mem_of_getElem? (i := 37) rfl))) (ty := (.array .long)) (by decide)
        show Goes p.tables e below (T845.setTop (mkF m 120 #[.val (.long p0), .second, .val (.long p1), .second, .val (.long p2), .second, .val (.int p3), .val (.int p4), .val (.int (3 : Int32)), .val (.long p0), .second, .val (.long t1), .second, .val (.long t2), .second, .val (.ref a596), .val (.ref b0), .val (.int v780), .val (.ref b3), .unset, .unset, .unset, .unset, .unset, .unset, .unset] [(.ref a845)])) _
        refine g_dup X845 hx (hb hby at_120) rfl ?_
        show Goes p.tables e below (T845.setTop (mkF m 121 #[.val (.long p0), .second, .val (.long p1), .second, .val (.long p2), .second, .val (.int p3), .val (.int p4), .val (.int (3 : Int32)), .val (.long p0), .second, .val (.long t1), .second, .val (.long t2), .second, .val (.ref a596), .val (.ref b0), .val (.int v780), .val (.ref b3), .unset, .unset, .unset, .unset, .unset, .unset, .unset] [(.ref a845), (.ref a845)])) _
        refine g_aload X845 hx (hb hby at_121) rfl rfl ?_
        show Goes p.tables e below (T845.setTop (mkF m 123 #[.val (.long p0), .second, .val (.long p1), .second, .val (.long p2), .second, .val (.int p3), .val (.int p4), .val (.int (3 : Int32)), .val (.long p0), .second, .val (.long t1), .second, .val (.long t2), .second, .val (.ref a596), .val (.ref b0), .val (.int v780), .val (.ref b3), .unset, .unset, .unset, .unset, .unset, .unset, .unset] [(.ref b0), (.ref a845), (.ref a845)])) _
        refine g_iload X845 hx (hb hby at_123) rfl ?_
        show Goes p.tables e below (T845.setTop (mkF m 125 #[.val (.long p0), .second, .val (.long p1), .second, .val (.long p2), .second, .val (.int p3), .val (.int p4), .val (.int (3 : Int32)), .val (.long p0), .second, .val (.long t1), .second, .val (.long t2), .second, .val (.ref a596), .val (.ref b0), .val (.int v780), .val (.ref b3), .unset, .unset, .unset, .unset, .unset, .unset, .unset] [(.int v780), (.ref b0), (.ref a845), (.ref a845)])) _
        refine g_aload X845 hx (hb hby at_125) rfl rfl ?_
        show Goes p.tables e below (T845.setTop (mkF m 127 #[.val (.long p0), .second, .val (.long p1), .second, .val (.long p2), .second, .val (.int p3), .val (.int p4), .val (.int (3 : Int32)), .val (.long p0), .second, .val (.long t1), .second, .val (.long t2), .second, .val (.ref a596), .val (.ref b0), .val (.int v780), .val (.ref b3), .unset, .unset, .unset, .unset, .unset, .unset, .unset] [(.ref b3), (.int v780), (.ref b0), (.ref a845), (.ref a845)])) _
        refine g_aload X845 hx (hb hby at_127) rfl rfl ?_
        show Goes p.tables e below (T845.setTop (mkF m 129 #[.val (.long p0), .second, .val (.long p1), .second, .val (.long p2), .second, .val (.int p3), .val (.int p4), .val (.int (3 : Int32)), .val (.long p0), .second, .val (.long t1), .second, .val (.long t2), .second, .val (.ref a596), .val (.ref b0), .val (.int v780), .val (.ref b3), .unset, .unset, .unset, .unset, .unset, .unset, .unset] [(.ref a596), (.ref b3), (.int v780), (.ref b0), (.ref a845), (.ref a845)])) _
        have lta := fx861.lt
        have ltb := Ea845.lt
        refine g_callI X845 hx hZ hown (by rw [hml]; rfl) e845 rfl (hw _ (List.mem_of_getElem? (i := 15) rfl)) (hw _ (List.mem_of_getElem? (i := 16) rfl)) (hw _ (List.mem_of_getElem? (i := 14) rfl)) (hw _ (List.mem_of_getElem? (i := 17) rfl)) (rmI l Z a0 hw a845 b0 v780 b3 a596 h845 h0.size Z862 [(.long p0), (.long t1), (.long t2)] (by simp) fx863 fx864 fx865 fx866 Ea845 fx861 fx860 ge851 ne850) a845 [(.ref b0), (.int v780), (.ref b3), (.ref a596)] rfl [(.ref a845)] rfl (lenOf pd_2 rfl) (hb hby at_129) (by decide) 1 (by decide) (by decide) (by first | decide | exact Nat.le_refl _) (by decide) (by decide) (fun v T867 L867 X867 hQ867 => ?_)
        obtain ⟨rfl, Nc867, Kc867, b867, gb867, hb867, fT867, Ab867⟩ := hQ867
        have fx868 : Sta Z T867.heap "com/example/drongo/drongo/event/RotaryEvent$Knob" "NAVIGATION" "Lcom/example/drongo/drongo/event/RotaryEvent$Knob;" (.ref b0) := own_stakeep fx852 Kc867 (allS (own_nst Ea845) all0)
        have fx869 : Exa Z T867.heap b0 "com/example/drongo/drongo/event/RotaryEvent$Knob" := Exa.keep fx853 Kc867
        have fx870 : Sta Z T867.heap "com/example/drongo/drongo/event/Display" "CLUSTER" "Lcom/example/drongo/drongo/event/Display;" (.ref b1) := own_stakeep fx854 Kc867 (allS (own_nst Ea845) all0)
        have fx871 : Exa Z T867.heap b1 "com/example/drongo/drongo/event/Display" := Exa.keep fx855 Kc867
        have fx872 : Sta Z T867.heap "com/example/drongo/drongo/event/RotaryEvent$Knob" "VOLUME" "Lcom/example/drongo/drongo/event/RotaryEvent$Knob;" (.ref b2) := own_stakeep fx856 Kc867 (allS (own_nst Ea845) all0)
        have fx873 : Exa Z T867.heap b2 "com/example/drongo/drongo/event/RotaryEvent$Knob" := Exa.keep fx857 Kc867
        have fx874 : Sta Z T867.heap "com/example/drongo/drongo/event/Display" "MAIN" "Lcom/example/drongo/drongo/event/Display;" (.ref b3) := own_stakeep fx858 Kc867 (allS (own_nst Ea845) all0)
        have fx875 : Exa Z T867.heap b3 "com/example/drongo/drongo/event/Display" := Exa.keep fx859 Kc867
        have fx876 : Exa Z T867.heap a596 "[J" := Exa.keep fx860 Kc867
        have fx877 : Ar Z T867.heap a596 .long [(.long p0), (.long t1), (.long t2)] := Ar.keep fx861 Kc867 (ninS ne850 nin0)
        have fx878 : Exa Z T867.heap a845 "com/example/drongo/drongo/event/RotaryEvent" := Exa.keep Ea845 Kc867
        have N879 := Fr.app N649 Nc867
        have Z880 : h0.size ≤ T867.heap.size := Nat.le_trans Z862 Kc867.1
        have ne881 : a596 ≠ b867 := Nat.ne_of_lt (Nat.lt_of_lt_of_le lta hb867)
        have ne882 : a845 ≠ b867 := Nat.ne_of_lt (Nat.lt_of_lt_of_le ltb hb867)
        show Goes p.tables e below (T867.setTop (mkF m 132 #[.val (.long p0), .second, .val (.long p1), .second, .val (.long p2), .second, .val (.int p3), .val (.int p4), .val (.int (3 : Int32)), .val (.long p0), .second, .val (.long t1), .second, .val (.long t2), .second, .val (.ref a596), .val (.ref b0), .val (.int v780), .val (.ref b3), .unset, .unset, .unset, .unset, .unset, .unset, .unset] [(.ref a845)])) _
        refine g_astore X867 hx (hb hby at_132) rfl (l' := #[.val (.long p0), .second, .val (.long p1), .second, .val (.long p2), .second, .val (.int p3), .val (.int p4), .val (.int (3 : Int32)), .val (.long p0), .second, .val (.long t1), .second, .val (.long t2), .second, .val (.ref a596), .val (.ref b0), .val (.int v780), .val (.ref b3), .val (.ref a845), .unset, .unset, .unset, .unset, .unset, .unset]) rfl ?_
        show Goes p.tables e below (T867.setTop (mkF m 134 #[.val (.long p0), .second, .val (.long p1), .second, .val (.long p2), .second, .val (.int p3), .val (.int p4), .val (.int (3 : Int32)), .val (.long p0), .second, .val (.long t1), .second, .val (.long t2), .second, .val (.ref a596), .val (.ref b0), .val (.int v780), .val (.ref b3), .val (.ref a845), .unset, .unset, .unset, .unset, .unset, .unset] [])) _
        refine g_iload X867 hx (hb hby at_134) rfl ?_
        show Goes p.tables e below (T867.setTop (mkF m 136 #[.val (.long p0), .second, .val (.long p1), .second, .val (.long p2), .second, .val (.int p3), .val (.int p4), .val (.int (3 : Int32)), .val (.long p0), .second, .val (.long t1), .second, .val (.long t2), .second, .val (.ref a596), .val (.ref b0), .val (.int v780), .val (.ref b3), .val (.ref a845), .unset, .unset, .unset, .unset, .unset, .unset] [(.int (3 : Int32))])) _
        refine g_iconst X867 hx (1 : Int32) (hb hby at_136) rfl ?_
        show Goes p.tables e below (T867.setTop (mkF m 137 #[.val (.long p0), .second, .val (.long p1), .second, .val (.long p2), .second, .val (.int p3), .val (.int p4), .val (.int (3 : Int32)), .val (.long p0), .second, .val (.long t1), .second, .val (.long t2), .second, .val (.ref a596), .val (.ref b0), .val (.int v780), .val (.ref b3), .val (.ref a845), .unset, .unset, .unset, .unset, .unset, .unset] [(.int (1 : Int32)), (.int (3 : Int32))])) _
        refine g_icmp_ne X867 hx (hb hby at_137) (by decide) (pc' := 145) (by decide) (fun _ => ?_) (fun q => absurd q (by decide))
        show Goes p.tables e below (T867.setTop (mkF m 145 #[.val (.long p0), .second, .val (.long p1), .second, .val (.long p2), .second, .val (.int p3), .val (.int p4), .val (.int (3 : Int32)), .val (.long p0), .second, .val (.long t1), .second, .val (.long t2), .second, .val (.ref a596), .val (.ref b0), .val (.int v780), .val (.ref b3), .val (.ref a845), .unset, .unset, .unset, .unset, .unset, .unset] [])) _
        refine g_iload X867 hx (hb hby at_145) rfl ?_
        show Goes p.tables e below (T867.setTop (mkF m 147 #[.val (.long p0), .second, .val (.long p1), .second, .val (.long p2), .second, .val (.int p3), .val (.int p4), .val (.int (3 : Int32)), .val (.long p0), .second, .val (.long t1), .second, .val (.long t2), .second, .val (.ref a596), .val (.ref b0), .val (.int v780), .val (.ref b3), .val (.ref a845), .unset, .unset, .unset, .unset, .unset, .unset] [(.int (3 : Int32))])) _
        refine g_iconst X867 hx (2 : Int32) (hb hby at_147) rfl ?_
        show Goes p.tables e below (T867.setTop (mkF m 148 #[.val (.long p0), .second, .val (.long p1), .second, .val (.long p2), .second, .val (.int p3), .val (.int p4), .val (.int (3 : Int32)), .val (.long p0), .second, .val (.long t1), .second, .val (.long t2), .second, .val (.ref a596), .val (.ref b0), .val (.int v780), .val (.ref b3), .val (.ref a845), .unset, .unset, .unset, .unset, .unset, .unset] [(.int (2 : Int32)), (.int (3 : Int32))])) _
        refine g_icmp_ne X867 hx (hb hby at_148) (by decide) (pc' := 156) (by decide) (fun _ => ?_) (fun q => absurd q (by decide))
        show Goes p.tables e below (T867.setTop (mkF m 156 #[.val (.long p0), .second, .val (.long p1), .second, .val (.long p2), .second, .val (.int p3), .val (.int p4), .val (.int (3 : Int32)), .val (.long p0), .second, .val (.long t1), .second, .val (.long t2), .second, .val (.ref a596), .val (.ref b0), .val (.int v780), .val (.ref b3), .val (.ref a845), .unset, .unset, .unset, .unset, .unset, .unset] [])) _
        refine g_lload X867 hx (hb hby at_156) rfl ?_
        show Goes p.tables e below (T867.setTop (mkF m 158 #[.val (.long p0), .second, .val (.long p1), .second, .val (.long p2), .second, .val (.int p3), .val (.int p4), .val (.int (3 : Int32)), .val (.long p0), .second, .val (.long t1), .second, .val (.long t2), .second, .val (.ref a596), .val (.ref b0), .val (.int v780), .val (.ref b3), .val (.ref a845), .unset, .unset, .unset, .unset, .unset, .unset] [(.long t2)])) _
        refine g_lstore X867 hx (hb hby at_158) (l' := #[.val (.long p0), .second, .val (.long p1), .second, .val (.long p2), .second, .val (.int p3), .val (.int p4), .val (.int (3 : Int32)), .val (.long p0), .second, .val (.long t1), .second, .val (.long t2), .second, .val (.ref a596), .val (.ref b0), .val (.int v780), .val (.ref b3), .val (.ref a845), .val (.long t2), .second, .unset, .unset, .unset, .unset]) rfl ?_
        show Goes p.tables e below (T867.setTop (mkF m 160 #[.val (.long p0), .second, .val (.long p1), .second, .val (.long p2), .second, .val (.int p3), .val (.int p4), .val (.int (3 : Int32)), .val (.long p0), .second, .val (.long t1), .second, .val (.long t2), .second, .val (.ref a596), .val (.ref b0), .val (.int v780), .val (.ref b3), .val (.ref a845), .val (.long t2), .second, .unset, .unset, .unset, .unset] [])) _
        refine g_lload X867 hx (hb hby at_160) rfl ?_
        show Goes p.tables e below (T867.setTop (mkF m 162 #[.val (.long p0), .second, .val (.long p1), .second, .val (.long p2), .second, .val (.int p3), .val (.int p4), .val (.int (3 : Int32)), .val (.long p0), .second, .val (.long t1), .second, .val (.long t2), .second, .val (.ref a596), .val (.ref b0), .val (.int v780), .val (.ref b3), .val (.ref a845), .val (.long t2), .second, .unset, .unset, .unset, .unset] [(.long p0)])) _
        refine g_iload X867 hx (hb hby at_162) rfl ?_
        show Goes p.tables e below (T867.setTop (mkF m 164 #[.val (.long p0), .second, .val (.long p1), .second, .val (.long p2), .second, .val (.int p3), .val (.int p4), .val (.int (3 : Int32)), .val (.long p0), .second, .val (.long t1), .second, .val (.long t2), .second, .val (.ref a596), .val (.ref b0), .val (.int v780), .val (.ref b3), .val (.ref a845), .val (.long t2), .second, .unset, .unset, .unset, .unset] [(.int (3 : Int32)), (.long p0)])) _
        refine g_iconst X867 hx (1 : Int32) (hb hby at_164) rfl ?_
        show Goes p.tables e below (T867.setTop (mkF m 165 #[.val (.long p0), .second, .val (.long p1), .second, .val (.long p2), .second, .val (.int p3), .val (.int p4), .val (.int (3 : Int32)), .val (.long p0), .second, .val (.long t1), .second, .val (.long t2), .second, .val (.ref a596), .val (.ref b0), .val (.int v780), .val (.ref b3), .val (.ref a845), .val (.long t2), .second, .unset, .unset, .unset, .unset] [(.int (1 : Int32)), (.int (3 : Int32)), (.long p0)])) _
        refine g_icmp_le X867 hx (hb hby at_165) (by decide) (pc' := 173) (by decide) (fun q => absurd (by decide) q) (fun _ => ?_)
        show Goes p.tables e below (T867.setTop (mkF m 168 #[.val (.long p0), .second, .val (.long p1), .second, .val (.long p2), .second, .val (.int p3), .val (.int p4), .val (.int (3 : Int32)), .val (.long p0), .second, .val (.long t1), .second, .val (.long t2), .second, .val (.ref a596), .val (.ref b0), .val (.int v780), .val (.ref b3), .val (.ref a845), .val (.long t2), .second, .unset, .unset, .unset, .unset] [(.long p0)])) _
        refine g_lload X867 hx (hb hby at_168) rfl ?_
        show Goes p.tables e below (T867.setTop (mkF m 170 #[.val (.long p0), .second, .val (.long p1), .second, .val (.long p2), .second, .val (.int p3), .val (.int p4), .val (.int (3 : Int32)), .val (.long p0), .second, .val (.long t1), .second, .val (.long t2), .second, .val (.ref a596), .val (.ref b0), .val (.int v780), .val (.ref b3), .val (.ref a845), .val (.long t2), .second, .unset, .unset, .unset, .unset] [(.long t1), (.long p0)])) _
        refine g_goto X867 hx (hb hby at_170) (by decide) (pc' := 175) (by decide) ?_
        show Goes p.tables e below (T867.setTop (mkF m 175 #[.val (.long p0), .second, .val (.long p1), .second, .val (.long p2), .second, .val (.int p3), .val (.int p4), .val (.int (3 : Int32)), .val (.long p0), .second, .val (.long t1), .second, .val (.long t2), .second, .val (.ref a596), .val (.ref b0), .val (.int v780), .val (.ref b3), .val (.ref a845), .val (.long t2), .second, .unset, .unset, .unset, .unset] [(.long t1), (.long p0)])) _
        refine g_iload X867 hx (hb hby at_175) rfl ?_
        show Goes p.tables e below (T867.setTop (mkF m 177 #[.val (.long p0), .second, .val (.long p1), .second, .val (.long p2), .second, .val (.int p3), .val (.int p4), .val (.int (3 : Int32)), .val (.long p0), .second, .val (.long t1), .second, .val (.long t2), .second, .val (.ref a596), .val (.ref b0), .val (.int v780), .val (.ref b3), .val (.ref a845), .val (.long t2), .second, .unset, .unset, .unset, .unset] [(.int (3 : Int32)), (.long t1), (.long p0)])) _
        refine g_iconst X867 hx (2 : Int32) (hb hby at_177) rfl ?_
        show Goes p.tables e below (T867.setTop (mkF m 178 #[.val (.long p0), .second, .val (.long p1), .second, .val (.long p2), .second, .val (.int p3), .val (.int p4), .val (.int (3 : Int32)), .val (.long p0), .second, .val (.long t1), .second, .val (.long t2), .second, .val (.ref a596), .val (.ref b0), .val (.int v780), .val (.ref b3), .val (.ref a845), .val (.long t2), .second, .unset, .unset, .unset, .unset] [(.int (2 : Int32)), (.int (3 : Int32)), (.long t1), (.long p0)])) _
        refine g_icmp_le X867 hx (hb hby at_178) (by decide) (pc' := 186) (by decide) (fun q => absurd (by decide) q) (fun _ => ?_)
        show Goes p.tables e below (T867.setTop (mkF m 181 #[.val (.long p0), .second, .val (.long p1), .second, .val (.long p2), .second, .val (.int p3), .val (.int p4), .val (.int (3 : Int32)), .val (.long p0), .second, .val (.long t1), .second, .val (.long t2), .second, .val (.ref a596), .val (.ref b0), .val (.int v780), .val (.ref b3), .val (.ref a845), .val (.long t2), .second, .unset, .unset, .unset, .unset] [(.long t1), (.long p0)])) _
        refine g_lload X867 hx (hb hby at_181) rfl ?_
        show Goes p.tables e below (T867.setTop (mkF m 183 #[.val (.long p0), .second, .val (.long p1), .second, .val (.long p2), .second, .val (.int p3), .val (.int p4), .val (.int (3 : Int32)), .val (.long p0), .second, .val (.long t1), .second, .val (.long t2), .second, .val (.ref a596), .val (.ref b0), .val (.int v780), .val (.ref b3), .val (.ref a845), .val (.long t2), .second, .unset, .unset, .unset, .unset] [(.long t2), (.long t1), (.long p0)])) _
        refine g_goto X867 hx (hb hby at_183) (by decide) (pc' := 188) (by decide) ?_
        show Goes p.tables e below (T867.setTop (mkF m 188 #[.val (.long p0), .second, .val (.long p1), .second, .val (.long p2), .second, .val (.int p3), .val (.int p4), .val (.int (3 : Int32)), .val (.long p0), .second, .val (.long t1), .second, .val (.long t2), .second, .val (.ref a596), .val (.ref b0), .val (.int v780), .val (.ref b3), .val (.ref a845), .val (.long t2), .second, .unset, .unset, .unset, .unset] [(.long t2), (.long t1), (.long p0)])) _
        refine g_callS X867 hx hZ hown (by rw [hml]; rfl) rfl (hw _ (List.mem_of_getElem? (i := 1) rfl)) (hw _ (List.mem_of_getElem? (i := 2) rfl)) (hw _ (List.mem_of_getElem? (i := 3) rfl)) (hw _ (List.mem_of_getElem? (i := 4) rfl)) (rmX l Z a0 hw t1 t2 T867.heap) [(.long t1), (.long t2)] rfl [(.long p0)] rfl (lenOf pd_1 rfl) (hb hby at_188) (by decide) 2 (by decide) (by decide) (by first | decide | exact Nat.le_refl _) (by decide) (by decide) (fun v T883 L883 X883 hQ883 => ?_)
        obtain ⟨rfl, e883, rfl⟩ := hQ883
        have N884 := Fr.app N879 (Fr.nil h0.size)
        show Goes p.tables e below (T883.setTop (mkF m 191 #[.val (.long p0), .second, .val (.long p1), .second, .val (.long p2), .second, .val (.int p3), .val (.int p4), .val (.int (3 : Int32)), .val (.long p0), .second, .val (.long t1), .second, .val (.long t2), .second, .val (.ref a596), .val (.ref b0), .val (.int v780), .val (.ref b3), .val (.ref a845), .val (.long t2), .second, .unset, .unset, .unset, .unset] [(.long (maxV t1 t2)), (.long p0)])) _
        refine g_callS X883 hx hZ hown (by rw [hml]; rfl) e883 (hw _ (List.mem_of_getElem? (i := 1) rfl)) (hw _ (List.mem_of_getElem? (i := 2) rfl)) (hw _ (List.mem_of_getElem? (i := 3) rfl)) (hw _ (List.mem_of_getElem? (i := 4) rfl)) (rmX l Z a0 hw p0 (maxV t1 t2) T867.heap) [(.long p0), (.long (maxV t1 t2))] rfl [] rfl (lenOf pd_1 rfl) (hb hby at_191) (by decide) 0 (by decide) (by decide) (by first | decide | exact Nat.le_refl _) (by decide) (by decide) (fun v T885 L885 X885 hQ885 => ?_)
        obtain ⟨rfl, e885, rfl⟩ := hQ885
        have N886 := Fr.app N884 (Fr.nil h0.size)
        show Goes p.tables e below (T885.setTop (mkF m 194 #[.val (.long p0), .second, .val (.long p1), .second, .val (.long p2), .second, .val (.int p3), .val (.int p4), .val (.int (3 : Int32)), .val (.long p0), .second, .val (.long t1), .second, .val (.long t2), .second, .val (.ref a596), .val (.ref b0), .val (.int v780), .val (.ref b3), .val (.ref a845), .val (.long t2), .second, .unset, .unset, .unset, .unset] [(.long (maxV p0 (maxV t1 t2)))])) _
        obtain ⟨vlat, hvlat⟩ : ∃ z : Int64, z = (maxV p0 (maxV t1 t2)) := ⟨_, rfl⟩
        refine g_nameL hvlat ?_
        show Goes p.tables e below (T885.setTop (mkF m 194 #[.val (.long p0), .second, .val (.long p1), .second, .val (.long p2), .second, .val (.int p3), .val (.int p4), .val (.int (3 : Int32)), .val (.long p0), .second, .val (.long t1), .second, .val (.long t2), .second, .val (.ref a596), .val (.ref b0), .val (.int v780), .val (.ref b3), .val (.ref a845), .val (.long t2), .second, .unset, .unset, .unset, .unset] [(.long vlat)])) _
        refine g_lstore X885 hx (hb hby at_194) (l' := #[.val (.long p0), .second, .val (.long p1), .second, .val (.long p2), .second, .val (.int p3), .val (.int p4), .val (.int (3 : Int32)), .val (.long p0), .second, .val (.long t1), .second, .val (.long t2), .second, .val (.ref a596), .val (.ref b0), .val (.int v780), .val (.ref b3), .val (.ref a845), .val (.long t2), .second, .val (.long vlat), .second, .unset, .unset]) rfl ?_
        show Goes p.tables e below (T885.setTop (mkF m 196 #[.val (.long p0), .second, .val (.long p1), .second, .val (.long p2), .second, .val (.int p3), .val (.int p4), .val (.int (3 : Int32)), .val (.long p0), .second, .val (.long t1), .second, .val (.long t2), .second, .val (.ref a596), .val (.ref b0), .val (.int v780), .val (.ref b3), .val (.ref a845), .val (.long t2), .second, .val (.long vlat), .second, .unset, .unset] [])) _
        refine g_aload X885 hx (hb hby at_196) rfl rfl ?_
        show Goes p.tables e below (T885.setTop (mkF m 198 #[.val (.long p0), .second, .val (.long p1), .second, .val (.long p2), .second, .val (.int p3), .val (.int p4), .val (.int (3 : Int32)), .val (.long p0), .second, .val (.long t1), .second, .val (.long t2), .second, .val (.ref a596), .val (.ref b0), .val (.int v780), .val (.ref b3), .val (.ref a845), .val (.long t2), .second, .val (.long vlat), .second, .unset, .unset] [(.ref a596)])) _
        refine g_iload X885 hx (hb hby at_198) rfl ?_
        show Goes p.tables e below (T885.setTop (mkF m 200 #[.val (.long p0), .second, .val (.long p1), .second, .val (.long p2), .second, .val (.int p3), .val (.int p4), .val (.int (3 : Int32)), .val (.long p0), .second, .val (.long t1), .second, .val (.long t2), .second, .val (.ref a596), .val (.ref b0), .val (.int v780), .val (.ref b3), .val (.ref a845), .val (.long t2), .second, .val (.long vlat), .second, .unset, .unset] [(.int (3 : Int32)), (.ref a596)])) _
        refine g_iconst X885 hx (1 : Int32) (hb hby at_200) rfl ?_
        show Goes p.tables e below (T885.setTop (mkF m 201 #[.val (.long p0), .second, .val (.long p1), .second, .val (.long p2), .second, .val (.int p3), .val (.int p4), .val (.int (3 : Int32)), .val (.long p0), .second, .val (.long t1), .second, .val (.long t2), .second, .val (.ref a596), .val (.ref b0), .val (.int v780), .val (.ref b3), .val (.ref a845), .val (.long t2), .second, .val (.long vlat), .second, .unset, .unset] [(.int (1 : Int32)), (.int (3 : Int32)), (.ref a596)])) _
        refine g_isub X885 hx (hb hby at_201) ?_
        show Goes p.tables e below (T885.setTop (mkF m 202 #[.val (.long p0), .second, .val (.long p1), .second, .val (.long p2), .second, .val (.int p3), .val (.int p4), .val (.int (3 : Int32)), .val (.long p0), .second, .val (.long t1), .second, .val (.long t2), .second, .val (.ref a596), .val (.ref b0), .val (.int v780), .val (.ref b3), .val (.ref a845), .val (.long t2), .second, .val (.long vlat), .second, .unset, .unset] [(.int ((3 : Int32) - (1 : Int32))), (.ref a596)])) _
        refine g_lload X885 hx (hb hby at_202) rfl ?_
        show Goes p.tables e below (T885.setTop (mkF m 204 #[.val (.long p0), .second, .val (.long p1), .second, .val (.long p2), .second, .val (.int p3), .val (.int p4), .val (.int (3 : Int32)), .val (.long p0), .second, .val (.long t1), .second, .val (.long t2), .second, .val (.ref a596), .val (.ref b0), .val (.int v780), .val (.ref b3), .val (.ref a845), .val (.long t2), .second, .val (.long vlat), .second, .unset, .unset] [(.long t2), (.int ((3 : Int32) - (1 : Int32))), (.ref a596)])) _
        refine g_ldc2 X885 hx hZ hown (hw _ (List.mem_of_getElem? (i := 38) rfl)) (hb hby at_204) ?_
        show Goes p.tables e below (T885.setTop (mkF m 207 #[.val (.long p0), .second, .val (.long p1), .second, .val (.long p2), .second, .val (.int p3), .val (.int p4), .val (.int (3 : Int32)), .val (.long p0), .second, .val (.long t1), .second, .val (.long t2), .second, .val (.ref a596), .val (.ref b0), .val (.int v780), .val (.ref b3), .val (.ref a845), .val (.long t2), .second, .val (.long vlat), .second, .unset, .unset] [(.long (-1 : Int64)), (.long t2), (.int ((3 : Int32) - (1 : Int32))), (.ref a596)])) _
        refine g_lxor X885 hx (hb hby at_207) ?_
        show Goes p.tables e below (T885.setTop (mkF m 208 #[.val (.long p0), .second, .val (.long p1), .second, .val (.long p2), .second, .val (.int p3), .val (.int p4), .val (.int (3 : Int32)), .val (.long p0), .second, .val (.long t1), .second, .val (.long t2), .second, .val (.ref a596), .val (.ref b0), .val (.int v780), .val (.ref b3), .val (.ref a845), .val (.long t2), .second, .val (.long vlat), .second, .unset, .unset] [(.long (t2 ^^^ (-1 : Int64))), (.int ((3 : Int32) - (1 : Int32))), (.ref a596)])) _
        refine g_lastore X885 hx hZ e885 fx877 2 (by decide) (by simp) (hb hby at_208) (fun T887 h887 X887 e887 W887 A887 => ?_)
        have fx888 : Sta Z h887 "com/example/drongo/drongo/event/RotaryEvent$Knob" "NAVIGATION" "Lcom/example/drongo/drongo/event/RotaryEvent$Knob;" (.ref b0) := Sta.wr W887 fx868
        have fx889 : Exa Z h887 b0 "com/example/drongo/drongo/event/RotaryEvent$Knob" := Exa.wr W887 fx869
        have fx890 : Sta Z h887 "com/example/drongo/drongo/event/Display" "CLUSTER" "Lcom/example/drongo/drongo/event/Display;" (.ref b1) := Sta.wr W887 fx870
        have fx891 : Exa Z h887 b1 "com/example/drongo/drongo/event/Display" := Exa.wr W887 fx871
        have fx892 : Sta Z h887 "com/example/drongo/drongo/event/RotaryEvent$Knob" "VOLUME" "Lcom/example/drongo/drongo/event/RotaryEvent$Knob;" (.ref b2) := Sta.wr W887 fx872
        have fx893 : Exa Z h887 b2 "com/example/drongo/drongo/event/RotaryEvent$Knob" := Exa.wr W887 fx873
        have fx894 : Sta Z h887 "com/example/drongo/drongo/event/Display" "MAIN" "Lcom/example/drongo/drongo/event/Display;" (.ref b3) := Sta.wr W887 fx874
        have fx895 : Exa Z h887 b3 "com/example/drongo/drongo/event/Display" := Exa.wr W887 fx875
        have fx896 : Exa Z h887 a596 "[J" := Exa.wr W887 fx876
        have fx897 : Exa Z h887 a845 "com/example/drongo/drongo/event/RotaryEvent" := Exa.wr W887 fx878
        have fx898 : Fld Z h887 a845 "com/example/drongo/drongo/event/RotaryEvent" "timesMillis" "[J" (.ref b867) := Fld.other W887 fT867 (Or.inl (Ne.symm ne850))
        have fx899 : Ar Z h887 b867 .long [(.long p0), (.long t1), (.long t2)] := Ar.other Ab867 W887 (Ne.symm ne881)
        have fx900 : Ar Z h887 a596 .long (List.set [(.long p0), (.long t1), (.long t2)] 2 (.long (t2 ^^^ (-1 : Int64)))) := A887
        have N901 := Fr.snoc X887 N886 ge601
        have Z902 : h0.size ≤ h887.size := by rw [W887.size]; exact Z880
        show Goes p.tables e below (T887.setTop (mkF m 209 #[.val (.long p0), .second, .val (.long p1), .second, .val (.long p2), .second, .val (.int p3), .val (.int p4), .val (.int (3 : Int32)), .val (.long p0), .second, .val (.long t1), .second, .val (.long t2), .second, .val (.ref a596), .val (.ref b0), .val (.int v780), .val (.ref b3), .val (.ref a845), .val (.long t2), .second, .val (.long vlat), .second, .unset, .unset] [])) _
        refine g_aload X887 hx (hb hby at_209) rfl rfl ?_
        show Goes p.tables e below (T887.setTop (mkF m 211 #[.val (.long p0), .second, .val (.long p1), .second, .val (.long p2), .second, .val (.int p3), .val (.int p4), .val (.int (3 : Int32)), .val (.long p0), .second, .val (.long t1), .second, .val (.long t2), .second, .val (.ref a596), .val (.ref b0), .val (.int v780), .val (.ref b3), .val (.ref a845), .val (.long t2), .second, .val (.long vlat), .second, .unset, .unset] [(.ref a845)])) _
        refine g_callV X887 hx hZ hown (by rw [hml]; rfl) e887 (K := "com/example/drongo/drongo/event/RotaryEvent") (hw _ (List.mem_of_getElem? (i := 39) rfl)) (hw _ (List.mem_of_getElem? (i := 40) rfl)) (hw _ (List.mem_of_getElem? (i := 42) rfl)) (hw _ (List.mem_of_getElem? (i := 41) rfl)) (hw _ (List.mem_of_getElem? (i := 14) rfl)) (hw _ (List.mem_of_getElem? (i := 43) rfl)) fx897 (rmL l Z a0 hw a845 h887 b867 [(.long p0), (.long t1), (.long t2)] (3 : Int32) 2 t2 rfl (by decide) rfl fx898 fx899) [] rfl [] rfl (lenOf pd_4 rfl) (hb hby at_211) (by decide) 0 (by decide) (by decide) (by first | decide | exact Nat.le_refl _) (by decide) (by decide) (fun v T903 L903 X903 hQ903 => ?_)
        obtain ⟨rfl, e903, rfl⟩ := hQ903
        have N904 := Fr.app N901 (Fr.nil h0.size)
        show Goes p.tables e below (T903.setTop (mkF m 214 #[.val (.long p0), .second, .val (.long p1), .second, .val (.long p2), .second, .val (.int p3), .val (.int p4), .val (.int (3 : Int32)), .val (.long p0), .second, .val (.long t1), .second, .val (.long t2), .second, .val (.ref a596), .val (.ref b0), .val (.int v780), .val (.ref b3), .val (.ref a845), .val (.long t2), .second, .val (.long vlat), .second, .unset, .unset] [(.long t2)])) _
        refine g_lstore X903 hx (hb hby at_214) (l' := #[.val (.long p0), .second, .val (.long p1), .second, .val (.long p2), .second, .val (.int p3), .val (.int p4), .val (.int (3 : Int32)), .val (.long p0), .second, .val (.long t1), .second, .val (.long t2), .second, .val (.ref a596), .val (.ref b0), .val (.int v780), .val (.ref b3), .val (.ref a845), .val (.long t2), .second, .val (.long vlat), .second, .val (.long t2), .second]) rfl ?_
        show Goes p.tables e below (T903.setTop (mkF m 216 #[.val (.long p0), .second, .val (.long p1), .second, .val (.long p2), .second, .val (.int p3), .val (.int p4), .val (.int (3 : Int32)), .val (.long p0), .second, .val (.long t1), .second, .val (.long t2), .second, .val (.ref a596), .val (.ref b0), .val (.int v780), .val (.ref b3), .val (.ref a845), .val (.long t2), .second, .val (.long vlat), .second, .val (.long t2), .second] [])) _
        refine g_lload X903 hx (hb hby at_216) rfl ?_
        show Goes p.tables e below (T903.setTop (mkF m 218 #[.val (.long p0), .second, .val (.long p1), .second, .val (.long p2), .second, .val (.int p3), .val (.int p4), .val (.int (3 : Int32)), .val (.long p0), .second, .val (.long t1), .second, .val (.long t2), .second, .val (.ref a596), .val (.ref b0), .val (.int v780), .val (.ref b3), .val (.ref a845), .val (.long t2), .second, .val (.long vlat), .second, .val (.long t2), .second] [(.long t2)])) _
        refine g_lload X903 hx (hb hby at_218) rfl ?_
        show Goes p.tables e below (T903.setTop (mkF m 220 #[.val (.long p0), .second, .val (.long p1), .second, .val (.long p2), .second, .val (.int p3), .val (.int p4), .val (.int (3 : Int32)), .val (.long p0), .second, .val (.long t1), .second, .val (.long t2), .second, .val (.ref a596), .val (.ref b0), .val (.int v780), .val (.ref b3), .val (.ref a845), .val (.long t2), .second, .val (.long vlat), .second, .val (.long t2), .second] [(.long t2), (.long t2)])) _
        refine g_lcmp X903 hx (hb hby at_220) ?_
        show Goes p.tables e below (T903.setTop (mkF m 221 #[.val (.long p0), .second, .val (.long p1), .second, .val (.long p2), .second, .val (.int p3), .val (.int p4), .val (.int (3 : Int32)), .val (.long p0), .second, .val (.long t1), .second, .val (.long t2), .second, .val (.ref a596), .val (.ref b0), .val (.int v780), .val (.ref b3), .val (.ref a845), .val (.long t2), .second, .val (.long vlat), .second, .val (.long t2), .second] [(.int (XT.cmpL t2 t2))])) _
        have c221 : t2 = t2 := rfl
        refine g_lif_ne X903 hx (hb hby at_221) (by decide) (pc' := 247) (by decide) (fun q => absurd c221 q) (fun _ => ?_)
        show Goes p.tables e below (T903.setTop (mkF m 224 #[.val (.long p0), .second, .val (.long p1), .second, .val (.long p2), .second, .val (.int p3), .val (.int p4), .val (.int (3 : Int32)), .val (.long p0), .second, .val (.long t1), .second, .val (.long t2), .second, .val (.ref a596), .val (.ref b0), .val (.int v780), .val (.ref b3), .val (.ref a845), .val (.long t2), .second, .val (.long vlat), .second, .val (.long t2), .second] [])) _
        refine g_lload X903 hx (hb hby at_224) rfl ?_
        show Goes p.tables e below (T903.setTop (mkF m 226 #[.val (.long p0), .second, .val (.long p1), .second, .val (.long p2), .second, .val (.int p3), .val (.int p4), .val (.int (3 : Int32)), .val (.long p0), .second, .val (.long t1), .second, .val (.long t2), .second, .val (.ref a596), .val (.ref b0), .val (.int v780), .val (.ref b3), .val (.ref a845), .val (.long t2), .second, .val (.long vlat), .second, .val (.long t2), .second] [(.long t2)])) _
        refine g_lload X903 hx (hb hby at_226) rfl ?_
        show Goes p.tables e below (T903.setTop (mkF m 228 #[.val (.long p0), .second, .val (.long p1), .second, .val (.long p2), .second, .val (.int p3), .val (.int p4), .val (.int (3 : Int32)), .val (.long p0), .second, .val (.long t1), .second, .val (.long t2), .second, .val (.ref a596), .val (.ref b0), .val (.int v780), .val (.ref b3), .val (.ref a845), .val (.long t2), .second, .val (.long vlat), .second, .val (.long t2), .second] [(.long vlat), (.long t2)])) _
        refine g_lcmp X903 hx (hb hby at_228) ?_
        show Goes p.tables e below (T903.setTop (mkF m 229 #[.val (.long p0), .second, .val (.long p1), .second, .val (.long p2), .second, .val (.int p3), .val (.int p4), .val (.int (3 : Int32)), .val (.long p0), .second, .val (.long t1), .second, .val (.long t2), .second, .val (.ref a596), .val (.ref b0), .val (.int v780), .val (.ref b3), .val (.ref a845), .val (.long t2), .second, .val (.long vlat), .second, .val (.long t2), .second] [(.int (XT.cmpL t2 vlat))])) _
        have c229 : t2 = vlat := (by rw [hvlat, ht2, ht1]; exact (own_max3 p0 p1 p2).symm)
        refine g_lif_ne X903 hx (hb hby at_229) (by decide) (pc' := 247) (by decide) (fun q => absurd c229 q) (fun _ => ?_)
        show Goes p.tables e below (T903.setTop (mkF m 232 #[.val (.long p0), .second, .val (.long p1), .second, .val (.long p2), .second, .val (.int p3), .val (.int p4), .val (.int (3 : Int32)), .val (.long p0), .second, .val (.long t1), .second, .val (.long t2), .second, .val (.ref a596), .val (.ref b0), .val (.int v780), .val (.ref b3), .val (.ref a845), .val (.long t2), .second, .val (.long vlat), .second, .val (.long t2), .second] [])) _
        refine g_aload X903 hx (hb hby at_232) rfl rfl ?_
        show Goes p.tables e below (T903.setTop (mkF m 234 #[.val (.long p0), .second, .val (.long p1), .second, .val (.long p2), .second, .val (.int p3), .val (.int p4), .val (.int (3 : Int32)), .val (.long p0), .second, .val (.long t1), .second, .val (.long t2), .second, .val (.ref a596), .val (.ref b0), .val (.int v780), .val (.ref b3), .val (.ref a845), .val (.long t2), .second, .val (.long vlat), .second, .val (.long t2), .second] [(.ref a845)])) _
        refine g_callV X903 hx hZ hown (by rw [hml]; rfl) e903 (K := "com/example/drongo/drongo/event/RotaryEvent") (hw _ (List.mem_of_getElem? (i := 39) rfl)) (hw _ (List.mem_of_getElem? (i := 40) rfl)) (hw _ (List.mem_of_getElem? (i := 42) rfl)) (hw _ (List.mem_of_getElem? (i := 41) rfl)) (hw _ (List.mem_of_getElem? (i := 14) rfl)) (hw _ (List.mem_of_getElem? (i := 43) rfl)) fx897 (rmL l Z a0 hw a845 h887 b867 [(.long p0), (.long t1), (.long t2)] (3 : Int32) 2 t2 rfl (by decide) rfl fx898 fx899) [] rfl [] rfl (lenOf pd_4 rfl) (hb hby at_234) (by decide) 0 (by decide) (by decide) (by first | decide | exact Nat.le_refl _) (by decide) (by decide) (fun v T905 L905 X905 hQ905 => ?_)
        obtain ⟨rfl, e905, rfl⟩ := hQ905
        have N906 := Fr.app N904 (Fr.nil h0.size)
        show Goes p.tables e below (T905.setTop (mkF m 237 #[.val (.long p0), .second, .val (.long p1), .second, .val (.long p2), .second, .val (.int p3), .val (.int p4), .val (.int (3 : Int32)), .val (.long p0), .second, .val (.long t1), .second, .val (.long t2), .second, .val (.ref a596), .val (.ref b0), .val (.int v780), .val (.ref b3), .val (.ref a845), .val (.long t2), .second, .val (.long vlat), .second, .val (.long t2), .second] [(.long t2)])) _
        refine g_lload X905 hx (hb hby at_237) rfl ?_
        show Goes p.tables e below (T905.setTop (mkF m 239 #[.val (.long p0), .second, .val (.long p1), .second, .val (.long p2), .second, .val (.int p3), .val (.int p4), .val (.int (3 : Int32)), .val (.long p0), .second, .val (.long t1), .second, .val (.long t2), .second, .val (.ref a596), .val (.ref b0), .val (.int v780), .val (.ref b3), .val (.ref a845), .val (.long t2), .second, .val (.long vlat), .second, .val (.long t2), .second] [(.long t2), (.long t2)])) _
        refine g_lcmp X905 hx (hb hby at_239) ?_
        show Goes p.tables e below (T905.setTop (mkF m 240 #[.val (.long p0), .second, .val (.long p1), .second, .val (.long p2), .second, .val (.int p3), .val (.int p4), .val (.int (3 : Int32)), .val (.long p0), .second, .val (.long t1), .second, .val (.long t2), .second, .val (.ref a596), .val (.ref b0), .val (.int v780), .val (.ref b3), .val (.ref a845), .val (.long t2), .second, .val (.long vlat), .second, .val (.long t2), .second] [(.int (XT.cmpL t2 t2))])) _
        have c240 : t2 = t2 := rfl
        refine g_lif_ne X905 hx (hb hby at_240) (by decide) (pc' := 247) (by decide) (fun q => absurd c240 q) (fun _ => ?_)
        show Goes p.tables e below (T905.setTop (mkF m 243 #[.val (.long p0), .second, .val (.long p1), .second, .val (.long p2), .second, .val (.int p3), .val (.int p4), .val (.int (3 : Int32)), .val (.long p0), .second, .val (.long t1), .second, .val (.long t2), .second, .val (.ref a596), .val (.ref b0), .val (.int v780), .val (.ref b3), .val (.ref a845), .val (.long t2), .second, .val (.long vlat), .second, .val (.long t2), .second] [])) _
        refine g_iconst X905 hx (1 : Int32) (hb hby at_243) rfl ?_
        show Goes p.tables e below (T905.setTop (mkF m 244 #[.val (.long p0), .second, .val (.long p1), .second, .val (.long p2), .second, .val (.int p3), .val (.int p4), .val (.int (3 : Int32)), .val (.long p0), .second, .val (.long t1), .second, .val (.long t2), .second, .val (.ref a596), .val (.ref b0), .val (.int v780), .val (.ref b3), .val (.ref a845), .val (.long t2), .second, .val (.long vlat), .second, .val (.long t2), .second] [(.int (1 : Int32))])) _
        refine g_goto X905 hx (hb hby at_244) (by decide) (pc' := 248) (by decide) ?_
        show Goes p.tables e below (T905.setTop (mkF m 248 #[.val (.long p0), .second, .val (.long p1), .second, .val (.long p2), .second, .val (.int p3), .val (.int p4), .val (.int (3 : Int32)), .val (.long p0), .second, .val (.long t1), .second, .val (.long t2), .second, .val (.ref a596), .val (.ref b0), .val (.int v780), .val (.ref b3), .val (.ref a845), .val (.long t2), .second, .val (.long vlat), .second, .val (.long t2), .second] [(.int (1 : Int32))])) _
        exact g_retZ X905 hx (hz := (by decide)) hret hlk (hb hby at_248) (by decide) (by decide) ⟨rfl, N906⟩
set_option maxRecDepth 65536 in
set_option maxHeartbeats 40000000 in
theorem comes_1 {Post : Tables → Env → Array Value → State → Outcome → State → Prop} (hpost : ∀ tb e args s v u, (limb_1_1.after args s (.returned v) u = true ∧ limb_1_2.after args s (.returned v) u = true ∧ True) → FrameEnd s (.returned v) u (Jvm.fieldLocs frame_1_writes args s ++ Jvm.arrayLocs frame_1_arrays args s ++ Jvm.staticLocs frame_1_statics s) 16 128 → Post tb e args s (.returned v) u) :
    ArmFor flags0 classFile x code maxLocals ret World_1 tables_1 room_1 Calls_1 rest_1 Pre_1 Post := by
  intro l hfl _ _ p e ha hc hk s m args below hf hA hF happ hP
  obtain ⟨hcalls, hrest, hpre⟩ := hP
  obtain ⟨-, -, -, hnamed, -, -, -, hat⟩ := (Spec.applies_iff hf).mp happ
  obtain ⟨hg, hn⟩ := and_e (Cond.before_iff.mp (show (Jvm.Cond.and given_1 narrow_1).before args s = true from hpre))
  obtain ⟨h1, hg1⟩ := and_e hg
  obtain ⟨w0, w1, w2, w3, w4, rfl⟩ : ∃ w0 w1 w2 w3 w4 : Value, args = #[w0, w1, w2, w3, w4] := by
    have hs : args.size = 5 := by simpa [Cond.value, given_1] using h1
    obtain ⟨L⟩ := args
    match L, hs with
    | [w0, w1, w2, w3, w4], _ => exact ⟨w0, w1, w2, w3, w4, rfl⟩
  have hw := fun d (hd : d ∈ tables_1) => atoms_spec (ws := Jvm.Cond.code x code maxLocals ret :: tables_1) hat d (List.mem_cons_of_mem _ hd)
  obtain ⟨ha0, hg2⟩ := and_e hg1
  obtain ⟨i0, ei0⟩ := isL_v ha0
  obtain rfl : w0 = (.long i0) := Option.some.inj ei0
  obtain ⟨ha1, hg3⟩ := and_e hg2
  obtain ⟨i1, ei1⟩ := isL_v ha1
  obtain rfl : w1 = (.long i1) := Option.some.inj ei1
  obtain ⟨ha2, hg4⟩ := and_e hg3
  obtain ⟨i2, ei2⟩ := isL_v ha2
  obtain rfl : w2 = (.long i2) := Option.some.inj ei2
  obtain ⟨ha3, hg5⟩ := and_e hg4
  obtain ⟨i3, ei3⟩ := is_v ha3
  obtain rfl : w3 = (.int i3) := Option.some.inj ei3
  obtain ⟨i4, ei4⟩ := is_v hg5
  obtain rfl : w4 = (.int i4) := Option.some.inj ei4
  obtain ⟨n0, hn0⟩ := and_e hn
  obtain ⟨b0, eb0⟩ := exa_v n0
  have Sb0 := Sta.start eb0 (Or.inr ⟨(hw _ (List.mem_of_getElem? (i := 7) rfl)), (hw _ (List.mem_of_getElem? (i := 8) rfl))⟩)
  have Eb0 := Exa.start eb0 n0
  obtain ⟨n1, hn1⟩ := and_e hn0
  obtain ⟨b1, eb1⟩ := exa_v n1
  have Sb1 := Sta.start eb1 (Or.inr ⟨(hw _ (List.mem_of_getElem? (i := 10) rfl)), (hw _ (List.mem_of_getElem? (i := 11) rfl))⟩)
  have Eb1 := Exa.start eb1 n1
  obtain ⟨n2, hn2⟩ := and_e hn1
  obtain ⟨b2, eb2⟩ := exa_v n2
  have Sb2 := Sta.start eb2 (Or.inr ⟨(hw _ (List.mem_of_getElem? (i := 7) rfl)), (hw _ (List.mem_of_getElem? (i := 45) rfl))⟩)
  have Eb2 := Exa.start eb2 n2
  obtain ⟨b3, eb3⟩ := exa_v hn2
  have Sb3 := Sta.start eb3 (Or.inr ⟨(hw _ (List.mem_of_getElem? (i := 10) rfl)), (hw _ (List.mem_of_getElem? (i := 47) rfl))⟩)
  have Eb3 := Exa.start eb3 hn2
  obtain ⟨n, o, h1, h2, h3, _, L, rfl, ⟨rfl, N⟩, hq⟩ := law l s _ hw tables_1 i0 i1 i2 i3 i4 s.heap b0 Sb0 Eb0 b1 Sb1 Eb1 b2 Sb2 Eb2 b3 Sb3 Eb3 p e ha hc hk s m _ below hf ((Spec.applies_iff_loose hf).mp happ).1 ⟨rfl, State.Warmed39.refl s, rfl⟩ trivial
  refine ⟨n, _, h1, h2, h3, hpost _ _ _ _ _ _ ⟨Cond.after_iff.mpr rfl, Cond.after_iff.mpr (eq_i res_at (Term.int_eval (1)) rfl), trivial⟩ ⟨hq.1, hq.2.1, (hq.2.2.sift fun y hy => Or.inr (N y hy)).mono (by decide) (by decide)⟩⟩
theorem main_1_1 : Claimed_1_1 := comes_1 fun _ _ _ _ _ _ h hF => ⟨h.1, hF⟩
theorem main_1_2 : Claimed_1_2 := comes_1 fun _ _ _ _ _ _ h hF => ⟨h.2.1, hF⟩
end Jvm.Pilot.@@N@@
namespace Jvm.Pilot.@@N@@
open Jvm Jvm.ClassFile Sem Op Lib Jvm.Free Jvm.Stand Jvm.Pilot.@@N@@.Jvm.D
/-! MADE BY PROGRAM (witnessworld.py) out of the Statement's table words and the real class files: 19 classes; the members and pool entries that the words name. The judged class is class 1, her method 1. -/
namespace start1
open Jvm.ClassFile
def u (s : String) : CpInfo := .utf8 (stringToUtf16 s)
/-- a pool by its gaps: so many unusable entries, then the entry; so many at the end -/
def gap : Nat → List CpInfo → List CpInfo
  | 0, r => r
  | n + 1, r => .unusable :: gap n r
def poolList (es : List (Nat × CpInfo)) (last : Nat) : List CpInfo := es.foldr (fun e r => gap e.1 (e.2 :: r)) (gap last [])
def pool (es : List (Nat × CpInfo)) (last : Nat) : Array CpInfo := ⟨poolList es last⟩
def fileOf (pool : Array CpInfo) (this : Nat) (attrs : Array Attribute := #[]) (ms : Array MethodInfo := #[]) (fl : Nat := 33) (sup : Nat := 0) (ifs : Array Nat := #[]) (fds : Array FieldInfo := #[]) : ClassFile where
  minorVersion := 0
  majorVersion := 65
  constantPool := pool
  accessFlags := fl
  thisClass := this
  superClass := sup
  interfaces := ifs
  fields := fds
  methods := ms
  attributes := attrs
def plain (name : String) (sup : Option ClassId) : Class where
  name := name
  kind := .ordinary
  loader := none
  accessFlags := 33
  super := sup
  interfaces := #[]
  cf := none
  fields := #[]
  methods := #[]
  instanceTypes := #[]
  staticTypes := #[]
  resolved := #[]
  callSites := []
  init := .initialized
  statics := none
  mirror := none

def pool0 : Array CpInfo := pool [(5, u "<init>"), (0, u "()V"), (1, .class_ 10), (1, u "java/lang/Object"), (85, u "clone"), (0, u "()Ljava/lang/Object;")] 26

def k0c0 : Code := { maxStack := 0, maxLocals := 1, code := object_method_1_code, exceptionTable := #[], attributes := #[] }
def k0m0 : Method := { name := "<init>", desc := "()V", sig := { parameters := [], returnType := none }, accessFlags := 1, code := some k0c0 }
def k0m1 : Method := { name := "clone", desc := "()Ljava/lang/Object;", sig := { parameters := [], returnType := some (.object "java/lang/Object") }, accessFlags := 260, code := none }
/-- java/lang/Object -/
def k0 : Class := { plain "java/lang/Object" none with
  accessFlags := 33
  interfaces := #[]
  cf := some (fileOf pool0 8 #[] #[{ accessFlags := 1, nameIndex := 5, descriptorIndex := 6, attributes := #[] }, { accessFlags := 260, nameIndex := 96, descriptorIndex := 97, attributes := #[] }] 33 0 #[] #[])
  fields := #[]
  methods := #[k0m0, k0m1]
  instanceTypes := #[]
  staticTypes := #[]
  resolved := Array.replicate 124 none
  statics := none }

def pool1 : Array CpInfo := pool [(2, .class_ 4), (1, u "java/lang/Object"), (0, u "<init>"), (0, u "()V"), (0, .integer 2147483647), (0, .methodref 9 10), (0, .class_ 11), (0, .nameAndType 12 13), (0, u "java/lang/Math"), (0, u "max"), (0, u "(JJ)J"), (0, .fieldref 15 16), (0, .class_ 17), (0, .nameAndType 18 19), (0, u "com/example/drongo/drongo/event/RotaryEvent$Knob"), (0, u "NAVIGATION"), (0, u "Lcom/example/drongo/drongo/event/RotaryEvent$Knob;"), (0, .fieldref 15 21), (0, .nameAndType 22 19), (0, u "VOLUME"), (0, .fieldref 24 25), (0, .class_ 26), (0, .nameAndType 27 28), (0, u "com/example/drongo/drongo/event/Display"), (0, u "MAIN"), (0, u "Lcom/example/drongo/drongo/event/Display;"), (0, .fieldref 24 30), (0, .nameAndType 31 28), (0, u "CLUSTER"), (0, .class_ 33), (0, u "com/example/drongo/drongo/event/RotaryEvent"), (0, .methodref 32 35), (0, .nameAndType 5 36), (0, u "(Lcom/example/drongo/drongo/event/RotaryEvent$Knob;ZLcom/example/drongo/drongo/event/Display;[J)V"), (0, .long 18446744073709551615), (1, .methodref 32 40), (0, .nameAndType 41 42), (0, u "latestMillis"), (0, u "()J"), (0, .class_ 44), (0, u "com/example/drongo/drongo/event/RotaryEventLatestMillisPinLaw"), (2, u "law"), (0, u "(JJJII)Z")] 7

def k1m0 : Method := { name := "<init>", desc := "()V", sig := { parameters := [], returnType := none }, accessFlags := 1, code := none }
def k1c1 : Code := { maxStack := 6, maxLocals := 26, code := code, exceptionTable := #[], attributes := #[] }
def k1m1 : Method := { name := "law", desc := "(JJJII)Z", sig := { parameters := [.long, .long, .long, .int, .int], returnType := some .boolean }, accessFlags := 9, code := some k1c1 }
/-- com/example/drongo/drongo/event/RotaryEventLatestMillisPinLaw -/
def k1 : Class := { plain "com/example/drongo/drongo/event/RotaryEventLatestMillisPinLaw" (some 0) with
  accessFlags := 49
  interfaces := #[]
  cf := some (fileOf pool1 43 #[] #[{ accessFlags := 1, nameIndex := 5, descriptorIndex := 6, attributes := #[] }, { accessFlags := 9, nameIndex := 47, descriptorIndex := 48, attributes := #[] }] 49 2 #[] #[])
  fields := #[]
  methods := #[k1m0, k1m1]
  instanceTypes := #[]
  staticTypes := #[]
  resolved := Array.replicate 56 none
  statics := none }

def pool2 : Array CpInfo := pool [(1, .class_ 2), (0, u "java/lang/Math"), (1, .class_ 6), (1, u "java/lang/Object"), (0, u "<init>"), (0, u "()V"), (89, .class_ 100), (1, u "java/lang/Math$RandomNumberGeneratorHolder"), (20, u "(JJ)J"), (50, u "negativeZeroFloatBits"), (0, u "J"), (2, u "negativeZeroDoubleBits"), (21, u "max"), (46, u "$assertionsDisabled"), (0, u "Z"), (91, u "twoToTheDoubleScaleDown"), (0, u "D"), (4, u "twoToTheDoubleScaleUp"), (9, u "E"), (3, u "PI"), (2, u "TAU"), (2, u "DEGREES_TO_RADIANS"), (0, u "RADIANS_TO_DEGREES")] 94

def k2m0 : Method := { name := "<init>", desc := "()V", sig := { parameters := [], returnType := none }, accessFlags := 2, code := none }
def k2c1 : Code := { maxStack := 4, maxLocals := 4, code := jdk_29_method_66_code, exceptionTable := #[], attributes := #[] }
def k2m1 : Method := { name := "max", desc := "(JJ)J", sig := { parameters := [.long, .long], returnType := some .long }, accessFlags := 9, code := some k2c1 }
/-- java/lang/Math -/
def k2 : Class := { plain "java/lang/Math" (some 0) with
  accessFlags := 49
  interfaces := #[]
  cf := some (fileOf pool2 1 #[.nestMembers #[98]] #[{ accessFlags := 2, nameIndex := 7, descriptorIndex := 8, attributes := #[] }, { accessFlags := 9, nameIndex := 198, descriptorIndex := 121, attributes := #[] }] 49 4 #[] #[{ accessFlags := 25, nameIndex := 354, descriptorIndex := 339, attributes := #[] }, { accessFlags := 25, nameIndex := 358, descriptorIndex := 339, attributes := #[] }, { accessFlags := 25, nameIndex := 361, descriptorIndex := 339, attributes := #[] }, { accessFlags := 26, nameIndex := 364, descriptorIndex := 339, attributes := #[] }, { accessFlags := 26, nameIndex := 365, descriptorIndex := 339, attributes := #[] }, { accessFlags := 26, nameIndex := 172, descriptorIndex := 173, attributes := #[] }, { accessFlags := 26, nameIndex := 176, descriptorIndex := 173, attributes := #[] }, { accessFlags := 8, nameIndex := 344, descriptorIndex := 339, attributes := #[] }, { accessFlags := 8, nameIndex := 338, descriptorIndex := 339, attributes := #[] }, { accessFlags := 4120, nameIndex := 245, descriptorIndex := 246, attributes := #[] }])
  fields := #[{ name := "E", type := .double, accessFlags := 25, slot := 0, constantValue := 0 }, { name := "PI", type := .double, accessFlags := 25, slot := 1, constantValue := 0 }, { name := "TAU", type := .double, accessFlags := 25, slot := 2, constantValue := 0 }, { name := "DEGREES_TO_RADIANS", type := .double, accessFlags := 26, slot := 3, constantValue := 0 }, { name := "RADIANS_TO_DEGREES", type := .double, accessFlags := 26, slot := 4, constantValue := 0 }, { name := "negativeZeroFloatBits", type := .long, accessFlags := 26, slot := 5, constantValue := 0 }, { name := "negativeZeroDoubleBits", type := .long, accessFlags := 26, slot := 6, constantValue := 0 }, { name := "twoToTheDoubleScaleUp", type := .double, accessFlags := 8, slot := 7, constantValue := 0 }, { name := "twoToTheDoubleScaleDown", type := .double, accessFlags := 8, slot := 8, constantValue := 0 }, { name := "$assertionsDisabled", type := .boolean, accessFlags := 4120, slot := 9, constantValue := 0 }]
  methods := #[k2m0, k2m1]
  instanceTypes := #[]
  staticTypes := #[.double, .double, .double, .double, .double, .long, .long, .double, .double, .boolean]
  resolved := Array.replicate 460 none
  statics := none }

def pool3 : Array CpInfo := pool [(1, .class_ 2), (0, u "java/lang/constant/Constable"), (0, .class_ 4), (0, u "java/lang/Object")] 6

/-- java/lang/constant/Constable -/
def k3 : Class := { plain "java/lang/constant/Constable" (some 0) with
  accessFlags := 1537
  interfaces := #[]
  cf := some (fileOf pool3 1 #[] #[] 1537 3 #[] #[])
  fields := #[]
  methods := #[]
  instanceTypes := #[]
  staticTypes := #[]
  resolved := Array.replicate 11 none
  statics := none }

def pool4 : Array CpInfo := pool [(1, .class_ 2), (0, u "java/lang/Comparable"), (0, .class_ 4), (0, u "java/lang/Object")] 7

/-- java/lang/Comparable -/
def k4 : Class := { plain "java/lang/Comparable" (some 0) with
  accessFlags := 1537
  interfaces := #[]
  cf := some (fileOf pool4 1 #[] #[] 1537 3 #[] #[])
  fields := #[]
  methods := #[]
  instanceTypes := #[]
  staticTypes := #[]
  resolved := Array.replicate 12 none
  statics := none }

def pool5 : Array CpInfo := pool [(1, .class_ 2), (0, u "java/io/Serializable"), (0, .class_ 4), (0, u "java/lang/Object")] 2

/-- java/io/Serializable -/
def k5 : Class := { plain "java/io/Serializable" (some 0) with
  accessFlags := 1537
  interfaces := #[]
  cf := some (fileOf pool5 1 #[] #[] 1537 3 #[] #[])
  fields := #[]
  methods := #[]
  instanceTypes := #[]
  staticTypes := #[]
  resolved := Array.replicate 7 none
  statics := none }

def pool6 : Array CpInfo := pool [(2, .class_ 4), (1, u "java/lang/Enum"), (0, u "name"), (0, u "Ljava/lang/String;"), (2, u "ordinal"), (0, u "I"), (1, .class_ 14), (1, u "java/lang/Object"), (4, u "hash"), (86, .class_ 108), (1, u "java/lang/Enum$EnumDesc"), (2, .class_ 112), (0, u "java/lang/constant/Constable"), (0, .class_ 114), (0, u "java/lang/Comparable"), (0, .class_ 116), (0, u "java/io/Serializable")] 87

/-- java/lang/Enum -/
def k6 : Class := { plain "java/lang/Enum" (some 0) with
  accessFlags := 1057
  interfaces := #[3, 4, 5]
  cf := some (fileOf pool6 2 #[.nestMembers #[106]] #[] 1057 12 #[111, 113, 115] #[{ accessFlags := 18, nameIndex := 5, descriptorIndex := 6, attributes := #[] }, { accessFlags := 18, nameIndex := 9, descriptorIndex := 10, attributes := #[] }, { accessFlags := 2, nameIndex := 19, descriptorIndex := 10, attributes := #[] }])
  fields := #[{ name := "name", type := (.object "java/lang/String"), accessFlags := 18, slot := 0, constantValue := 0 }, { name := "ordinal", type := .int, accessFlags := 18, slot := 1, constantValue := 0 }, { name := "hash", type := .int, accessFlags := 2, slot := 2, constantValue := 0 }]
  methods := #[]
  instanceTypes := #[(.object "java/lang/String"), .int, .int]
  staticTypes := #[]
  resolved := Array.replicate 204 none
  statics := none }

def pool7 : Array CpInfo := pool [(9, .class_ 10), (0, u "com/example/drongo/drongo/event/Labelled"), (37, .class_ 49), (0, u "java/lang/Object")] 12

/-- com/example/drongo/drongo/event/Labelled -/
def k7 : Class := { plain "com/example/drongo/drongo/event/Labelled" (some 0) with
  accessFlags := 1537
  interfaces := #[]
  cf := some (fileOf pool7 9 #[] #[] 1537 48 #[] #[])
  fields := #[]
  methods := #[]
  instanceTypes := #[]
  staticTypes := #[]
  resolved := Array.replicate 62 none
  statics := none }

def pool8 : Array CpInfo := pool [(1, .class_ 2), (0, u "com/example/drongo/drongo/event/RotaryEvent$Knob"), (2, u "NAVIGATION"), (0, u "Lcom/example/drongo/drongo/event/RotaryEvent$Knob;"), (2, u "VOLUME"), (2, u "$VALUES"), (0, u "[Lcom/example/drongo/drongo/event/RotaryEvent$Knob;"), (6, .class_ 22), (1, u "java/lang/Enum"), (8, u "label"), (0, u "Ljava/lang/String;"), (2, u "vehicleNumber"), (0, u "I"), (2, u "inputType"), (0, u "Lcom/example/drongo/drongo/event/InputType;"), (2, u "clockwiseKey"), (0, u "Lcom/example/drongo/drongo/event/KeyCode;"), (2, u "counterclockwiseKey"), (52, .class_ 101), (0, u "com/example/drongo/drongo/event/Labelled"), (0, u "VEHICLE_NUMBERS"), (23, .class_ 127), (0, u "com/example/drongo/drongo/event/RotaryEvent")] 2

/-- com/example/drongo/drongo/event/RotaryEvent$Knob -/
def k8 : Class := { plain "com/example/drongo/drongo/event/RotaryEvent$Knob" (some 6) with
  accessFlags := 16433
  interfaces := #[7]
  cf := some (fileOf pool8 1 #[.nestHost 126] #[] 16433 20 #[100] #[{ accessFlags := 16409, nameIndex := 5, descriptorIndex := 6, attributes := #[] }, { accessFlags := 16409, nameIndex := 9, descriptorIndex := 6, attributes := #[] }, { accessFlags := 25, nameIndex := 102, descriptorIndex := 32, attributes := #[] }, { accessFlags := 18, nameIndex := 31, descriptorIndex := 32, attributes := #[] }, { accessFlags := 18, nameIndex := 35, descriptorIndex := 36, attributes := #[] }, { accessFlags := 18, nameIndex := 39, descriptorIndex := 40, attributes := #[] }, { accessFlags := 18, nameIndex := 43, descriptorIndex := 44, attributes := #[] }, { accessFlags := 18, nameIndex := 47, descriptorIndex := 44, attributes := #[] }, { accessFlags := 4122, nameIndex := 12, descriptorIndex := 13, attributes := #[] }])
  fields := #[{ name := "NAVIGATION", type := (.object "com/example/drongo/drongo/event/RotaryEvent$Knob"), accessFlags := 16409, slot := 0, constantValue := 0 }, { name := "VOLUME", type := (.object "com/example/drongo/drongo/event/RotaryEvent$Knob"), accessFlags := 16409, slot := 1, constantValue := 0 }, { name := "VEHICLE_NUMBERS", type := (.object "java/lang/String"), accessFlags := 25, slot := 2, constantValue := 0 }, { name := "label", type := (.object "java/lang/String"), accessFlags := 18, slot := 3, constantValue := 0 }, { name := "vehicleNumber", type := .int, accessFlags := 18, slot := 4, constantValue := 0 }, { name := "inputType", type := (.object "com/example/drongo/drongo/event/InputType"), accessFlags := 18, slot := 5, constantValue := 0 }, { name := "clockwiseKey", type := (.object "com/example/drongo/drongo/event/KeyCode"), accessFlags := 18, slot := 6, constantValue := 0 }, { name := "counterclockwiseKey", type := (.object "com/example/drongo/drongo/event/KeyCode"), accessFlags := 18, slot := 7, constantValue := 0 }, { name := "$VALUES", type := (.array (.object "com/example/drongo/drongo/event/RotaryEvent$Knob")), accessFlags := 4122, slot := 3, constantValue := 0 }]
  methods := #[]
  instanceTypes := #[(.object "java/lang/String"), .int, .int, (.object "java/lang/String"), .int, (.object "com/example/drongo/drongo/event/InputType"), (.object "com/example/drongo/drongo/event/KeyCode"), (.object "com/example/drongo/drongo/event/KeyCode")]
  staticTypes := #[(.object "com/example/drongo/drongo/event/RotaryEvent$Knob"), (.object "com/example/drongo/drongo/event/RotaryEvent$Knob"), (.object "java/lang/String"), (.array (.object "com/example/drongo/drongo/event/RotaryEvent$Knob"))]
  resolved := Array.replicate 130 none
  statics := some 0 }

def pool9 : Array CpInfo := pool [(1, .class_ 2), (0, u "com/example/drongo/drongo/event/Display"), (2, u "MAIN"), (0, u "Lcom/example/drongo/drongo/event/Display;"), (2, u "CLUSTER"), (2, u "$VALUES"), (0, u "[Lcom/example/drongo/drongo/event/Display;"), (6, .class_ 22), (1, u "java/lang/Enum"), (8, u "label"), (0, u "Ljava/lang/String;"), (2, u "vehicleNumber"), (0, u "I"), (26, .class_ 64), (0, u "com/example/drongo/drongo/event/Labelled"), (0, u "VEHICLE_NUMBERS")] 19

/-- com/example/drongo/drongo/event/Display -/
def k9 : Class := { plain "com/example/drongo/drongo/event/Display" (some 6) with
  accessFlags := 16433
  interfaces := #[7]
  cf := some (fileOf pool9 1 #[] #[] 16433 20 #[63] #[{ accessFlags := 16409, nameIndex := 5, descriptorIndex := 6, attributes := #[] }, { accessFlags := 16409, nameIndex := 9, descriptorIndex := 6, attributes := #[] }, { accessFlags := 25, nameIndex := 65, descriptorIndex := 32, attributes := #[] }, { accessFlags := 18, nameIndex := 31, descriptorIndex := 32, attributes := #[] }, { accessFlags := 18, nameIndex := 35, descriptorIndex := 36, attributes := #[] }, { accessFlags := 4122, nameIndex := 12, descriptorIndex := 13, attributes := #[] }])
  fields := #[{ name := "MAIN", type := (.object "com/example/drongo/drongo/event/Display"), accessFlags := 16409, slot := 0, constantValue := 0 }, { name := "CLUSTER", type := (.object "com/example/drongo/drongo/event/Display"), accessFlags := 16409, slot := 1, constantValue := 0 }, { name := "VEHICLE_NUMBERS", type := (.object "java/lang/String"), accessFlags := 25, slot := 2, constantValue := 0 }, { name := "label", type := (.object "java/lang/String"), accessFlags := 18, slot := 3, constantValue := 0 }, { name := "vehicleNumber", type := .int, accessFlags := 18, slot := 4, constantValue := 0 }, { name := "$VALUES", type := (.array (.object "com/example/drongo/drongo/event/Display")), accessFlags := 4122, slot := 3, constantValue := 0 }]
  methods := #[]
  instanceTypes := #[(.object "java/lang/String"), .int, .int, (.object "java/lang/String"), .int]
  staticTypes := #[(.object "com/example/drongo/drongo/event/Display"), (.object "com/example/drongo/drongo/event/Display"), (.object "java/lang/String"), (.array (.object "com/example/drongo/drongo/event/Display"))]
  resolved := Array.replicate 85 none
  statics := some 1 }

def pool10 : Array CpInfo := pool [(1, .class_ 2), (0, u "com/example/drongo/drongo/event/InputEvent"), (0, .class_ 4), (0, u "java/lang/Object"), (15, .class_ 21), (0, u "com/example/drongo/drongo/event/InputEvent$Kinds")] 2

/-- com/example/drongo/drongo/event/InputEvent -/
def k10 : Class := { plain "com/example/drongo/drongo/event/InputEvent" (some 0) with
  accessFlags := 1537
  interfaces := #[]
  cf := some (fileOf pool10 1 #[.nestMembers #[20]] #[] 1537 3 #[] #[])
  fields := #[]
  methods := #[]
  instanceTypes := #[]
  staticTypes := #[]
  resolved := Array.replicate 24 none
  statics := none }

def pool11 : Array CpInfo := pool [(1, .methodref 2 3), (0, .class_ 4), (0, .nameAndType 5 6), (0, u "java/lang/Object"), (0, u "<init>"), (0, u "()V"), (0, .fieldref 8 9), (0, .class_ 10), (0, .nameAndType 11 12), (0, u "com/example/drongo/drongo/event/RotaryEvent"), (0, u "knob"), (0, u "Lcom/example/drongo/drongo/event/RotaryEvent$Knob;"), (0, .fieldref 8 14), (0, .nameAndType 15 16), (0, u "clockwise"), (0, u "Z"), (0, .fieldref 8 18), (0, .nameAndType 19 20), (0, u "display"), (0, u "Lcom/example/drongo/drongo/event/Display;"), (0, .methodref 22 23), (0, .class_ 24), (0, .nameAndType 25 26), (0, u "[J"), (0, u "clone"), (0, u "()Ljava/lang/Object;"), (0, .fieldref 8 28), (0, .nameAndType 29 24), (0, u "timesMillis"), (3, .class_ 35), (1, u "com/example/drongo/drongo/event/RotaryEvent$Knob"), (7, u "(Lcom/example/drongo/drongo/event/RotaryEvent$Knob;ZLcom/example/drongo/drongo/event/Display;[J)V"), (49, .class_ 94), (0, u "com/example/drongo/drongo/event/InputEvent"), (13, u "latestMillis"), (0, u "()J")] 27

def k11c0 : Code := { maxStack := 2, maxLocals := 5, code := prog_17_method_1_code, exceptionTable := #[], attributes := #[] }
def k11m0 : Method := { name := "<init>", desc := "(Lcom/example/drongo/drongo/event/RotaryEvent$Knob;ZLcom/example/drongo/drongo/event/Display;[J)V", sig := { parameters := [(.object "com/example/drongo/drongo/event/RotaryEvent$Knob"), .boolean, (.object "com/example/drongo/drongo/event/Display"), (.array .long)], returnType := none }, accessFlags := 1, code := some k11c0 }
def k11c1 : Code := { maxStack := 3, maxLocals := 1, code := prog_17_method_9_code, exceptionTable := #[], attributes := #[] }
def k11m1 : Method := { name := "latestMillis", desc := "()J", sig := { parameters := [], returnType := some .long }, accessFlags := 1, code := some k11c1 }
/-- com/example/drongo/drongo/event/RotaryEvent -/
def k11 : Class := { plain "com/example/drongo/drongo/event/RotaryEvent" (some 0) with
  accessFlags := 49
  interfaces := #[10]
  cf := some (fileOf pool11 8 #[.nestMembers #[33]] #[{ accessFlags := 1, nameIndex := 5, descriptorIndex := 43, attributes := #[] }, { accessFlags := 1, nameIndex := 108, descriptorIndex := 109, attributes := #[] }] 49 2 #[93] #[{ accessFlags := 18, nameIndex := 11, descriptorIndex := 12, attributes := #[] }, { accessFlags := 18, nameIndex := 15, descriptorIndex := 16, attributes := #[] }, { accessFlags := 18, nameIndex := 19, descriptorIndex := 20, attributes := #[] }, { accessFlags := 18, nameIndex := 29, descriptorIndex := 24, attributes := #[] }])
  fields := #[{ name := "knob", type := (.object "com/example/drongo/drongo/event/RotaryEvent$Knob"), accessFlags := 18, slot := 0, constantValue := 0 }, { name := "clockwise", type := .boolean, accessFlags := 18, slot := 1, constantValue := 0 }, { name := "display", type := (.object "com/example/drongo/drongo/event/Display"), accessFlags := 18, slot := 2, constantValue := 0 }, { name := "timesMillis", type := (.array .long), accessFlags := 18, slot := 3, constantValue := 0 }]
  methods := #[k11m0, k11m1]
  instanceTypes := #[(.object "com/example/drongo/drongo/event/RotaryEvent$Knob"), .boolean, (.object "com/example/drongo/drongo/event/Display"), (.array .long)]
  staticTypes := #[]
  resolved := Array.replicate 137 none
  statics := none }

def pool12 : Array CpInfo := pool [(1, .class_ 2), (0, u "java/lang/Cloneable"), (0, .class_ 4), (0, u "java/lang/Object")] 2

/-- java/lang/Cloneable -/
def k12 : Class := { plain "java/lang/Cloneable" (some 0) with
  accessFlags := 1537
  interfaces := #[]
  cf := some (fileOf pool12 1 #[] #[] 1537 3 #[] #[])
  fields := #[]
  methods := #[]
  instanceTypes := #[]
  staticTypes := #[]
  resolved := Array.replicate 7 none
  statics := none }

/-- the primitive byte -/
def k13 : Class := { plain "byte" none with kind := .primitive 'B', accessFlags := 0x411 }
/-- [B -/
def k14 : Class := { plain "[B" (some 0) with kind := .array 13 .byte, interfaces := #[12, 5], accessFlags := 1041 }

/-- the primitive int -/
def k15 : Class := { plain "int" none with kind := .primitive 'I', accessFlags := 0x411 }
/-- [I -/
def k16 : Class := { plain "[I" (some 0) with kind := .array 15 .int, interfaces := #[12, 5], accessFlags := 1041 }

/-- the primitive long -/
def k17 : Class := { plain "long" none with kind := .primitive 'J', accessFlags := 0x411 }
/-- [J -/
def k18 : Class := { plain "[J" (some 0) with kind := .array 17 .long, interfaces := #[12, 5], accessFlags := 1041 }

def heap : Heap := #[{ cls := 8, slots := #[.ref 2, .ref 4, .null, .null], vm := .statics 8 },
  { cls := 9, slots := #[.ref 5, .ref 3, .null, .null], vm := .statics 9 },
  { cls := 8, slots := #[.null, .int 0, .int 0, .null, .int 0, .null, .null, .null], vm := .none },
  { cls := 9, slots := #[.null, .int 0, .int 0, .null, .int 0], vm := .none },
  { cls := 8, slots := #[.null, .int 0, .int 0, .null, .int 0, .null, .null, .null], vm := .none },
  { cls := 9, slots := #[.null, .int 0, .int 0, .null, .int 0], vm := .none }]
def classes : Array Class := #[k0, k1, k2, k3, k4, k5, k6, k7, k8, k9, k10, k11, k12, k13, k14, k15, k16, k17, k18]
def interned : List (Array UInt16 × Addr) := []
def slotsUsed : Nat := 34
def theMethod : MethodId := ⟨1, 1⟩
def args0 : Array Value := #[.long 5, .long 7, .long 3, .int 4, .int 0]
def aboutOver (below : List Frame) : State where
  vm := { classes := classes, interned := interned.toArray }
  heap := heap
  slotsUsed := slotsUsed
  threads := #[{ frames := .invoking theMethod args0 :: below }]
def below0 : List Frame := [.native { method := ⟨0, 0⟩, args := #[] }]
def about1 : State := aboutOver below0
def p0 : Program := .bare "" "" ""
def e0 : Env := launch0.env 0 0 0
theorem w_frames : about1.frames = Frame.invoking theMethod args0 :: below0 := rfl
set_option maxRecDepth 65536 in
theorem w_args : argsFit about1.vm theMethod args0 = true := by decide +kernel
set_option maxRecDepth 65536 in
theorem w_heap : heapFits about1 = true := by decide +kernel
set_option maxRecDepth 65536 in
theorem w_runnable : about1.curStatus? = some .runnable := by decide +kernel
set_option maxRecDepth 65536 in
theorem w_alone : about1.alone = true := by decide +kernel
set_option maxRecDepth 65536 in
theorem w_named : about1.methodNamed? x = some theMethod := by decide +kernel
set_option maxRecDepth 65536 in
theorem w_hears : about1.hears theMethod below0 = true := by decide +kernel
set_option maxRecDepth 65536 in
theorem w_ripe : about1.ripe theMethod args0 below0 = true := by decide +kernel
theorem w_running : about1.status = .running := rfl
set_option maxRecDepth 65536 in
theorem w_room : about1.hasRoom e0.platform room_1 = true :=
  launch0.hasRoom_least _ room_1 (by decide +kernel) (by decide +kernel) (by decide +kernel) (by decide +kernel) (by decide +kernel) (by decide +kernel)
theorem allAtoms_all (ts : List Jvm.Cond) (a : Array Jvm.Value) (st : Jvm.State) : (allAtoms ts).before a st = ts.all (fun c => c.before a st) := by
  induction ts with
  | nil => rfl
  | cons c t ih =>
    show (Jvm.Cond.and c (allAtoms t)).before a st = _
    rw [Jvm.Cond.before_and, ih, List.all_cons]
def words1 : List Jvm.Cond := Jvm.Cond.code x code maxLocals ret :: tables_1
/-- a 'code' word, met by the world's own term for the bytes: nothing is compared byte by byte -/
theorem code_word {y : MethodName} {bytes : ByteArray} {mx : Nat} {rt : Option FieldType} {a : Array Value} {s : State} {m : MethodId} {meth : Method} {c : Code} (h1 : s.methodNamed? y = some m) (h2 : s.vm.method? m = some meth) (h3 : meth.code = some c) (h4 : c.code = bytes)
    (h5 : (c.maxLocals == mx && c.exceptionTable.isEmpty && decide (c.maxStack ≤ mostOperands) && decide (meth.sig.returnType = rt) && !meth.locks && decide (parseMethodDescriptor y.desc = some meth.sig)) = true) : (Jvm.Cond.code y bytes mx rt).before a s = true := by
  simp only [Bool.and_eq_true, beq_iff_eq, Bool.not_eq_true', decide_eq_true_eq] at h5
  obtain ⟨⟨⟨⟨⟨g1, g2⟩, g3⟩, g4⟩, g5⟩, g6⟩ := h5
  simp [Cond.before, Cond.holds, Cond.value, h1, h2, h3, h4, g1, g2, g3, g4, g5, g6]
def isCode : Jvm.Cond → Bool
  | .code _ _ _ _ => true
  | _ => false
theorem all_split {L : List Jvm.Cond} {P : Jvm.Cond → Bool} (h1 : L.all (fun c => isCode c || P c) = true) (h2 : ∀ c ∈ L.filter isCode, P c = true) : L.all P = true := by
  refine List.all_eq_true.mpr fun c hc => ?_
  have h := List.all_eq_true.mp h1 c hc
  rcases Bool.eq_false_or_eq_true (isCode c) with hi | hi
  · exact h2 c (List.mem_filter.mpr ⟨hc, hi⟩)
  · simpa [hi] using h
set_option maxRecDepth 65536 in
theorem w_c0 : (Jvm.Cond.code x code maxLocals ret).before args0 about1 = true := code_word (m := ⟨1, 1⟩) (meth := k1m1) (c := k1c1) (by decide +kernel) rfl rfl rfl (by decide +kernel)
set_option maxRecDepth 65536 in
theorem w_c1 : (Jvm.Cond.code ({ cls := "java/lang/Math", name := "max", desc := "(JJ)J" } : Jvm.MethodName) jdk_29_method_66_code (4 : Nat) (Option.some Jvm.ClassFile.FieldType.long)).before args0 about1 = true := code_word (m := ⟨2, 1⟩) (meth := k2m1) (c := k2c1) (by decide +kernel) rfl rfl rfl (by decide +kernel)
set_option maxRecDepth 65536 in
theorem w_c2 : (Jvm.Cond.code ({ cls := "com/example/drongo/drongo/event/RotaryEvent", name := "<init>", desc := "(Lcom/example/drongo/drongo/event/RotaryEvent$Knob;ZLcom/example/drongo/drongo/event/Display;[J)V" } : Jvm.MethodName) prog_17_method_1_code (5 : Nat) (Option.none : Option Jvm.ClassFile.FieldType)).before args0 about1 = true := code_word (m := ⟨11, 0⟩) (meth := k11m0) (c := k11c0) (by decide +kernel) rfl rfl rfl (by decide +kernel)
set_option maxRecDepth 65536 in
theorem w_c3 : (Jvm.Cond.code ({ cls := "java/lang/Object", name := "<init>", desc := "()V" } : Jvm.MethodName) object_method_1_code (1 : Nat) (Option.none : Option Jvm.ClassFile.FieldType)).before args0 about1 = true := code_word (m := ⟨0, 0⟩) (meth := k0m0) (c := k0c0) (by decide +kernel) rfl rfl rfl (by decide +kernel)
set_option maxRecDepth 65536 in
theorem w_c4 : (Jvm.Cond.code ({ cls := "com/example/drongo/drongo/event/RotaryEvent", name := "latestMillis", desc := "()J" } : Jvm.MethodName) prog_17_method_9_code (1 : Nat) (Option.some Jvm.ClassFile.FieldType.long)).before args0 about1 = true := code_word (m := ⟨11, 1⟩) (meth := k11m1) (c := k11c1) (by decide +kernel) rfl rfl rfl (by decide +kernel)
def codes1 : List Jvm.Cond := [Jvm.Cond.code x code maxLocals ret, Jvm.Cond.code ({ cls := "java/lang/Math", name := "max", desc := "(JJ)J" } : Jvm.MethodName) jdk_29_method_66_code (4 : Nat) (Option.some Jvm.ClassFile.FieldType.long), Jvm.Cond.code ({ cls := "com/example/drongo/drongo/event/RotaryEvent", name := "<init>", desc := "(Lcom/example/drongo/drongo/event/RotaryEvent$Knob;ZLcom/example/drongo/drongo/event/Display;[J)V" } : Jvm.MethodName) prog_17_method_1_code (5 : Nat) (Option.none : Option Jvm.ClassFile.FieldType), Jvm.Cond.code ({ cls := "java/lang/Object", name := "<init>", desc := "()V" } : Jvm.MethodName) object_method_1_code (1 : Nat) (Option.none : Option Jvm.ClassFile.FieldType), Jvm.Cond.code ({ cls := "com/example/drongo/drongo/event/RotaryEvent", name := "latestMillis", desc := "()J" } : Jvm.MethodName) prog_17_method_9_code (1 : Nat) (Option.some Jvm.ClassFile.FieldType.long)]
set_option maxRecDepth 65536 in
theorem codes_eq : words1.filter isCode = codes1 := rfl
theorem w_codes : ∀ c ∈ words1.filter isCode, c.before args0 about1 = true := by
  rw [codes_eq]
  intro c hc
  simp only [codes1, List.mem_cons, List.not_mem_nil, or_false] at hc
  rcases hc with rfl | rfl | rfl | rfl | rfl
  · exact w_c0
  · exact w_c1
  · exact w_c2
  · exact w_c3
  · exact w_c4
set_option maxRecDepth 65536 in
theorem w_t1 : (words1.take 24).all (fun c => isCode c || c.before args0 about1) = true := by decide +kernel
set_option maxRecDepth 65536 in
theorem w_t2 : ((words1.drop 24).take 24).all (fun c => isCode c || c.before args0 about1) = true := by decide +kernel
set_option maxRecDepth 65536 in
theorem w_t3 : ((words1.drop 24).drop 24).all (fun c => isCode c || c.before args0 about1) = true := by decide +kernel
theorem w_tables : (allAtoms (Jvm.Cond.code x code maxLocals ret :: tables_1)).before args0 about1 = true := by
  rw [allAtoms_all]
  show words1.all (fun c => c.before args0 about1) = true
  refine all_split ?_ w_codes
  rw [← List.take_append_drop 24 words1, List.all_append, w_t1, ← List.take_append_drop 24 (words1.drop 24), List.all_append, w_t2, w_t3]
  rfl
set_option maxRecDepth 65536 in
theorem w_case : (Jvm.Cond.and given_1 narrow_1).before args0 about1 = true := by decide +kernel
theorem w_applies : (headSpec (Jvm.Cond.code x code maxLocals ret :: tables_1) room_1).applies x e0.platform about1 = true :=
  (Spec.applies_iff w_frames).mpr ⟨w_running, w_runnable, w_alone, w_named, w_hears, w_ripe, w_room, w_tables⟩
theorem atStart : AtStart classFile x code maxLocals ret World_1 tables_1 room_1 Calls_1 rest_1 Pre_1 launch0 p0 e0 about1 theMethod args0 below0 :=
  ⟨lists_1, trivial, launch0.admits_env _ _ _, launch0.least_env, fairChoices_fair.cas, fairChoices_fair.clock, w_frames, w_args, w_heap, w_applies, trivial, trivial, w_case⟩
end start1
theorem witness_1 : WitnessClaimed_1 := ⟨start1.p0, start1.e0, start1.about1, start1.theMethod, start1.args0, start1.below0, start1.atStart⟩
end Jvm.Pilot.@@N@@
