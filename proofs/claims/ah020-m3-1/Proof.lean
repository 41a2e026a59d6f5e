import JvmDerived
import JvmDerived.Pilot.@@N@@Statement
import JvmDerived.Pilot.@@N@@Code
set_option linter.unusedVariables false
set_option linter.unusedSimpArgs false
namespace Jvm.OwnW
open Sem ClassFile Op Lib Jvm.Stand Jvm.Free Jvm.LawKit Jvm.RoadKit
/-- from the state S the walk over 'below' comes to an end of which P holds -/
def Goes (tb : Tables) (e : Env) (below : List Frame) (S : State) (P : State → Outcome → Prop) : Prop :=
  ∃ s₂ o, Steps tb e below S s₂ ∧ s₂.status = .running ∧ Ended s₂ below o ∧ P s₂ o
section Walk
variable {p : Program} {l : Launch} {e : Env} {R : Room} {s : State} {m : MethodId} {args : Array Value} {below : List Frame} {meth : Method} {c : Code} {T : State} {locs : List Loc} {cells slots : Nat} {P : State → Outcome → Prop} {pc : Nat} {Ls : Array Slot} {st : List Value} {Z : State} {a0 : Array Value} {h : Heap}
theorem Goes.of {tb : Tables} {S S' : State} (k : Goes tb e below S' P) (h : ∀ t, Steps tb e below S' t → Steps tb e below S t) : Goes tb e below S P := by
  obtain ⟨s₂, o, h1, h2⟩ := k
  exact ⟨s₂, o, h _ h1, h2⟩
theorem Goes.tr {tb : Tables} {S S' : State} (k : Goes tb e below S' P) (h : Steps tb e below S S') : Goes tb e below S P := by
  obtain ⟨s₂, o, h1, h2⟩ := k
  exact ⟨s₂, o, h.trans h1, h2⟩
theorem Goes.join {tb : Tables} {S S' : State} (h1 : Goes tb e below S' P → Goes tb e below S P) (h2 : Goes tb e below S' P) : Goes tb e below S P := h1 h2
theorem Goes.cast {tb : Tables} {g g' : JFrame} (q : g = g') (k : Goes tb e below (T.setTop g') P) : Goes tb e below (T.setTop g) P := q ▸ k
theorem g_nameI {x v : Int32} (q : v = x) (k : Goes p.tables e below (T.setTop (mkF m pc Ls (.int v :: st))) P) : Goes p.tables e below (T.setTop (mkF m pc Ls (.int x :: st))) P := q ▸ k
theorem g_nameL {x v : Int64} (q : v = x) (k : Goes p.tables e below (T.setTop (mkF m pc Ls (.long v :: st))) P) : Goes p.tables e below (T.setTop (mkF m pc Ls (.long x :: st))) P := q ▸ k
theorem g_iloadN (X : Stand p l e R s m args below meth c T locs cells slots) (hx : p.tables.exec = Jvm.exec) {k : Fin 4} {v : Int32} (hd : decode c.code pc = .ok (.iload_n k, 1)) (hl : Ls[k.val]? = some (.val (.int v))) (hr : Goes p.tables e below (T.setTop (mkF m (pc + 1) Ls (.int v :: st))) P) : Goes p.tables e below (T.setTop (mkF m pc Ls st)) P := hr.of fun _ k => XS.iloadN X.here hx rfl hd hl k
theorem g_iload (X : Stand p l e R s m args below meth c T locs cells slots) (hx : p.tables.exec = Jvm.exec) {k : Nat} {v : Int32} (hd : decode c.code pc = .ok (.iload k, 2)) (hl : Ls[k]? = some (.val (.int v))) (hr : Goes p.tables e below (T.setTop (mkF m (pc + 2) Ls (.int v :: st))) P) : Goes p.tables e below (T.setTop (mkF m pc Ls st)) P := hr.of fun _ k => XS.iload X.here hx rfl hd hl k
theorem g_lloadN (X : Stand p l e R s m args below meth c T locs cells slots) (hx : p.tables.exec = Jvm.exec) {k : Fin 4} {v : Int64} (hd : decode c.code pc = .ok (.lload_n k, 1)) (hl : Ls[k.val]? = some (.val (.long v))) (hr : Goes p.tables e below (T.setTop (mkF m (pc + 1) Ls (.long v :: st))) P) : Goes p.tables e below (T.setTop (mkF m pc Ls st)) P := hr.of fun _ k => XT.lloadN X.here hx rfl hd hl k
theorem g_lload (X : Stand p l e R s m args below meth c T locs cells slots) (hx : p.tables.exec = Jvm.exec) {k : Nat} {v : Int64} (hd : decode c.code pc = .ok (.lload k, 2)) (hl : Ls[k]? = some (.val (.long v))) (hr : Goes p.tables e below (T.setTop (mkF m (pc + 2) Ls (.long v :: st))) P) : Goes p.tables e below (T.setTop (mkF m pc Ls st)) P := hr.of fun _ k => XT.lload X.here hx rfl hd hl k
theorem g_aloadN (X : Stand p l e R s m args below meth c T locs cells slots) (hx : p.tables.exec = Jvm.exec) {k : Fin 4} {v : Value} (hd : decode c.code pc = .ok (.aload_n k, 1)) (hl : Ls[k.val]? = some (.val v)) (hv : v.isRef = true) (hr : Goes p.tables e below (T.setTop (mkF m (pc + 1) Ls (v :: st))) P) : Goes p.tables e below (T.setTop (mkF m pc Ls st)) P := hr.of fun _ k => XS.aloadN X.here hx rfl hd hl hv k
theorem g_aload (X : Stand p l e R s m args below meth c T locs cells slots) (hx : p.tables.exec = Jvm.exec) {k : Nat} {v : Value} (hd : decode c.code pc = .ok (.aload k, 2)) (hl : Ls[k]? = some (.val v)) (hv : v.isRef = true) (hr : Goes p.tables e below (T.setTop (mkF m (pc + 2) Ls (v :: st))) P) : Goes p.tables e below (T.setTop (mkF m pc Ls st)) P := hr.of fun _ k => XS.aload X.here hx rfl hd hl hv k
theorem g_istoreN (X : Stand p l e R s m args below meth c T locs cells slots) (hx : p.tables.exec = Jvm.exec) {k : Fin 4} {x : Int32} {l' : Array Slot} (hd : decode c.code pc = .ok (.istore_n k, 1)) (hl : storeLocals Ls k.val (.int x) = some l') (hr : Goes p.tables e below (T.setTop (mkF m (pc + 1) l' st)) P) : Goes p.tables e below (T.setTop (mkF m pc Ls (.int x :: st))) P := hr.of fun _ k => XS.istoreN X.here hx rfl hd rfl hl k
theorem g_istore (X : Stand p l e R s m args below meth c T locs cells slots) (hx : p.tables.exec = Jvm.exec) {k : Nat} {x : Int32} {l' : Array Slot} (hd : decode c.code pc = .ok (.istore k, 2)) (hl : storeLocals Ls k (.int x) = some l') (hr : Goes p.tables e below (T.setTop (mkF m (pc + 2) l' st)) P) : Goes p.tables e below (T.setTop (mkF m pc Ls (.int x :: st))) P := hr.of fun _ k => XS.istore X.here hx rfl hd rfl hl k
theorem g_lstoreN (X : Stand p l e R s m args below meth c T locs cells slots) (hx : p.tables.exec = Jvm.exec) {k : Fin 4} {x : Int64} {l' : Array Slot} (hd : decode c.code pc = .ok (.lstore_n k, 1)) (hl : storeLocals Ls k.val (.long x) = some l') (hr : Goes p.tables e below (T.setTop (mkF m (pc + 1) l' st)) P) : Goes p.tables e below (T.setTop (mkF m pc Ls (.long x :: st))) P := hr.of fun _ k => XT.lstoreN X.here hx rfl hd rfl hl k
theorem g_lstore (X : Stand p l e R s m args below meth c T locs cells slots) (hx : p.tables.exec = Jvm.exec) {k : Nat} {x : Int64} {l' : Array Slot} (hd : decode c.code pc = .ok (.lstore k, 2)) (hl : storeLocals Ls k (.long x) = some l') (hr : Goes p.tables e below (T.setTop (mkF m (pc + 2) l' st)) P) : Goes p.tables e below (T.setTop (mkF m pc Ls (.long x :: st))) P := hr.of fun _ k => XT.lstore X.here hx rfl hd rfl hl k
theorem g_astoreN (X : Stand p l e R s m args below meth c T locs cells slots) (hx : p.tables.exec = Jvm.exec) {k : Fin 4} {x : Value} {l' : Array Slot} (hd : decode c.code pc = .ok (.astore_n k, 1)) (hv : x.isRef = true) (hl : storeLocals Ls k.val x = some l') (hr : Goes p.tables e below (T.setTop (mkF m (pc + 1) l' st)) P) : Goes p.tables e below (T.setTop (mkF m pc Ls (x :: st))) P := hr.of fun _ k => XS.astoreN X.here hx rfl hd rfl hv hl k
theorem g_astore (X : Stand p l e R s m args below meth c T locs cells slots) (hx : p.tables.exec = Jvm.exec) {k : Nat} {x : Value} {l' : Array Slot} (hd : decode c.code pc = .ok (.astore k, 2)) (hv : x.isRef = true) (hl : storeLocals Ls k x = some l') (hr : Goes p.tables e below (T.setTop (mkF m (pc + 2) l' st)) P) : Goes p.tables e below (T.setTop (mkF m pc Ls (x :: st))) P := hr.of fun _ k => XS.astore X.here hx rfl hd rfl hv hl k
theorem g_istoreS (X : Stand p l e R s m args below meth c T locs cells slots) (hx : p.tables.exec = Jvm.exec) {k : Nat} {x : Int32} {o : Slot} (hd : decode c.code pc = .ok (.istore k, 2)) (hold : Ls[k]? = some o) (ho : One o) (hr : Goes p.tables e below (T.setTop (mkF m (pc + 2) (Ls.setIfInBounds k (.val (.int x))) st)) P) : Goes p.tables e below (T.setTop (mkF m pc Ls (.int x :: st))) P := hr.of fun _ k => XS.istoreS X.here hx rfl hd rfl hold ho k
theorem g_istoreNS (X : Stand p l e R s m args below meth c T locs cells slots) (hx : p.tables.exec = Jvm.exec) {k : Fin 4} {x : Int32} {o : Slot} (hd : decode c.code pc = .ok (.istore_n k, 1)) (hold : Ls[k.val]? = some o) (ho : One o) (hr : Goes p.tables e below (T.setTop (mkF m (pc + 1) (Ls.setIfInBounds k.val (.val (.int x))) st)) P) : Goes p.tables e below (T.setTop (mkF m pc Ls (.int x :: st))) P := hr.of fun _ k => XS.istoreNS X.here hx rfl hd rfl hold ho k
theorem g_iconst (X : Stand p l e R s m args below meth c T locs cells slots) (hx : p.tables.exec = Jvm.exec) {i : Int} (v : Int32) (hd : decode c.code pc = .ok (.iconst i, 1)) (hv : Int32.ofInt i = v) (hr : Goes p.tables e below (T.setTop (mkF m (pc + 1) Ls (.int v :: st))) P) : Goes p.tables e below (T.setTop (mkF m pc Ls st)) P := hr.of fun _ k => XT.iconstV X.here hx rfl v hd hv k
theorem g_bipush (X : Stand p l e R s m args below meth c T locs cells slots) (hx : p.tables.exec = Jvm.exec) {i : Int} (v : Int32) (hd : decode c.code pc = .ok (.bipush i, 2)) (hv : (Int8.ofInt i).toInt32 = v) (hr : Goes p.tables e below (T.setTop (mkF m (pc + 2) Ls (.int v :: st))) P) : Goes p.tables e below (T.setTop (mkF m pc Ls st)) P := hr.of fun _ k => XT.bipushV X.here hx rfl v hd hv k
theorem g_sipush (X : Stand p l e R s m args below meth c T locs cells slots) (hx : p.tables.exec = Jvm.exec) {i : Int} (v : Int32) (hd : decode c.code pc = .ok (.sipush i, 3)) (hv : (Int16.ofInt i).toInt32 = v) (hr : Goes p.tables e below (T.setTop (mkF m (pc + 3) Ls (.int v :: st))) P) : Goes p.tables e below (T.setTop (mkF m pc Ls st)) P := hr.of fun _ k => XT.sipushV X.here hx rfl v hd hv k
theorem g_lconst (X : Stand p l e R s m args below meth c T locs cells slots) (hx : p.tables.exec = Jvm.exec) {i : Fin 2} (v : Int64) (hd : decode c.code pc = .ok (.lconst i, 1)) (hv : Int64.ofNat i = v) (hr : Goes p.tables e below (T.setTop (mkF m (pc + 1) Ls (.long v :: st))) P) : Goes p.tables e below (T.setTop (mkF m pc Ls st)) P := hr.of fun _ k => XT.lconstV X.here hx rfl v hd hv k
theorem g_null (X : Stand p l e R s m args below meth c T locs cells slots) (hx : p.tables.exec = Jvm.exec)  (hd : decode c.code pc = .ok (.aconst_null, 1)) (hr : Goes p.tables e below (T.setTop (mkF m (pc + 1) Ls (.null :: st))) P) : Goes p.tables e below (T.setTop (mkF m pc Ls st)) P := hr.of fun _ k => XS.aconstNull X.here hx rfl hd k
theorem g_ldc (X : Stand p l e R s m args below meth c T locs cells slots) (hx : p.tables.exec = Jvm.exec) {own : String} {index : Nat} {v : Int32} (hZ : Z.Warmed39 s.vm) (hown : s.vm.findClass own = some m.cls) (wk : (Jvm.Cond.constant own index v).before a0 Z = true) (hd : decode c.code pc = .ok (.ldc index, 2)) (hr : Goes p.tables e below (T.setTop (mkF m (pc + 2) Ls (.int v :: st))) P) : Goes p.tables e below (T.setTop (mkF m pc Ls st)) P := hr.of fun _ k => X.ldcI hx hown (mvT hZ wk) rfl hd k
theorem g_ldcw (X : Stand p l e R s m args below meth c T locs cells slots) (hx : p.tables.exec = Jvm.exec) {own : String} {index : Nat} {v : Int32} (hZ : Z.Warmed39 s.vm) (hown : s.vm.findClass own = some m.cls) (wk : (Jvm.Cond.constant own index v).before a0 Z = true) (hd : decode c.code pc = .ok (.ldc_w index, 3)) (hr : Goes p.tables e below (T.setTop (mkF m (pc + 3) Ls (.int v :: st))) P) : Goes p.tables e below (T.setTop (mkF m pc Ls st)) P := hr.of fun _ k => X.ldcWI hx hown (mvT hZ wk) rfl hd k
theorem g_ldc2 (X : Stand p l e R s m args below meth c T locs cells slots) (hx : p.tables.exec = Jvm.exec) {own : String} {index : Nat} {v : Int64} (hZ : Z.Warmed39 s.vm) (hown : s.vm.findClass own = some m.cls) (wk : (Jvm.Cond.constantLong own index v).before a0 Z = true) (hd : decode c.code pc = .ok (.ldc2_w index, 3)) (hr : Goes p.tables e below (T.setTop (mkF m (pc + 3) Ls (.long v :: st))) P) : Goes p.tables e below (T.setTop (mkF m pc Ls st)) P := hr.of fun _ k => X.ldc2J hx hown (mvT hZ wk) rfl hd k
theorem g_iadd (X : Stand p l e R s m args below meth c T locs cells slots) (hx : p.tables.exec = Jvm.exec) {x y : Int32} (hd : decode c.code pc = .ok (.iadd, 1)) (hr : Goes p.tables e below (T.setTop (mkF m (pc + 1) Ls (.int (x + y) :: st))) P) : Goes p.tables e below (T.setTop (mkF m pc Ls (.int y :: .int x :: st))) P := hr.of fun _ k => XS.iadd X.here hx rfl hd rfl k
theorem g_isub (X : Stand p l e R s m args below meth c T locs cells slots) (hx : p.tables.exec = Jvm.exec) {x y : Int32} (hd : decode c.code pc = .ok (.isub, 1)) (hr : Goes p.tables e below (T.setTop (mkF m (pc + 1) Ls (.int (x - y) :: st))) P) : Goes p.tables e below (T.setTop (mkF m pc Ls (.int y :: .int x :: st))) P := hr.of fun _ k => XS.isub X.here hx rfl hd rfl k
theorem g_imul (X : Stand p l e R s m args below meth c T locs cells slots) (hx : p.tables.exec = Jvm.exec) {x y : Int32} (hd : decode c.code pc = .ok (.imul, 1)) (hr : Goes p.tables e below (T.setTop (mkF m (pc + 1) Ls (.int (x * y) :: st))) P) : Goes p.tables e below (T.setTop (mkF m pc Ls (.int y :: .int x :: st))) P := hr.of fun _ k => XS.imul X.here hx rfl hd rfl k
theorem g_iand (X : Stand p l e R s m args below meth c T locs cells slots) (hx : p.tables.exec = Jvm.exec) {x y : Int32} (hd : decode c.code pc = .ok (.iand, 1)) (hr : Goes p.tables e below (T.setTop (mkF m (pc + 1) Ls (.int (x &&& y) :: st))) P) : Goes p.tables e below (T.setTop (mkF m pc Ls (.int y :: .int x :: st))) P := hr.of fun _ k => XS.iand X.here hx rfl hd rfl k
theorem g_ior (X : Stand p l e R s m args below meth c T locs cells slots) (hx : p.tables.exec = Jvm.exec) {x y : Int32} (hd : decode c.code pc = .ok (.ior, 1)) (hr : Goes p.tables e below (T.setTop (mkF m (pc + 1) Ls (.int (x ||| y) :: st))) P) : Goes p.tables e below (T.setTop (mkF m pc Ls (.int y :: .int x :: st))) P := hr.of fun _ k => XT.ior X.here hx rfl hd rfl k
theorem g_ixor (X : Stand p l e R s m args below meth c T locs cells slots) (hx : p.tables.exec = Jvm.exec) {x y : Int32} (hd : decode c.code pc = .ok (.ixor, 1)) (hr : Goes p.tables e below (T.setTop (mkF m (pc + 1) Ls (.int (x ^^^ y) :: st))) P) : Goes p.tables e below (T.setTop (mkF m pc Ls (.int y :: .int x :: st))) P := hr.of fun _ k => XT.ixor X.here hx rfl hd rfl k
theorem g_ishl (X : Stand p l e R s m args below meth c T locs cells slots) (hx : p.tables.exec = Jvm.exec) {x y : Int32} (hd : decode c.code pc = .ok (.ishl, 1)) (hr : Goes p.tables e below (T.setTop (mkF m (pc + 1) Ls (.int (x <<< (y &&& 31)) :: st))) P) : Goes p.tables e below (T.setTop (mkF m pc Ls (.int y :: .int x :: st))) P := hr.of fun _ k => XT.ishl X.here hx rfl hd rfl k
theorem g_ishr (X : Stand p l e R s m args below meth c T locs cells slots) (hx : p.tables.exec = Jvm.exec) {x y : Int32} (hd : decode c.code pc = .ok (.ishr, 1)) (hr : Goes p.tables e below (T.setTop (mkF m (pc + 1) Ls (.int (x >>> (y &&& 31)) :: st))) P) : Goes p.tables e below (T.setTop (mkF m pc Ls (.int y :: .int x :: st))) P := hr.of fun _ k => XT.ishr X.here hx rfl hd rfl k
theorem g_iushr (X : Stand p l e R s m args below meth c T locs cells slots) (hx : p.tables.exec = Jvm.exec) {x y : Int32} (hd : decode c.code pc = .ok (.iushr, 1)) (hr : Goes p.tables e below (T.setTop (mkF m (pc + 1) Ls (.int (XT.ushr x y) :: st))) P) : Goes p.tables e below (T.setTop (mkF m pc Ls (.int y :: .int x :: st))) P := hr.of fun _ k => XT.iushr X.here hx rfl hd rfl k
theorem g_ladd (X : Stand p l e R s m args below meth c T locs cells slots) (hx : p.tables.exec = Jvm.exec) {x y : Int64} (hd : decode c.code pc = .ok (.ladd, 1)) (hr : Goes p.tables e below (T.setTop (mkF m (pc + 1) Ls (.long (x + y) :: st))) P) : Goes p.tables e below (T.setTop (mkF m pc Ls (.long y :: .long x :: st))) P := hr.of fun _ k => XT.ladd X.here hx rfl hd rfl k
theorem g_lsub (X : Stand p l e R s m args below meth c T locs cells slots) (hx : p.tables.exec = Jvm.exec) {x y : Int64} (hd : decode c.code pc = .ok (.lsub, 1)) (hr : Goes p.tables e below (T.setTop (mkF m (pc + 1) Ls (.long (x - y) :: st))) P) : Goes p.tables e below (T.setTop (mkF m pc Ls (.long y :: .long x :: st))) P := hr.of fun _ k => XT.lsub X.here hx rfl hd rfl k
theorem g_lmul (X : Stand p l e R s m args below meth c T locs cells slots) (hx : p.tables.exec = Jvm.exec) {x y : Int64} (hd : decode c.code pc = .ok (.lmul, 1)) (hr : Goes p.tables e below (T.setTop (mkF m (pc + 1) Ls (.long (x * y) :: st))) P) : Goes p.tables e below (T.setTop (mkF m pc Ls (.long y :: .long x :: st))) P := hr.of fun _ k => XT.lmul X.here hx rfl hd rfl k
theorem g_land (X : Stand p l e R s m args below meth c T locs cells slots) (hx : p.tables.exec = Jvm.exec) {x y : Int64} (hd : decode c.code pc = .ok (.land, 1)) (hr : Goes p.tables e below (T.setTop (mkF m (pc + 1) Ls (.long (x &&& y) :: st))) P) : Goes p.tables e below (T.setTop (mkF m pc Ls (.long y :: .long x :: st))) P := hr.of fun _ k => XT.land X.here hx rfl hd rfl k
theorem g_lor (X : Stand p l e R s m args below meth c T locs cells slots) (hx : p.tables.exec = Jvm.exec) {x y : Int64} (hd : decode c.code pc = .ok (.lor, 1)) (hr : Goes p.tables e below (T.setTop (mkF m (pc + 1) Ls (.long (x ||| y) :: st))) P) : Goes p.tables e below (T.setTop (mkF m pc Ls (.long y :: .long x :: st))) P := hr.of fun _ k => XT.lor X.here hx rfl hd rfl k
theorem g_lxor (X : Stand p l e R s m args below meth c T locs cells slots) (hx : p.tables.exec = Jvm.exec) {x y : Int64} (hd : decode c.code pc = .ok (.lxor, 1)) (hr : Goes p.tables e below (T.setTop (mkF m (pc + 1) Ls (.long (x ^^^ y) :: st))) P) : Goes p.tables e below (T.setTop (mkF m pc Ls (.long y :: .long x :: st))) P := hr.of fun _ k => XT.lxor X.here hx rfl hd rfl k
theorem g_lshl (X : Stand p l e R s m args below meth c T locs cells slots) (hx : p.tables.exec = Jvm.exec) {x : Int64} {y : Int32} (hd : decode c.code pc = .ok (.lshl, 1)) (hr : Goes p.tables e below (T.setTop (mkF m (pc + 1) Ls (.long (x <<< (y.toInt64 &&& 63)) :: st))) P) : Goes p.tables e below (T.setTop (mkF m pc Ls (.int y :: .long x :: st))) P := hr.of fun _ k => XT.lshl X.here hx rfl hd rfl k
theorem g_lshr (X : Stand p l e R s m args below meth c T locs cells slots) (hx : p.tables.exec = Jvm.exec) {x : Int64} {y : Int32} (hd : decode c.code pc = .ok (.lshr, 1)) (hr : Goes p.tables e below (T.setTop (mkF m (pc + 1) Ls (.long (x >>> (y.toInt64 &&& 63)) :: st))) P) : Goes p.tables e below (T.setTop (mkF m pc Ls (.int y :: .long x :: st))) P := hr.of fun _ k => XT.lshr X.here hx rfl hd rfl k
theorem g_lushr (X : Stand p l e R s m args below meth c T locs cells slots) (hx : p.tables.exec = Jvm.exec) {x : Int64} {y : Int32} (hd : decode c.code pc = .ok (.lushr, 1)) (hr : Goes p.tables e below (T.setTop (mkF m (pc + 1) Ls (.long (XT.ushrL x y) :: st))) P) : Goes p.tables e below (T.setTop (mkF m pc Ls (.int y :: .long x :: st))) P := hr.of fun _ k => XT.lushr X.here hx rfl hd rfl k
theorem g_idiv (X : Stand p l e R s m args below meth c T locs cells slots) (hx : p.tables.exec = Jvm.exec) {x y : Int32} (hd : decode c.code pc = .ok (.idiv, 1)) (hy : y ≠ 0) (hr : Goes p.tables e below (T.setTop (mkF m (pc + 1) Ls (.int (x / y) :: st))) P) : Goes p.tables e below (T.setTop (mkF m pc Ls (.int y :: .int x :: st))) P := hr.of fun _ k => XS.idiv X.here hx rfl hd rfl hy k
theorem g_irem (X : Stand p l e R s m args below meth c T locs cells slots) (hx : p.tables.exec = Jvm.exec) {x y : Int32} (hd : decode c.code pc = .ok (.irem, 1)) (hy : y ≠ 0) (hr : Goes p.tables e below (T.setTop (mkF m (pc + 1) Ls (.int (x % y) :: st))) P) : Goes p.tables e below (T.setTop (mkF m pc Ls (.int y :: .int x :: st))) P := hr.of fun _ k => iremM X hx rfl hd rfl hy k
theorem g_ldiv (X : Stand p l e R s m args below meth c T locs cells slots) (hx : p.tables.exec = Jvm.exec) {x y : Int64} (hd : decode c.code pc = .ok (.ldiv, 1)) (hy : y ≠ 0) (hr : Goes p.tables e below (T.setTop (mkF m (pc + 1) Ls (.long (x / y) :: st))) P) : Goes p.tables e below (T.setTop (mkF m pc Ls (.long y :: .long x :: st))) P := hr.of fun _ k => XT.ldiv X.here hx rfl hd rfl hy k
theorem g_lrem (X : Stand p l e R s m args below meth c T locs cells slots) (hx : p.tables.exec = Jvm.exec) {x y : Int64} (hd : decode c.code pc = .ok (.lrem, 1)) (hy : y ≠ 0) (hr : Goes p.tables e below (T.setTop (mkF m (pc + 1) Ls (.long (x % y) :: st))) P) : Goes p.tables e below (T.setTop (mkF m pc Ls (.long y :: .long x :: st))) P := hr.of fun _ k => XT.lrem X.here hx rfl hd rfl hy (by rw [lrem_mod]; exact k)
theorem g_ineg (X : Stand p l e R s m args below meth c T locs cells slots) (hx : p.tables.exec = Jvm.exec) {x : Int32} (hd : decode c.code pc = .ok (.ineg, 1)) (hr : Goes p.tables e below (T.setTop (mkF m (pc + 1) Ls (.int (-x) :: st))) P) : Goes p.tables e below (T.setTop (mkF m pc Ls (.int x :: st))) P := hr.of fun _ k => XS.ineg X.here hx rfl hd rfl k
theorem g_lneg (X : Stand p l e R s m args below meth c T locs cells slots) (hx : p.tables.exec = Jvm.exec) {x : Int64} (hd : decode c.code pc = .ok (.lneg, 1)) (hr : Goes p.tables e below (T.setTop (mkF m (pc + 1) Ls (.long (-x) :: st))) P) : Goes p.tables e below (T.setTop (mkF m pc Ls (.long x :: st))) P := hr.of fun _ k => XT.lneg X.here hx rfl hd rfl k
theorem g_i2l (X : Stand p l e R s m args below meth c T locs cells slots) (hx : p.tables.exec = Jvm.exec) {x : Int32} (hd : decode c.code pc = .ok (.i2l, 1)) (hr : Goes p.tables e below (T.setTop (mkF m (pc + 1) Ls (.long (x.toInt64) :: st))) P) : Goes p.tables e below (T.setTop (mkF m pc Ls (.int x :: st))) P := hr.of fun _ k => XT.i2l X.here hx rfl hd rfl k
theorem g_l2i (X : Stand p l e R s m args below meth c T locs cells slots) (hx : p.tables.exec = Jvm.exec) {x : Int64} (hd : decode c.code pc = .ok (.l2i, 1)) (hr : Goes p.tables e below (T.setTop (mkF m (pc + 1) Ls (.int (x.toInt32) :: st))) P) : Goes p.tables e below (T.setTop (mkF m pc Ls (.long x :: st))) P := hr.of fun _ k => XT.l2i X.here hx rfl hd rfl k
theorem g_i2b (X : Stand p l e R s m args below meth c T locs cells slots) (hx : p.tables.exec = Jvm.exec) {x : Int32} (hd : decode c.code pc = .ok (.i2b, 1)) (hr : Goes p.tables e below (T.setTop (mkF m (pc + 1) Ls (.int (x.toInt8.toInt32) :: st))) P) : Goes p.tables e below (T.setTop (mkF m pc Ls (.int x :: st))) P := hr.of fun _ k => XT.i2b X.here hx rfl hd rfl k
theorem g_i2c (X : Stand p l e R s m args below meth c T locs cells slots) (hx : p.tables.exec = Jvm.exec) {x : Int32} (hd : decode c.code pc = .ok (.i2c, 1)) (hr : Goes p.tables e below (T.setTop (mkF m (pc + 1) Ls (.int (x.toUInt32.toUInt16.toUInt32.toInt32) :: st))) P) : Goes p.tables e below (T.setTop (mkF m pc Ls (.int x :: st))) P := hr.of fun _ k => XT.i2c X.here hx rfl hd rfl k
theorem g_i2s (X : Stand p l e R s m args below meth c T locs cells slots) (hx : p.tables.exec = Jvm.exec) {x : Int32} (hd : decode c.code pc = .ok (.i2s, 1)) (hr : Goes p.tables e below (T.setTop (mkF m (pc + 1) Ls (.int (x.toInt16.toInt32) :: st))) P) : Goes p.tables e below (T.setTop (mkF m pc Ls (.int x :: st))) P := hr.of fun _ k => XT.i2s X.here hx rfl hd rfl k
theorem g_lcmp (X : Stand p l e R s m args below meth c T locs cells slots) (hx : p.tables.exec = Jvm.exec) {x y : Int64} (hd : decode c.code pc = .ok (.lcmp, 1)) (hr : Goes p.tables e below (T.setTop (mkF m (pc + 1) Ls (.int (XT.cmpL x y) :: st))) P) : Goes p.tables e below (T.setTop (mkF m pc Ls (.long y :: .long x :: st))) P := hr.of fun _ k => XT.lcmp X.here hx rfl hd rfl k
theorem g_dup (X : Stand p l e R s m args below meth c T locs cells slots) (hx : p.tables.exec = Jvm.exec) {x : Value} (hd : decode c.code pc = .ok (.dup, 1)) (hc : x.category = 1) (hr : Goes p.tables e below (T.setTop (mkF m (pc + 1) Ls (x :: x :: st))) P) : Goes p.tables e below (T.setTop (mkF m pc Ls (x :: st))) P := hr.of fun _ k => XS.dup X.here hx rfl hd rfl hc k
theorem g_pop (X : Stand p l e R s m args below meth c T locs cells slots) (hx : p.tables.exec = Jvm.exec) {x : Value} (hd : decode c.code pc = .ok (.pop, 1)) (hc : x.category = 1) (hr : Goes p.tables e below (T.setTop (mkF m (pc + 1) Ls st)) P) : Goes p.tables e below (T.setTop (mkF m pc Ls (x :: st))) P := hr.of fun _ k => XT.pop X.here hx rfl hd rfl hc k
theorem g_dupX1 (X : Stand p l e R s m args below meth c T locs cells slots) (hx : p.tables.exec = Jvm.exec) {x y : Value} (hd : decode c.code pc = .ok (.dup_x1, 1)) (hc : x.category = 1) (hc' : y.category = 1) (hr : Goes p.tables e below (T.setTop (mkF m (pc + 1) Ls (x :: y :: x :: st))) P) : Goes p.tables e below (T.setTop (mkF m pc Ls (x :: y :: st))) P := hr.of fun _ k => XT.dupX1 X.here hx rfl hd rfl hc hc' k
theorem g_dup2 (X : Stand p l e R s m args below meth c T locs cells slots) (hx : p.tables.exec = Jvm.exec) {x y : Value} (hd : decode c.code pc = .ok (.dup2, 1)) (hc : x.category = 1) (hc' : y.category = 1) (hr : Goes p.tables e below (T.setTop (mkF m (pc + 1) Ls (x :: y :: x :: y :: st))) P) : Goes p.tables e below (T.setTop (mkF m pc Ls (x :: y :: st))) P := hr.of fun _ k => XT.dup2 X.here hx rfl hd rfl hc hc' k
theorem g_dup2L (X : Stand p l e R s m args below meth c T locs cells slots) (hx : p.tables.exec = Jvm.exec) {x : Int64} (hd : decode c.code pc = .ok (.dup2, 1)) (hr : Goes p.tables e below (T.setTop (mkF m (pc + 1) Ls (.long x :: .long x :: st))) P) : Goes p.tables e below (T.setTop (mkF m pc Ls (.long x :: st))) P := hr.of fun _ k => XT.dup2L X.here hx rfl hd rfl k
theorem g_iinc (X : Stand p l e R s m args below meth c T locs cells slots) (hx : p.tables.exec = Jvm.exec) {k : Nat} {cst : Int} {x : Int32} {l' : Array Slot} (v : Int32) (hd : decode c.code pc = .ok (.iinc k cst, 3)) (hv : Int32.ofInt cst = v) (hl : Ls[k]? = some (.val (.int x))) (hl' : storeLocals Ls k (.int (x + v)) = some l') (hr : Goes p.tables e below (T.setTop (mkF m (pc + 3) l' st)) P) : Goes p.tables e below (T.setTop (mkF m pc Ls st)) P := hr.of fun _ k => XT.iincV X.here hx rfl v hd hv hl hl' k
theorem g_goto (X : Stand p l e R s m args below meth c T locs cells slots) (hx : p.tables.exec = Jvm.exec) {o : Int} {pc' : Nat} (hd : decode c.code pc = .ok (.goto o, 3)) (ho : 0 ≤ (pc : Int) + o) (hp : ((pc : Int) + o).toNat = pc') (hr : Goes p.tables e below (T.setTop (mkF m pc' Ls st)) P) : Goes p.tables e below (T.setTop (mkF m pc Ls st)) P := hr.of fun _ k => XS.goto X.here hx rfl rfl hd ho hp k
theorem g_icmp_eq (X : Stand p l e R s m args below meth c T locs cells slots) (hx : p.tables.exec = Jvm.exec) {x y : Int32} {o : Int} {pc' : Nat} (hd : decode c.code pc = .ok (.if_icmp .eq o, 3)) (ho : 0 ≤ (pc : Int) + o) (hp : ((pc : Int) + o).toNat = pc') (hT : (x = y) → Goes p.tables e below (T.setTop (mkF m pc' Ls st)) P) (hF : (¬ x = y) → Goes p.tables e below (T.setTop (mkF m (pc + 3) Ls st)) P) : Goes p.tables e below (T.setTop (mkF m pc Ls (.int y :: .int x :: st))) P := by
  by_cases q : x = y
  · exact (hT q).of fun _ k => XS.icmpYes X.here hx rfl rfl hd rfl (XT.ii_eq_t q) ho hp k
  · exact (hF q).of fun _ k => XS.icmpNo X.here hx rfl hd rfl (XT.ii_eq_f q) k
theorem g_if_eq (X : Stand p l e R s m args below meth c T locs cells slots) (hx : p.tables.exec = Jvm.exec) {x : Int32} {o : Int} {pc' : Nat} (hd : decode c.code pc = .ok (.ifCond .eq o, 3)) (ho : 0 ≤ (pc : Int) + o) (hp : ((pc : Int) + o).toNat = pc') (hT : (x = 0) → Goes p.tables e below (T.setTop (mkF m pc' Ls st)) P) (hF : (¬ x = 0) → Goes p.tables e below (T.setTop (mkF m (pc + 3) Ls st)) P) : Goes p.tables e below (T.setTop (mkF m pc Ls (.int x :: st))) P := by
  by_cases q : x = 0
  · exact (hT q).of fun _ k => XS.ifYes X.here hx rfl rfl hd rfl (XT.i0_eq_t q) ho hp k
  · exact (hF q).of fun _ k => XS.ifNo X.here hx rfl hd rfl (XT.i0_eq_f q) k
theorem g_lif_eq (X : Stand p l e R s m args below meth c T locs cells slots) (hx : p.tables.exec = Jvm.exec) {x y : Int64} {o : Int} {pc' : Nat} (hd : decode c.code pc = .ok (.ifCond .eq o, 3)) (ho : 0 ≤ (pc : Int) + o) (hp : ((pc : Int) + o).toNat = pc') (hT : (x = y) → Goes p.tables e below (T.setTop (mkF m pc' Ls st)) P) (hF : (¬ x = y) → Goes p.tables e below (T.setTop (mkF m (pc + 3) Ls st)) P) : Goes p.tables e below (T.setTop (mkF m pc Ls (.int (XT.cmpL x y) :: st))) P := by
  by_cases q : x = y
  · exact (hT q).of fun _ k => XS.ifYes X.here hx rfl rfl hd rfl (XT.ll_eq_t q) ho hp k
  · exact (hF q).of fun _ k => XS.ifNo X.here hx rfl hd rfl (XT.ll_eq_f q) k
theorem g_icmp_ne (X : Stand p l e R s m args below meth c T locs cells slots) (hx : p.tables.exec = Jvm.exec) {x y : Int32} {o : Int} {pc' : Nat} (hd : decode c.code pc = .ok (.if_icmp .ne o, 3)) (ho : 0 ≤ (pc : Int) + o) (hp : ((pc : Int) + o).toNat = pc') (hT : (¬ x = y) → Goes p.tables e below (T.setTop (mkF m pc' Ls st)) P) (hF : (x = y) → Goes p.tables e below (T.setTop (mkF m (pc + 3) Ls st)) P) : Goes p.tables e below (T.setTop (mkF m pc Ls (.int y :: .int x :: st))) P := by
  by_cases q : x = y
  · exact (hF q).of fun _ k => XS.icmpNo X.here hx rfl hd rfl (XT.ii_ne_f q) k
  · exact (hT q).of fun _ k => XS.icmpYes X.here hx rfl rfl hd rfl (XT.ii_ne_t q) ho hp k
theorem g_if_ne (X : Stand p l e R s m args below meth c T locs cells slots) (hx : p.tables.exec = Jvm.exec) {x : Int32} {o : Int} {pc' : Nat} (hd : decode c.code pc = .ok (.ifCond .ne o, 3)) (ho : 0 ≤ (pc : Int) + o) (hp : ((pc : Int) + o).toNat = pc') (hT : (¬ x = 0) → Goes p.tables e below (T.setTop (mkF m pc' Ls st)) P) (hF : (x = 0) → Goes p.tables e below (T.setTop (mkF m (pc + 3) Ls st)) P) : Goes p.tables e below (T.setTop (mkF m pc Ls (.int x :: st))) P := by
  by_cases q : x = 0
  · exact (hF q).of fun _ k => XS.ifNo X.here hx rfl hd rfl (XT.i0_ne_f q) k
  · exact (hT q).of fun _ k => XS.ifYes X.here hx rfl rfl hd rfl (XT.i0_ne_t q) ho hp k
theorem g_lif_ne (X : Stand p l e R s m args below meth c T locs cells slots) (hx : p.tables.exec = Jvm.exec) {x y : Int64} {o : Int} {pc' : Nat} (hd : decode c.code pc = .ok (.ifCond .ne o, 3)) (ho : 0 ≤ (pc : Int) + o) (hp : ((pc : Int) + o).toNat = pc') (hT : (¬ x = y) → Goes p.tables e below (T.setTop (mkF m pc' Ls st)) P) (hF : (x = y) → Goes p.tables e below (T.setTop (mkF m (pc + 3) Ls st)) P) : Goes p.tables e below (T.setTop (mkF m pc Ls (.int (XT.cmpL x y) :: st))) P := by
  by_cases q : x = y
  · exact (hF q).of fun _ k => XS.ifNo X.here hx rfl hd rfl (XT.ll_ne_f q) k
  · exact (hT q).of fun _ k => XS.ifYes X.here hx rfl rfl hd rfl (XT.ll_ne_t q) ho hp k
theorem g_icmp_lt (X : Stand p l e R s m args below meth c T locs cells slots) (hx : p.tables.exec = Jvm.exec) {x y : Int32} {o : Int} {pc' : Nat} (hd : decode c.code pc = .ok (.if_icmp .lt o, 3)) (ho : 0 ≤ (pc : Int) + o) (hp : ((pc : Int) + o).toNat = pc') (hT : (x < y) → Goes p.tables e below (T.setTop (mkF m pc' Ls st)) P) (hF : (¬ x < y) → Goes p.tables e below (T.setTop (mkF m (pc + 3) Ls st)) P) : Goes p.tables e below (T.setTop (mkF m pc Ls (.int y :: .int x :: st))) P := by
  by_cases q : x < y
  · exact (hT q).of fun _ k => XS.icmpYes X.here hx rfl rfl hd rfl (XT.ii_lt_t q) ho hp k
  · exact (hF q).of fun _ k => XS.icmpNo X.here hx rfl hd rfl (XT.ii_lt_f q) k
theorem g_if_lt (X : Stand p l e R s m args below meth c T locs cells slots) (hx : p.tables.exec = Jvm.exec) {x : Int32} {o : Int} {pc' : Nat} (hd : decode c.code pc = .ok (.ifCond .lt o, 3)) (ho : 0 ≤ (pc : Int) + o) (hp : ((pc : Int) + o).toNat = pc') (hT : (x < 0) → Goes p.tables e below (T.setTop (mkF m pc' Ls st)) P) (hF : (¬ x < 0) → Goes p.tables e below (T.setTop (mkF m (pc + 3) Ls st)) P) : Goes p.tables e below (T.setTop (mkF m pc Ls (.int x :: st))) P := by
  by_cases q : x < 0
  · exact (hT q).of fun _ k => XS.ifYes X.here hx rfl rfl hd rfl (XT.i0_lt_t q) ho hp k
  · exact (hF q).of fun _ k => XS.ifNo X.here hx rfl hd rfl (XT.i0_lt_f q) k
theorem g_lif_lt (X : Stand p l e R s m args below meth c T locs cells slots) (hx : p.tables.exec = Jvm.exec) {x y : Int64} {o : Int} {pc' : Nat} (hd : decode c.code pc = .ok (.ifCond .lt o, 3)) (ho : 0 ≤ (pc : Int) + o) (hp : ((pc : Int) + o).toNat = pc') (hT : (x < y) → Goes p.tables e below (T.setTop (mkF m pc' Ls st)) P) (hF : (¬ x < y) → Goes p.tables e below (T.setTop (mkF m (pc + 3) Ls st)) P) : Goes p.tables e below (T.setTop (mkF m pc Ls (.int (XT.cmpL x y) :: st))) P := by
  by_cases q : x < y
  · exact (hT q).of fun _ k => XS.ifYes X.here hx rfl rfl hd rfl (XT.ll_lt_t q) ho hp k
  · exact (hF q).of fun _ k => XS.ifNo X.here hx rfl hd rfl (XT.ll_lt_f q) k
theorem g_icmp_ge (X : Stand p l e R s m args below meth c T locs cells slots) (hx : p.tables.exec = Jvm.exec) {x y : Int32} {o : Int} {pc' : Nat} (hd : decode c.code pc = .ok (.if_icmp .ge o, 3)) (ho : 0 ≤ (pc : Int) + o) (hp : ((pc : Int) + o).toNat = pc') (hT : (¬ x < y) → Goes p.tables e below (T.setTop (mkF m pc' Ls st)) P) (hF : (x < y) → Goes p.tables e below (T.setTop (mkF m (pc + 3) Ls st)) P) : Goes p.tables e below (T.setTop (mkF m pc Ls (.int y :: .int x :: st))) P := by
  by_cases q : x < y
  · exact (hF q).of fun _ k => XS.icmpNo X.here hx rfl hd rfl (XT.ii_ge_f q) k
  · exact (hT q).of fun _ k => XS.icmpYes X.here hx rfl rfl hd rfl (XT.ii_ge_t q) ho hp k
theorem g_if_ge (X : Stand p l e R s m args below meth c T locs cells slots) (hx : p.tables.exec = Jvm.exec) {x : Int32} {o : Int} {pc' : Nat} (hd : decode c.code pc = .ok (.ifCond .ge o, 3)) (ho : 0 ≤ (pc : Int) + o) (hp : ((pc : Int) + o).toNat = pc') (hT : (¬ x < 0) → Goes p.tables e below (T.setTop (mkF m pc' Ls st)) P) (hF : (x < 0) → Goes p.tables e below (T.setTop (mkF m (pc + 3) Ls st)) P) : Goes p.tables e below (T.setTop (mkF m pc Ls (.int x :: st))) P := by
  by_cases q : x < 0
  · exact (hF q).of fun _ k => XS.ifNo X.here hx rfl hd rfl (XT.i0_ge_f q) k
  · exact (hT q).of fun _ k => XS.ifYes X.here hx rfl rfl hd rfl (XT.i0_ge_t q) ho hp k
theorem g_lif_ge (X : Stand p l e R s m args below meth c T locs cells slots) (hx : p.tables.exec = Jvm.exec) {x y : Int64} {o : Int} {pc' : Nat} (hd : decode c.code pc = .ok (.ifCond .ge o, 3)) (ho : 0 ≤ (pc : Int) + o) (hp : ((pc : Int) + o).toNat = pc') (hT : (¬ x < y) → Goes p.tables e below (T.setTop (mkF m pc' Ls st)) P) (hF : (x < y) → Goes p.tables e below (T.setTop (mkF m (pc + 3) Ls st)) P) : Goes p.tables e below (T.setTop (mkF m pc Ls (.int (XT.cmpL x y) :: st))) P := by
  by_cases q : x < y
  · exact (hF q).of fun _ k => XS.ifNo X.here hx rfl hd rfl (XT.ll_ge_f q) k
  · exact (hT q).of fun _ k => XS.ifYes X.here hx rfl rfl hd rfl (XT.ll_ge_t q) ho hp k
theorem g_icmp_gt (X : Stand p l e R s m args below meth c T locs cells slots) (hx : p.tables.exec = Jvm.exec) {x y : Int32} {o : Int} {pc' : Nat} (hd : decode c.code pc = .ok (.if_icmp .gt o, 3)) (ho : 0 ≤ (pc : Int) + o) (hp : ((pc : Int) + o).toNat = pc') (hT : (y < x) → Goes p.tables e below (T.setTop (mkF m pc' Ls st)) P) (hF : (¬ y < x) → Goes p.tables e below (T.setTop (mkF m (pc + 3) Ls st)) P) : Goes p.tables e below (T.setTop (mkF m pc Ls (.int y :: .int x :: st))) P := by
  by_cases q : y < x
  · exact (hT q).of fun _ k => XS.icmpYes X.here hx rfl rfl hd rfl (XT.ii_gt_t q) ho hp k
  · exact (hF q).of fun _ k => XS.icmpNo X.here hx rfl hd rfl (XT.ii_gt_f q) k
theorem g_if_gt (X : Stand p l e R s m args below meth c T locs cells slots) (hx : p.tables.exec = Jvm.exec) {x : Int32} {o : Int} {pc' : Nat} (hd : decode c.code pc = .ok (.ifCond .gt o, 3)) (ho : 0 ≤ (pc : Int) + o) (hp : ((pc : Int) + o).toNat = pc') (hT : (0 < x) → Goes p.tables e below (T.setTop (mkF m pc' Ls st)) P) (hF : (¬ 0 < x) → Goes p.tables e below (T.setTop (mkF m (pc + 3) Ls st)) P) : Goes p.tables e below (T.setTop (mkF m pc Ls (.int x :: st))) P := by
  by_cases q : 0 < x
  · exact (hT q).of fun _ k => XS.ifYes X.here hx rfl rfl hd rfl (XT.i0_gt_t q) ho hp k
  · exact (hF q).of fun _ k => XS.ifNo X.here hx rfl hd rfl (XT.i0_gt_f q) k
theorem g_lif_gt (X : Stand p l e R s m args below meth c T locs cells slots) (hx : p.tables.exec = Jvm.exec) {x y : Int64} {o : Int} {pc' : Nat} (hd : decode c.code pc = .ok (.ifCond .gt o, 3)) (ho : 0 ≤ (pc : Int) + o) (hp : ((pc : Int) + o).toNat = pc') (hT : (y < x) → Goes p.tables e below (T.setTop (mkF m pc' Ls st)) P) (hF : (¬ y < x) → Goes p.tables e below (T.setTop (mkF m (pc + 3) Ls st)) P) : Goes p.tables e below (T.setTop (mkF m pc Ls (.int (XT.cmpL x y) :: st))) P := by
  by_cases q : y < x
  · exact (hT q).of fun _ k => XS.ifYes X.here hx rfl rfl hd rfl (XT.ll_gt_t q) ho hp k
  · exact (hF q).of fun _ k => XS.ifNo X.here hx rfl hd rfl (XT.ll_gt_f q) k
theorem g_icmp_le (X : Stand p l e R s m args below meth c T locs cells slots) (hx : p.tables.exec = Jvm.exec) {x y : Int32} {o : Int} {pc' : Nat} (hd : decode c.code pc = .ok (.if_icmp .le o, 3)) (ho : 0 ≤ (pc : Int) + o) (hp : ((pc : Int) + o).toNat = pc') (hT : (¬ y < x) → Goes p.tables e below (T.setTop (mkF m pc' Ls st)) P) (hF : (y < x) → Goes p.tables e below (T.setTop (mkF m (pc + 3) Ls st)) P) : Goes p.tables e below (T.setTop (mkF m pc Ls (.int y :: .int x :: st))) P := by
  by_cases q : y < x
  · exact (hF q).of fun _ k => XS.icmpNo X.here hx rfl hd rfl (XT.ii_le_f q) k
  · exact (hT q).of fun _ k => XS.icmpYes X.here hx rfl rfl hd rfl (XT.ii_le_t q) ho hp k
theorem g_if_le (X : Stand p l e R s m args below meth c T locs cells slots) (hx : p.tables.exec = Jvm.exec) {x : Int32} {o : Int} {pc' : Nat} (hd : decode c.code pc = .ok (.ifCond .le o, 3)) (ho : 0 ≤ (pc : Int) + o) (hp : ((pc : Int) + o).toNat = pc') (hT : (¬ 0 < x) → Goes p.tables e below (T.setTop (mkF m pc' Ls st)) P) (hF : (0 < x) → Goes p.tables e below (T.setTop (mkF m (pc + 3) Ls st)) P) : Goes p.tables e below (T.setTop (mkF m pc Ls (.int x :: st))) P := by
  by_cases q : 0 < x
  · exact (hF q).of fun _ k => XS.ifNo X.here hx rfl hd rfl (XT.i0_le_f q) k
  · exact (hT q).of fun _ k => XS.ifYes X.here hx rfl rfl hd rfl (XT.i0_le_t q) ho hp k
theorem g_lif_le (X : Stand p l e R s m args below meth c T locs cells slots) (hx : p.tables.exec = Jvm.exec) {x y : Int64} {o : Int} {pc' : Nat} (hd : decode c.code pc = .ok (.ifCond .le o, 3)) (ho : 0 ≤ (pc : Int) + o) (hp : ((pc : Int) + o).toNat = pc') (hT : (¬ y < x) → Goes p.tables e below (T.setTop (mkF m pc' Ls st)) P) (hF : (y < x) → Goes p.tables e below (T.setTop (mkF m (pc + 3) Ls st)) P) : Goes p.tables e below (T.setTop (mkF m pc Ls (.int (XT.cmpL x y) :: st))) P := by
  by_cases q : y < x
  · exact (hF q).of fun _ k => XS.ifNo X.here hx rfl hd rfl (XT.ll_le_f q) k
  · exact (hT q).of fun _ k => XS.ifYes X.here hx rfl rfl hd rfl (XT.ll_le_t q) ho hp k
theorem g_ifnull_ref (X : Stand p l e R s m args below meth c T locs cells slots) (hx : p.tables.exec = Jvm.exec) {b : Addr} {o : Int} (hd : decode c.code pc = .ok (.ifnull o, 3)) (hr : Goes p.tables e below (T.setTop (mkF m (pc + 3) Ls st)) P) : Goes p.tables e below (T.setTop (mkF m pc Ls (.ref b :: st))) P := hr.of fun _ k => XS.ifnullNo X.here hx rfl hd rfl k
theorem g_ifnull_null (X : Stand p l e R s m args below meth c T locs cells slots) (hx : p.tables.exec = Jvm.exec)  {o : Int} {pc' : Nat} (hd : decode c.code pc = .ok (.ifnull o, 3)) (ho : 0 ≤ (pc : Int) + o) (hp : ((pc : Int) + o).toNat = pc') (hr : Goes p.tables e below (T.setTop (mkF m pc' Ls st)) P) : Goes p.tables e below (T.setTop (mkF m pc Ls (.null :: st))) P := hr.of fun _ k => XS.ifnullYes X.here hx rfl rfl hd rfl ho hp k
theorem g_ifnonnull_ref (X : Stand p l e R s m args below meth c T locs cells slots) (hx : p.tables.exec = Jvm.exec) {b : Addr} {o : Int} {pc' : Nat} (hd : decode c.code pc = .ok (.ifnonnull o, 3)) (ho : 0 ≤ (pc : Int) + o) (hp : ((pc : Int) + o).toNat = pc') (hr : Goes p.tables e below (T.setTop (mkF m pc' Ls st)) P) : Goes p.tables e below (T.setTop (mkF m pc Ls (.ref b :: st))) P := hr.of fun _ k => XT.ifnonnullYes X.here hx rfl rfl hd rfl ho hp k
theorem g_ifnonnull_null (X : Stand p l e R s m args below meth c T locs cells slots) (hx : p.tables.exec = Jvm.exec)  {o : Int} (hd : decode c.code pc = .ok (.ifnonnull o, 3)) (hr : Goes p.tables e below (T.setTop (mkF m (pc + 3) Ls st)) P) : Goes p.tables e below (T.setTop (mkF m pc Ls (.null :: st))) P := hr.of fun _ k => XT.ifnonnullNo X.here hx rfl hd rfl k
theorem g_acmp_eq (X : Stand p l e R s m args below meth c T locs cells slots) (hx : p.tables.exec = Jvm.exec) {x y : Value} (hx' : x.isRef = true) (hy' : y.isRef = true) {o : Int} {pc' : Nat} (hd : decode c.code pc = .ok (.if_acmp .eq o, 3)) (ho : 0 ≤ (pc : Int) + o) (hp : ((pc : Int) + o).toNat = pc') (hT : (x = y) → Goes p.tables e below (T.setTop (mkF m pc' Ls st)) P) (hF : (¬ x = y) → Goes p.tables e below (T.setTop (mkF m (pc + 3) Ls st)) P) : Goes p.tables e below (T.setTop (mkF m pc Ls (y :: x :: st))) P := by
  by_cases q : x = y
  · exact (hT q).of fun _ k => XT.acmpYes X.here hx rfl rfl hd rfl hx' hy' (by simp [XT.acmp, q]) ho hp k
  · exact (hF q).of fun _ k => XT.acmpNo X.here hx rfl hd rfl hx' hy' (by simp [XT.acmp, q]) k
theorem g_acmp_ne (X : Stand p l e R s m args below meth c T locs cells slots) (hx : p.tables.exec = Jvm.exec) {x y : Value} (hx' : x.isRef = true) (hy' : y.isRef = true) {o : Int} {pc' : Nat} (hd : decode c.code pc = .ok (.if_acmp .ne o, 3)) (ho : 0 ≤ (pc : Int) + o) (hp : ((pc : Int) + o).toNat = pc') (hT : (¬ x = y) → Goes p.tables e below (T.setTop (mkF m pc' Ls st)) P) (hF : (x = y) → Goes p.tables e below (T.setTop (mkF m (pc + 3) Ls st)) P) : Goes p.tables e below (T.setTop (mkF m pc Ls (y :: x :: st))) P := by
  by_cases q : x = y
  · exact (hF q).of fun _ k => XT.acmpNo X.here hx rfl hd rfl hx' hy' (by simp [XT.acmp, q]) k
  · exact (hT q).of fun _ k => XT.acmpYes X.here hx rfl rfl hd rfl hx' hy' (by simp [XT.acmp, q]) ho hp k
/-- what a body owes at its end: it returned v, Q holds of it, the heap and the places written, within C cells and N slots -/
abbrev Fin (s : State) (C N : Nat) (Q : Option Value → Heap → List Loc → Prop) : State → Outcome → Prop := fun s₂ o => ∃ v L, o = .returned v ∧ Q v s₂.heap L ∧ FrameEnd s o s₂ L C N
variable {C N : Nat} {Q : Option Value → Heap → List Loc → Prop}
theorem g_ret (X : Stand p l e R s m args below meth c T locs cells slots) (hx : p.tables.exec = Jvm.exec) {w : Value} {t : FieldType} {i : Instr} (hret : meth.sig.returnType = some t) (hk : meth.locks = false) (hn : narrow t w = w)
    (hi : (i = .ireturn ∧ (t = .int ∨ t = .boolean ∨ t = .byte ∨ t = .char ∨ t = .short) ∧ ∃ z, w = .int z) ∨ (i = .lreturn ∧ t = .long ∧ ∃ z, w = .long z) ∨ (i = .dreturn ∧ t = .double ∧ ∃ z, w = .double z) ∨ (i = .freturn ∧ t = .float ∧ ∃ z, w = .float z) ∨ (i = .areturn ∧ t.isReference = true ∧ w.isRef = true))
    (hd : decode c.code pc = .ok (i, 1)) (hc : cells ≤ C) (hs : slots ≤ N) (hQ : Q (some w) T.heap locs) : Goes p.tables e below (T.setTop (mkF m pc Ls (w :: st))) (Fin s C N Q) := by
  obtain ⟨fs, hr, hrun, hended, hW, hsame⟩ := X.leave (v := some w) (fun h => by rw [hret] at h; cases h) hk
  exact ⟨_, _, retOut X hx hret hn hi hd hr, hrun, hended, _, _, rfl, hQ, ⟨_, rfl⟩, hW, hsame.mono hc hs⟩
theorem g_retI (X : Stand p l e R s m args below meth c T locs cells slots) (hx : p.tables.exec = Jvm.exec) {z : Int32} (hret : meth.sig.returnType = some .int) (hk : meth.locks = false) (hd : decode c.code pc = .ok (.ireturn, 1)) (hc : cells ≤ C) (hs : slots ≤ N) (hQ : Q (some (.int z)) T.heap locs) :
    Goes p.tables e below (T.setTop (mkF m pc Ls (.int z :: st))) (Fin s C N Q) := g_ret X hx hret hk rfl (Or.inl ⟨rfl, Or.inl rfl, _, rfl⟩) hd hc hs hQ
theorem g_retL (X : Stand p l e R s m args below meth c T locs cells slots) (hx : p.tables.exec = Jvm.exec) {z : Int64} (hret : meth.sig.returnType = some .long) (hk : meth.locks = false) (hd : decode c.code pc = .ok (.lreturn, 1)) (hc : cells ≤ C) (hs : slots ≤ N) (hQ : Q (some (.long z)) T.heap locs) :
    Goes p.tables e below (T.setTop (mkF m pc Ls (.long z :: st))) (Fin s C N Q) := g_ret X hx hret hk rfl (Or.inr (Or.inl ⟨rfl, rfl, _, rfl⟩)) hd hc hs hQ
theorem g_retA (X : Stand p l e R s m args below meth c T locs cells slots) (hx : p.tables.exec = Jvm.exec) {w : Value} {t : FieldType} (hret : meth.sig.returnType = some t) (hk : meth.locks = false) (ht : t.isReference = true) (hw : w.isRef = true) (hd : decode c.code pc = .ok (.areturn, 1)) (hc : cells ≤ C) (hs : slots ≤ N) (hQ : Q (some w) T.heap locs) :
    Goes p.tables e below (T.setTop (mkF m pc Ls (w :: st))) (Fin s C N Q) := g_ret X hx hret hk (by cases t <;> simp [FieldType.isReference] at ht <;> cases w <;> simp [Value.isRef] at hw <;> rfl) (Or.inr (Or.inr (Or.inr (Or.inr ⟨rfl, ht, hw⟩)))) hd hc hs hQ
theorem g_retZ (X : Stand p l e R s m args below meth c T locs cells slots) (hx : p.tables.exec = Jvm.exec) {z : Int32} (hz : z = 0 ∨ z = 1) (hret : meth.sig.returnType = some .boolean) (hk : meth.locks = false) (hd : decode c.code pc = .ok (.ireturn, 1)) (hc : cells ≤ C) (hs : slots ≤ N) (hQ : Q (some (.int z)) T.heap locs) :
    Goes p.tables e below (T.setTop (mkF m pc Ls (.int z :: st))) (Fin s C N Q) := g_ret X hx hret hk (by rcases hz with rfl | rfl <;> rfl) (Or.inl ⟨rfl, Or.inr (Or.inl rfl), _, rfl⟩) hd hc hs hQ
theorem g_retB (X : Stand p l e R s m args below meth c T locs cells slots) (hx : p.tables.exec = Jvm.exec) {z : Int32} (hz : z.toInt8.toInt32 = z) (hret : meth.sig.returnType = some .byte) (hk : meth.locks = false) (hd : decode c.code pc = .ok (.ireturn, 1)) (hc : cells ≤ C) (hs : slots ≤ N) (hQ : Q (some (.int z)) T.heap locs) :
    Goes p.tables e below (T.setTop (mkF m pc Ls (.int z :: st))) (Fin s C N Q) := g_ret X hx hret hk (by show Value.int z.toInt8.toInt32 = _; rw [hz]) (Or.inl ⟨rfl, Or.inr (Or.inr (Or.inl rfl)), _, rfl⟩) hd hc hs hQ
theorem g_ret0 (X : Stand p l e R s m args below meth c T locs cells slots) (hx : p.tables.exec = Jvm.exec) (hret : meth.sig.returnType = none) (hk : meth.locks = false) (hd : decode c.code pc = .ok (.return_, 1)) (hc : cells ≤ C) (hs : slots ≤ N) (hQ : Q none T.heap locs) :
    Goes p.tables e below (T.setTop (mkF m pc Ls [])) (Fin s C N Q) := by
  obtain ⟨fs, hr, hrun, hended, hW, hsame⟩ := X.leave (v := none) (fun _ => rfl) hk
  exact ⟨_, _, X.returnOut hx hret hd hr, hrun, hended, _, _, rfl, hQ, ⟨_, rfl⟩, hW, hsame.mono hc hs⟩
/-- the contract of a body, at these arguments and this heap -/
def Con (l : Launch) (Z : State) (y : MethodName) (bytes : ByteArray) (maxL : Nat) (ret : Option FieldType) (ws : List Jvm.Cond) (rm : Room) (C N : Nat) (as' : Array Value) (h : Heap) (Q : Option Value → Heap → List Loc → Prop) : Prop :=
  MetFree l y (head1 (Jvm.Cond.code y bytes maxL ret :: ws) rm) (fun a U => a = as' ∧ Z.Warmed39 U.vm ∧ U.heap = h) (fun _ _ _ _ _ => True) (fun _ U o U' => ∃ v L, o = .returned v ∧ Q v U'.heap L ∧ FrameEnd U o U' L C N)
theorem Con.body {y : MethodName} {bytes : ByteArray} {maxL : Nat} {ret : Option FieldType} {ws : List Jvm.Cond} {rm : Room} {as' : Array Value} (hp : plainFor y = true)
    (body : ∀ (p : Program) (e : Env) (s : State) (m : MethodId) (below : List Frame) (meth : Method) (c : Code) (T : State), p.tables.exec = Jvm.exec → c.code = bytes → c.maxLocals = maxL → s.vm.findClass y.cls = some m.cls → meth.name = y.name → Z.Warmed39 s.vm → meth.sig.returnType = ret → meth.locks = false →
      Stand p l e rm s m as' below meth c T [] 0 0 → T.heap = h → Goes p.tables e below (T.setTop (entryFrame m as' maxL)) (Fin s C N Q)) : Con l Z y bytes maxL ret ws rm C N as' h Q := by
  refine MetFree.of_bodySF hp hisR ?_
  intro p e s m args below meth c s₁ Bd hml hP hK
  obtain ⟨rfl, hZ, hh⟩ := hP
  exact body p e s m below meth c s₁ Bd.exec Bd.bytes hml (findClass_of_methodNamed Bd.named) (name_of_methodNamed Bd.named Bd.method).1 hZ Bd.returns (BodyLoose.notSynchronized Bd) (Stand.of_body Bd) (by rw [← hh, Bd.state]; rfl)
variable {y : MethodName} {bytes : ByteArray} {maxL : Nat} {ret : Option FieldType} {rm : Room} {as' : Array Value} {own : String} {index W : Nat} {argsL : List Value}
/-- a static call by the callee's contract -/
theorem g_callS (X : Stand p l e R s m args below meth c T locs cells slots) (hx : p.tables.exec = Jvm.exec) (hZ : Z.Warmed39 s.vm) (hown : s.vm.findClass own = some m.cls) (hml : Ls.size = c.maxLocals) (eT : T.heap = h)
    (wl : (Jvm.Cond.methodLink own index y).before a0 Z = true) (wt : (Jvm.Cond.static y).before a0 Z = true) (wz : (Jvm.Cond.initialized y.cls).before a0 Z = true) (wc : (Jvm.Cond.code y bytes maxL ret).before a0 Z = true)
    (hM : Con l Z y bytes maxL ret [] rm rm.cells rm.slots as' h Q) (argsL : List Value) (has : argsL.toArray = as') {S : List Value} (st : List Value) (hS : S = argsL.reverse ++ st) (hlen : ∀ sig, parseMethodDescriptor y.desc = some sig → argsL.length = sig.parameters.length)
    (hd : decode c.code pc = .ok (.invokestatic index, 3)) (hy : y.cls ≠ "java/lang/invoke/MethodHandle" ∧ y.cls ≠ "java/lang/invoke/VarHandle") (W : Nat) (hf : rm.frames + 1 ≤ R.frames) (hl : W + (maxL + 11) + rm.locals ≤ R.locals) (hW : (st.map fun v => v.category).sum ≤ W) (hc : cells + rm.cells ≤ R.cells) (hs : slots + rm.slots ≤ R.slots)
    (k : ∀ v T' L, Stand p l e R s m args below meth c T' (locs ++ L) (cells + rm.cells) (slots + rm.slots) → Q v T'.heap L → Goes p.tables e below (T'.setTop (mkF m (pc + 3) Ls (v.toList ++ st))) P) :
    Goes p.tables e below (T.setTop (mkF m pc Ls S)) P := by
  subst hS
  obtain ⟨v, vm₁, ⟨T', L', k', n'⟩, -, X', ⟨L, hQ, e1, e2, e3⟩, st'⟩ := Jvm.LawKit.callS X hx (y := y) hown (mvT hZ wl) (mvT hZ wt) (mvT hZ wz) (mvT hZ wc) hy (backOf (W := W) hM hZ wc wz hf hl) (g := mkF m pc Ls (argsL.reverse ++ st)) rfl hml (argsL := argsL) (rest := st) hlen rfl (by show 2 * 0 + _ ≤ _; omega) hd (fun _ _ => ⟨has, eT, hc, hs⟩)
  dsimp only [Pt.U, Pt.locs, Pt.cells, Pt.slots] at X' e1 e2 e3 st' hQ
  subst e1 e2 e3
  exact (k v T' L X' hQ).of st'
/-- a constructor by its contract -/
theorem g_callI (X : Stand p l e R s m args below meth c T locs cells slots) (hx : p.tables.exec = Jvm.exec) (hZ : Z.Warmed39 s.vm) (hown : s.vm.findClass own = some m.cls) (hml : Ls.size = c.maxLocals) (eT : T.heap = h) (hn : y.name = "<init>")
    (wl : (Jvm.Cond.methodLink own index y).before a0 Z = true) (wt : (Jvm.Cond.instanceMethod y).before a0 Z = true) (wz : (Jvm.Cond.initialized y.cls).before a0 Z = true) (wc : (Jvm.Cond.code y bytes maxL none).before a0 Z = true)
    (hM : Con l Z y bytes maxL none [] rm rm.cells rm.slots as' h Q) (a : Addr) (argsL : List Value) (has : (.ref a :: argsL).toArray = as') {S : List Value} (st : List Value) (hS : S = argsL.reverse ++ .ref a :: st) (hlen : ∀ sig, parseMethodDescriptor y.desc = some sig → argsL.length = sig.parameters.length)
    (hd : decode c.code pc = .ok (.invokespecial index, 3)) (hy : y.cls ≠ "java/lang/invoke/MethodHandle" ∧ y.cls ≠ "java/lang/invoke/VarHandle") (W : Nat) (hf : rm.frames + 1 ≤ R.frames) (hl : W + (maxL + 11) + rm.locals ≤ R.locals) (hW : (st.map fun v => v.category).sum ≤ W) (hc : cells + rm.cells ≤ R.cells) (hs : slots + rm.slots ≤ R.slots)
    (k : ∀ v T' L, Stand p l e R s m args below meth c T' (locs ++ L) (cells + rm.cells) (slots + rm.slots) → Q v T'.heap L → Goes p.tables e below (T'.setTop (mkF m (pc + 3) Ls (v.toList ++ st))) P) :
    Goes p.tables e below (T.setTop (mkF m pc Ls S)) P := by
  subst hS
  obtain ⟨v, vm₁, ⟨T', L', k', n'⟩, -, X', ⟨L, hQ, e1, e2, e3⟩, st'⟩ := X.specialBack hx (y := y) hn hown (mvT hZ wl) (mvT hZ wt) (mvT hZ wc) hy (backOf (W := W) hM hZ wc wz hf hl) (g := mkF m pc Ls (argsL.reverse ++ .ref a :: st)) rfl hml (Steps.refl _) (a := a) (argsL := argsL) (rest := st) hlen rfl (by show 2 * 0 + _ ≤ _; omega) hd (fun _ _ => ⟨has, eT, hc, hs⟩)
  dsimp only [Pt.U, Pt.locs, Pt.cells, Pt.slots] at X' e1 e2 e3 st' hQ
  subst e1 e2 e3
  exact (k v T' L X' hQ).tr st'
/-- an instance method by its contract -/
theorem g_callV (X : Stand p l e R s m args below meth c T locs cells slots) (hx : p.tables.exec = Jvm.exec) (hZ : Z.Warmed39 s.vm) (hown : s.vm.findClass own = some m.cls) (hml : Ls.size = c.maxLocals) (eT : T.heap = h) {K : String}
    (wl : (Jvm.Cond.methodLink own index y).before a0 Z = true) (wd : (Jvm.Cond.declares y).before a0 Z = true) (wv : (Jvm.Cond.selects K y y).before a0 Z = true) (wt : (Jvm.Cond.instanceMethod y).before a0 Z = true) (wz : (Jvm.Cond.initialized y.cls).before a0 Z = true) (wc : (Jvm.Cond.code y bytes maxL ret).before a0 Z = true)
    {a : Addr} (E : Exa Z h a K) (hM : Con l Z y bytes maxL ret [] rm rm.cells rm.slots as' h Q) (argsL : List Value) (has : (.ref a :: argsL).toArray = as') {S : List Value} (st : List Value) (hS : S = argsL.reverse ++ .ref a :: st) (hlen : ∀ sig, parseMethodDescriptor y.desc = some sig → argsL.length = sig.parameters.length)
    (hd : decode c.code pc = .ok (.invokevirtual index, 3)) (hy : y.cls ≠ "java/lang/invoke/MethodHandle" ∧ y.cls ≠ "java/lang/invoke/VarHandle") (W : Nat) (hf : rm.frames + 1 ≤ R.frames) (hl : W + (maxL + 11) + rm.locals ≤ R.locals) (hW : (st.map fun v => v.category).sum ≤ W) (hc : cells + rm.cells ≤ R.cells) (hs : slots + rm.slots ≤ R.slots)
    (k : ∀ v T' L, Stand p l e R s m args below meth c T' (locs ++ L) (cells + rm.cells) (slots + rm.slots) → Q v T'.heap L → Goes p.tables e below (T'.setTop (mkF m (pc + 3) Ls (v.toList ++ st))) P) :
    Goes p.tables e below (T.setTop (mkF m pc Ls S)) P := by
  subst hS
  obtain ⟨cq, kq, qa, qb, qc⟩ := isOf hZ eT E
  obtain ⟨v, vm₁, ⟨T', L', k', n'⟩, -, X', ⟨L, hQ, e1, e2, e3⟩, st'⟩ := X.virtualBack hx (y := y) (z := y) hown (mvT hZ wl) (mvT hZ wd) (notFace_of_selects (args := #[]) (mvT hZ wv)) (mvT hZ wv) (mvT hZ wt) hy (backOf (W := W) hM hZ wc wz hf hl) qa qc (g := mkF m pc Ls (argsL.reverse ++ .ref a :: st)) rfl hml (Steps.refl _) (argsL := argsL) (rest := st) hlen rfl (by show 2 * 0 + _ ≤ _; omega) hd (fun _ _ => ⟨has, eT, hc, hs⟩)
  dsimp only [Pt.U, Pt.locs, Pt.cells, Pt.slots] at X' e1 e2 e3 st' hQ
  subst e1 e2 e3
  exact (k v T' L X' hQ).tr st'
/-! objects -/
section Objects
variable {own K O R0 nm d host : String} {index kk : Nat} {a : Addr}
theorem g_new (X : Stand p l e R s m args below meth c T locs cells slots) (hx : p.tables.exec = Jvm.exec) (hZ : Z.Warmed39 s.vm) (hown : s.vm.findClass own = some m.cls) (eT : T.heap = h) (w : (Jvm.Cond.classLink own index K).before a0 Z = true) (wi : (Jvm.Cond.instantiable K kk).before a0 Z = true) (wz : (Jvm.Cond.initialized K).before a0 Z = true)
    (hd : decode c.code pc = .ok (.new index, 3)) (hc : cells + 1 ≤ R.cells) (hl : slots + kk ≤ R.slots)
    (k : ∀ T' h' a, a = h.size → Stand p l e R s m args below meth c T' locs (cells + 1) (slots + kk) → T'.heap = h' → Ext h h' → Exa Z h' a K → (∀ {O nm d : String} {ty : FieldType}, Laid Z a0 K O nm d → parseFieldDescriptor d = some ty → Fld Z h' a O nm d (defaultValue ty)) → Goes p.tables e below (T'.setTop (mkF m (pc + 3) Ls (.ref a :: st))) P) :
    Goes p.tables e below (T.setTop (mkF m pc Ls st)) P := by
  obtain ⟨T', h', X', e', E, A, D, -, st'⟩ := newO X hx hZ hown w wi wz eT (g := mkF m pc Ls st) rfl hd hc hl
  exact (k T' h' _ rfl X' e' E A D).of st'
theorem g_init0 (X : Stand p l e R s m args below meth c T locs cells slots) (hx : p.tables.exec = Jvm.exec) (hZ : Z.Warmed39 s.vm) (hown : s.vm.findClass own = some m.cls) (hml : Ls.size = c.maxLocals) (eT : T.heap = h) (w1 : (Jvm.Cond.methodLink own index Lib.objectInit).before a0 Z = true) (w2 : (Jvm.Cond.instanceMethod Lib.objectInit).before a0 Z = true)
    (w3 : (Jvm.Cond.code Lib.objectInit ⟨#[0xb1]⟩ 1 none).before a0 Z = true) (hd : decode c.code pc = .ok (.invokespecial index, 3)) (W : Nat) (hf : 1 ≤ R.frames) (hW : (st.map fun v => v.category).sum ≤ W) (hl : W + 12 ≤ R.locals)
    (k : ∀ T', Stand p l e R s m args below meth c T' locs cells slots → T'.heap = h → Goes p.tables e below (T'.setTop (mkF m (pc + 3) Ls st)) P) : Goes p.tables e below (T.setTop (mkF m pc Ls (.ref a :: st))) P := by
  obtain ⟨T', X', e', st'⟩ := initO X hx hZ hown w1 w2 w3 eT (g := mkF m pc Ls (.ref a :: st)) rfl hml rfl hd hf (W := W) (by show 2 * 0 + _ ≤ _; omega) hl
  exact (k T' X' e').of st'
theorem g_getF (X : Stand p l e R s m args below meth c T locs cells slots) (hx : p.tables.exec = Jvm.exec) (hZ : Z.Warmed39 s.vm) (hown : s.vm.findClass own = some m.cls) (eT : T.heap = h) (w : (Jvm.Cond.fieldLink own index R0 nm d).before a0 Z = true ∨ (Jvm.Cond.fieldLinkNest own index R0 nm d host).before a0 Z = true) (via : Via Z R0 O nm d)
    {v : Value} (F : Fld Z h a O nm d v) (hd : decode c.code pc = .ok (.getfield index, 3))
    (k : ∀ T', Stand p l e R s m args below meth c T' locs cells slots → T'.heap = h → Goes p.tables e below (T'.setTop (mkF m (pc + 3) Ls (v :: st))) P) : Goes p.tables e below (T.setTop (mkF m pc Ls (.ref a :: st))) P := by
  obtain ⟨T', X', e', st'⟩ := getF X hx hZ hown w via eT F (g := mkF m pc Ls (.ref a :: st)) rfl rfl hd
  exact (k T' X' e').of st'
theorem g_getS (X : Stand p l e R s m args below meth c T locs cells slots) (hx : p.tables.exec = Jvm.exec) (hZ : Z.Warmed39 s.vm) (hown : s.vm.findClass own = some m.cls) (eT : T.heap = h) (w : (Jvm.Cond.fieldLink own index O nm d).before a0 Z = true ∨ (Jvm.Cond.fieldLinkNest own index O nm d host).before a0 Z = true)
    {v : Value} (F : Sta Z h O nm d v) (hd : decode c.code pc = .ok (.getstatic index, 3))
    (k : ∀ T', Stand p l e R s m args below meth c T' locs cells slots → T'.heap = h → Goes p.tables e below (T'.setTop (mkF m (pc + 3) Ls (v :: st))) P) : Goes p.tables e below (T.setTop (mkF m pc Ls st)) P := by
  obtain ⟨T', X', e', st'⟩ := getS2 X hx hZ hown w Via.refl eT F (g := mkF m pc Ls st) rfl hd
  exact (k T' X' e').of st'
/-- a field's store; v': what the field then holds -/
theorem g_putF (X : Stand p l e R s m args below meth c T locs cells slots) (hx : p.tables.exec = Jvm.exec) (hZ : Z.Warmed39 s.vm) (hown : s.vm.findClass own = some m.cls) (eT : T.heap = h) (w : (Jvm.Cond.fieldLink own index R0 nm d).before a0 Z = true) (via : Via Z R0 O nm d)
    {v v' old : Value} (F : Fld Z h a O nm d old) (E : Exa Z h a K) (L : (Jvm.Cond.lays K O nm d).before a0 Z = true ∨ ((Jvm.Cond.laysFinal K O nm d).before a0 Z = true ∧ own = O ∧ meth.name = "<init>")) (wi : (Jvm.Cond.instantiable K kk).before a0 Z = true) {ty : FieldType} (hty : parseFieldDescriptor d = some ty) (hn : narrow ty v = v') (hf : fits ty v' = true)
    (hd : decode c.code pc = .ok (.putfield index, 3))
    (k : ∀ T' h', Stand p l e R s m args below meth c T' (locs ++ [⟨a, Jvm.RoadKit.slotOf Z O nm d⟩]) cells slots → T'.heap = h' → Wr h h' a (Jvm.RoadKit.slotOf Z O nm d) v' → Goes p.tables e below (T'.setTop (mkF m (pc + 3) Ls st)) P) : Goes p.tables e below (T.setTop (mkF m pc Ls (v :: .ref a :: st))) P := by
  obtain ⟨T', h', X', e', W', st'⟩ := putFN X hx hZ hown w via eT F E L wi hty hn hf (g := mkF m pc Ls (v :: .ref a :: st)) rfl rfl hd
  exact (k T' h' X' e' W').of st'
end Objects
/-! arrays: the components as a list -/
def Ar (Z : State) (h : Heap) (a : Addr) (ty : FieldType) (vs : List Value) : Prop := ∃ c : Cell, Arr Z h a c ty ∧ c.slots.toList = vs ∧ vs.length < 2 ^ 31 ∧ ∀ v ∈ vs, fits ty v = true
section Arrays
variable {a b : Addr} {ty : FieldType} {vs : List Value} {h' : Heap} {ws : List Addr}
theorem Ar.lt (F : Ar Z h a ty vs) : a < h.size := by obtain ⟨c, A, -⟩ := F; exact A.lt
theorem Ar.ext (F : Ar Z h a ty vs) (E : Ext h h') : Ar Z h' a ty vs := by obtain ⟨c, A, r⟩ := F; exact ⟨c, A.ext E, r⟩
theorem Ar.other (F : Ar Z h b ty vs) {sl : Nat} {v : Value} (W : Wr h h' a sl v) (q : b ≠ a) : Ar Z h' b ty vs := by obtain ⟨c, A, r⟩ := F; exact ⟨c, A.other W q, r⟩
theorem Ar.keep (F : Ar Z h a ty vs) (K : Keep h h' ws) (q : a ∉ ws) : Ar Z h' a ty vs := by obtain ⟨c, A, r⟩ := F; exact ⟨c, ⟨K.2.1 a c A.1 q, A.2⟩, r⟩
theorem own_nat {j : Int32} {i : Nat} (hj : j.toInt = i) : j.toNatClampNeg = i ∧ ¬ j < 0 := by
  have q : ¬ j < 0 := fun q => by have := Int32.lt_iff_toInt_lt.mp q; rw [show (0 : Int32).toInt = 0 from rfl] at this; omega
  have e := nat_of q
  exact ⟨by omega, q⟩
theorem own_in {j : Int32} {i : Nat} (hj : j.toInt = i) {c : Cell} (hs : c.slots.toList = vs) (hi : i < vs.length) : ¬ (j < 0 ∨ c.slots.size ≤ j.toNatClampNeg) := by
  obtain ⟨e, q⟩ := own_nat hj
  rintro (r | r)
  · exact q r
  · rw [← Array.length_toList, hs] at r; omega
theorem own_at {j : Int32} {i : Nat} (hj : j.toInt = i) {c : Cell} (hs : c.slots.toList = vs) {v : Value} (hv : vs[i]? = some v) : c.slots[j.toNatClampNeg]? = some v := by
  rw [(own_nat hj).1, ← Array.getElem?_toList, hs]; exact hv
theorem own_lt {i : Nat} {v : Value} (hv : vs[i]? = some v) : i < vs.length := (List.getElem?_eq_some_iff.mp hv).1
theorem Ar.set {j : Nat} {v : Value} (F : Ar Z h a ty vs) (W : Wr h h' a j v) (hf : fits ty v = true) : Ar Z h' a ty (vs.set j v) := by
  obtain ⟨c, A, hs, hl, hv⟩ := F
  refine ⟨c.setSlot j v, A.same W, by rw [← hs]; simp [Cell.setSlot], by rw [List.length_set]; exact hl, fun w hw => ?_⟩
  rcases List.mem_or_eq_of_mem_set hw with q | q
  · exact hv w q
  · rw [q]; exact hf
theorem g_iaload (X : Stand p l e R s m args below meth c T locs cells slots) (hx : p.tables.exec = Jvm.exec) (hZ : Z.Warmed39 s.vm) (eT : T.heap = h) (A : Ar Z h a .int vs) {j : Int32} {i : Nat} {v : Value} (hj : j.toInt = i) (hv : vs[i]? = some v) (hd : decode c.code pc = .ok (.iaload, 1))
    (hr : Goes p.tables e below (T.setTop (mkF m (pc + 1) Ls (v :: st))) P) : Goes p.tables e below (T.setTop (mkF m pc Ls (.int j :: .ref a :: st))) P := by
  obtain ⟨cl, A, hs, hl, -⟩ := A
  exact hr.of fun _ k => X.iaload hx (by rw [eT]; exact A.1) (State.isArrayOf_alike hZ.alike A.2.1) A.2.2 (own_in hj hs (own_lt hv)) (own_at hj hs hv) (g := mkF m pc Ls (.int j :: .ref a :: st)) rfl rfl hd _ k
theorem g_laload (X : Stand p l e R s m args below meth c T locs cells slots) (hx : p.tables.exec = Jvm.exec) (hZ : Z.Warmed39 s.vm) (eT : T.heap = h) (A : Ar Z h a .long vs) {j : Int32} {i : Nat} {v : Value} (hj : j.toInt = i) (hv : vs[i]? = some v) (hd : decode c.code pc = .ok (.laload, 1))
    (hr : Goes p.tables e below (T.setTop (mkF m (pc + 1) Ls (v :: st))) P) : Goes p.tables e below (T.setTop (mkF m pc Ls (.int j :: .ref a :: st))) P := by
  obtain ⟨cl, A, hs, hl, -⟩ := A
  exact hr.of fun _ k => X.laload hx (by rw [eT]; exact A.1) (State.isArrayOf_alike hZ.alike A.2.1) A.2.2 (own_in hj hs (own_lt hv)) (own_at hj hs hv) (g := mkF m pc Ls (.int j :: .ref a :: st)) rfl rfl hd _ k
theorem g_caload (X : Stand p l e R s m args below meth c T locs cells slots) (hx : p.tables.exec = Jvm.exec) (hZ : Z.Warmed39 s.vm) (eT : T.heap = h) (A : Ar Z h a .char vs) {j : Int32} {i : Nat} {v : Value} (hj : j.toInt = i) (hv : vs[i]? = some v) (hd : decode c.code pc = .ok (.caload, 1))
    (hr : Goes p.tables e below (T.setTop (mkF m (pc + 1) Ls (v :: st))) P) : Goes p.tables e below (T.setTop (mkF m pc Ls (.int j :: .ref a :: st))) P := by
  obtain ⟨cl, A, hs, hl, -⟩ := A
  exact hr.of fun _ k => X.caload hx (by rw [eT]; exact A.1) (State.isArrayOf_alike hZ.alike A.2.1) A.2.2 (own_in hj hs (own_lt hv)) (own_at hj hs hv) (g := mkF m pc Ls (.int j :: .ref a :: st)) rfl rfl hd _ k
theorem g_saload (X : Stand p l e R s m args below meth c T locs cells slots) (hx : p.tables.exec = Jvm.exec) (hZ : Z.Warmed39 s.vm) (eT : T.heap = h) (A : Ar Z h a .short vs) {j : Int32} {i : Nat} {v : Value} (hj : j.toInt = i) (hv : vs[i]? = some v) (hd : decode c.code pc = .ok (.saload, 1))
    (hr : Goes p.tables e below (T.setTop (mkF m (pc + 1) Ls (v :: st))) P) : Goes p.tables e below (T.setTop (mkF m pc Ls (.int j :: .ref a :: st))) P := by
  obtain ⟨cl, A, hs, hl, -⟩ := A
  exact hr.of fun _ k => X.saload hx (by rw [eT]; exact A.1) (State.isArrayOf_alike hZ.alike A.2.1) A.2.2 (own_in hj hs (own_lt hv)) (own_at hj hs hv) (g := mkF m pc Ls (.int j :: .ref a :: st)) rfl rfl hd _ k
theorem g_baload (X : Stand p l e R s m args below meth c T locs cells slots) (hx : p.tables.exec = Jvm.exec) (hZ : Z.Warmed39 s.vm) (eT : T.heap = h) (A : Ar Z h a .byte vs) {j : Int32} {i : Nat} {v : Value} (hj : j.toInt = i) (hv : vs[i]? = some v) (hd : decode c.code pc = .ok (.baload, 1))
    (hr : Goes p.tables e below (T.setTop (mkF m (pc + 1) Ls (v :: st))) P) : Goes p.tables e below (T.setTop (mkF m pc Ls (.int j :: .ref a :: st))) P := by
  obtain ⟨cl, A, hs, hl, -⟩ := A
  exact hr.of fun _ k => X.baloadBytes hx (by rw [eT]; exact A.1) (State.isArrayOf_alike hZ.alike A.2.1) A.2.2 (own_in hj hs (own_lt hv)) (own_at hj hs hv) (g := mkF m pc Ls (.int j :: .ref a :: st)) rfl rfl hd _ k
theorem g_zaload (X : Stand p l e R s m args below meth c T locs cells slots) (hx : p.tables.exec = Jvm.exec) (hZ : Z.Warmed39 s.vm) (eT : T.heap = h) (A : Ar Z h a .boolean vs) {j : Int32} {i : Nat} {v : Value} (hj : j.toInt = i) (hv : vs[i]? = some v) (hd : decode c.code pc = .ok (.baload, 1))
    (hr : Goes p.tables e below (T.setTop (mkF m (pc + 1) Ls (v :: st))) P) : Goes p.tables e below (T.setTop (mkF m pc Ls (.int j :: .ref a :: st))) P := by
  obtain ⟨cl, A, hs, hl, -⟩ := A
  exact hr.of fun _ k => X.baloadBooleans hx (by rw [eT]; exact A.1) (State.isArrayOf_alike hZ.alike A.2.1) A.2.2 (own_in hj hs (own_lt hv)) (own_at hj hs hv) (g := mkF m pc Ls (.int j :: .ref a :: st)) rfl rfl hd _ k
theorem g_aaload (X : Stand p l e R s m args below meth c T locs cells slots) (hx : p.tables.exec = Jvm.exec) (hZ : Z.Warmed39 s.vm) (eT : T.heap = h) (A : Ar Z h a ty vs) (hty : ty.isReference = true) {j : Int32} {i : Nat} {v : Value} (hj : j.toInt = i) (hv : vs[i]? = some v) (hd : decode c.code pc = .ok (.aaload, 1))
    (hr : Goes p.tables e below (T.setTop (mkF m (pc + 1) Ls (v :: st))) P) : Goes p.tables e below (T.setTop (mkF m pc Ls (.int j :: .ref a :: st))) P := by
  obtain ⟨cl, A, hs, hl, -⟩ := A
  exact hr.of fun _ k => X.aaload hx (by rw [eT]; exact A.1) (State.isArrayOf_alike hZ.alike A.2.1) hty A.2.2 (own_in hj hs (own_lt hv)) (own_at hj hs hv) (g := mkF m pc Ls (.int j :: .ref a :: st)) rfl rfl hd _ k
theorem g_alen (X : Stand p l e R s m args below meth c T locs cells slots) (hx : p.tables.exec = Jvm.exec) (hZ : Z.Warmed39 s.vm) (eT : T.heap = h) (A : Ar Z h a ty vs) (z : Int32) (hz : z.toInt = vs.length) (hd : decode c.code pc = .ok (.arraylength, 1))
    (hr : Goes p.tables e below (T.setTop (mkF m (pc + 1) Ls (.int z :: st))) P) : Goes p.tables e below (T.setTop (mkF m pc Ls (.ref a :: st))) P := by
  obtain ⟨cl, A, hs, hl, -⟩ := A
  have q : cl.slots.size.toInt32 = z := by
    have e1 : cl.slots.size = vs.length := by rw [← hs, Array.length_toList]
    exact Int32.toInt_inj.mp (by rw [len_toInt (by rw [e1]; exact hl), hz, e1])
  subst q
  exact hr.of fun _ k => X.arraylength hx (cell := cl) (by rw [eT]; exact A.1) (State.isArrayOf_alike hZ.alike A.2.1) (g := mkF m pc Ls (.ref a :: st)) rfl (rest := st) rfl hd _ k
theorem g_newarr (X : Stand p l e R s m args below meth c T locs cells slots) (hx : p.tables.exec = Jvm.exec) (hZ : Z.Warmed39 s.vm) (eT : T.heap = h) {aty : ArrayType} (w : (Jvm.Cond.arrayClass (newarray.typeOf aty)).before a0 Z = true) (hd : decode c.code pc = .ok (.newarray aty, 2)) {z : Int32} {n : Nat} (hz : z.toInt = n) (cap : Nat) (hcap : n ≤ cap) (hb : cap * 8 ≤ 536870912) (hc : cells + 1 ≤ R.cells) (hl : slots + cap ≤ R.slots) {ad : String} (had : "[" ++ (newarray.typeOf aty).toString = ad) (hfit : fits (newarray.typeOf aty) (defaultValue (newarray.typeOf aty)) = true)
    (k : ∀ T' h' a, a = h.size → Stand p l e R s m args below meth c T' locs (cells + 1) (slots + cap) → T'.heap = h' → Ext h h' → Ar Z h' a (newarray.typeOf aty) (List.replicate n (defaultValue (newarray.typeOf aty))) → Exa Z h' a ad → Goes p.tables e below (T'.setTop (mkF m (pc + 2) Ls (.ref a :: st))) P) :
    Goes p.tables e below (T.setTop (mkF m pc Ls (.int z :: st))) P := by
  obtain ⟨e1, q⟩ := own_nat hz
  obtain ⟨T', h', cA, X', e', E, A, F, st'⟩ := newPE X hx hZ w eT (g := mkF m pc Ls (.int z :: st)) rfl hd rfl q (cap := cap) (by rw [e1]; exact hcap) hb hc hl had
  refine (k T' h' _ rfl X' e' E ⟨_, A, ?_, ?_, ?_⟩ F).of st'
  · simp [newA, e1]
  · rw [List.length_replicate]; have := rng32 z; omega
  · intro v hv; rw [(List.mem_replicate.mp hv).2]; exact hfit
theorem g_iastore (X : Stand p l e R s m args below meth c T locs cells slots) (hx : p.tables.exec = Jvm.exec) (hZ : Z.Warmed39 s.vm) (eT : T.heap = h) (A : Ar Z h a .int vs) {j : Int32} {x : Int32} (i : Nat) (hj : j.toInt = i) (hi : i < vs.length) (hd : decode c.code pc = .ok (.iastore, 1))
    (k : ∀ T' h', Stand p l e R s m args below meth c T' (locs ++ [⟨a, i⟩]) cells slots → T'.heap = h' → Wr h h' a i (.int x) → Ar Z h' a .int (vs.set i (.int x)) → Goes p.tables e below (T'.setTop (mkF m (pc + 1) Ls st)) P) : Goes p.tables e below (T.setTop (mkF m pc Ls (.int x :: .int j :: .ref a :: st))) P := by
  have A' := A
  obtain ⟨cl, A, hs, hl, -⟩ := A
  obtain ⟨T', h', X', e', W', st'⟩ := stI X hx hZ eT A (own_in hj hs hi) (g := mkF m pc Ls (.int x :: .int j :: .ref a :: st)) rfl rfl hd
  rw [(own_nat hj).1] at X' W'
  exact (k T' h' X' e' W' (A'.set W' rfl)).of st'
theorem g_lastore (X : Stand p l e R s m args below meth c T locs cells slots) (hx : p.tables.exec = Jvm.exec) (hZ : Z.Warmed39 s.vm) (eT : T.heap = h) (A : Ar Z h a .long vs) {j : Int32} {x : Int64} (i : Nat) (hj : j.toInt = i) (hi : i < vs.length) (hd : decode c.code pc = .ok (.lastore, 1))
    (k : ∀ T' h', Stand p l e R s m args below meth c T' (locs ++ [⟨a, i⟩]) cells slots → T'.heap = h' → Wr h h' a i (.long x) → Ar Z h' a .long (vs.set i (.long x)) → Goes p.tables e below (T'.setTop (mkF m (pc + 1) Ls st)) P) : Goes p.tables e below (T.setTop (mkF m pc Ls (.long x :: .int j :: .ref a :: st))) P := by
  have A' := A
  obtain ⟨cl, A, hs, hl, -⟩ := A
  obtain ⟨T', h', X', e', W', st'⟩ := stJ X hx hZ eT A (own_in hj hs hi) (g := mkF m pc Ls (.long x :: .int j :: .ref a :: st)) rfl rfl hd
  rw [(own_nat hj).1] at X' W'
  exact (k T' h' X' e' W' (A'.set W' rfl)).of st'
theorem g_castore (X : Stand p l e R s m args below meth c T locs cells slots) (hx : p.tables.exec = Jvm.exec) (hZ : Z.Warmed39 s.vm) (eT : T.heap = h) (A : Ar Z h a .char vs) {j x : Int32} (i : Nat) (hj : j.toInt = i) (hi : i < vs.length) (x' : Int32) (hn : nar .char x = x') (hd : decode c.code pc = .ok (.castore, 1))
    (k : ∀ T' h', Stand p l e R s m args below meth c T' (locs ++ [⟨a, i⟩]) cells slots → T'.heap = h' → Wr h h' a i (.int x') → Ar Z h' a .char (vs.set i (.int x')) → Goes p.tables e below (T'.setTop (mkF m (pc + 1) Ls st)) P) : Goes p.tables e below (T.setTop (mkF m pc Ls (.int x :: .int j :: .ref a :: st))) P := by
  have A' := A
  obtain ⟨cl, A, hs, hl, -⟩ := A
  obtain ⟨T', h', X', e', W', st'⟩ := stC X hx hZ eT A (own_in hj hs hi) (g := mkF m pc Ls (.int x :: .int j :: .ref a :: st)) rfl rfl hd
  rw [(own_nat hj).1, hn] at W'
  rw [(own_nat hj).1] at X'
  exact (k T' h' X' e' W' (A'.set W' (by rw [← hn]; exact fits_nar_char x))).of st'
theorem g_bastore (X : Stand p l e R s m args below meth c T locs cells slots) (hx : p.tables.exec = Jvm.exec) (hZ : Z.Warmed39 s.vm) (eT : T.heap = h) (A : Ar Z h a .byte vs) {j x : Int32} (i : Nat) (hj : j.toInt = i) (hi : i < vs.length) (x' : Int32) (hn : nar .byte x = x') (hd : decode c.code pc = .ok (.bastore, 1))
    (k : ∀ T' h', Stand p l e R s m args below meth c T' (locs ++ [⟨a, i⟩]) cells slots → T'.heap = h' → Wr h h' a i (.int x') → Ar Z h' a .byte (vs.set i (.int x')) → Goes p.tables e below (T'.setTop (mkF m (pc + 1) Ls st)) P) : Goes p.tables e below (T.setTop (mkF m pc Ls (.int x :: .int j :: .ref a :: st))) P := by
  have A' := A
  obtain ⟨cl, A, hs, hl, -⟩ := A
  obtain ⟨T', h', X', e', W', st'⟩ := stB X hx hZ eT A (own_in hj hs hi) (g := mkF m pc Ls (.int x :: .int j :: .ref a :: st)) rfl rfl hd
  rw [(own_nat hj).1, hn] at W'
  rw [(own_nat hj).1] at X'
  exact (k T' h' X' e' W' (A'.set W' (by rw [← hn]; exact fits_nar_byte x))).of st'
theorem g_zastore (X : Stand p l e R s m args below meth c T locs cells slots) (hx : p.tables.exec = Jvm.exec) (hZ : Z.Warmed39 s.vm) (eT : T.heap = h) (A : Ar Z h a .boolean vs) {j x : Int32} (i : Nat) (hj : j.toInt = i) (hi : i < vs.length) (x' : Int32) (hn : nar .boolean x = x') (hd : decode c.code pc = .ok (.bastore, 1))
    (k : ∀ T' h', Stand p l e R s m args below meth c T' (locs ++ [⟨a, i⟩]) cells slots → T'.heap = h' → Wr h h' a i (.int x') → Ar Z h' a .boolean (vs.set i (.int x')) → Goes p.tables e below (T'.setTop (mkF m (pc + 1) Ls st)) P) : Goes p.tables e below (T.setTop (mkF m pc Ls (.int x :: .int j :: .ref a :: st))) P := by
  have A' := A
  obtain ⟨cl, A, hs, hl, -⟩ := A
  obtain ⟨T', h', X', e', W', st'⟩ := stZ X hx hZ eT A (own_in hj hs hi) (g := mkF m pc Ls (.int x :: .int j :: .ref a :: st)) rfl rfl hd
  rw [(own_nat hj).1, hn] at W'
  rw [(own_nat hj).1] at X'
  exact (k T' h' X' e' W' (A'.set W' (by rw [← hn]; exact fits_nar_bool x))).of st'
theorem g_clone (X : Stand p l e R s m args below meth c T locs cells slots) (hx : p.tables.exec = Jvm.exec) (hZ : Z.Warmed39 s.vm) {own ad : String} {index : Nat} (hown : s.vm.findClass own = some m.cls) (hml : Ls.size = c.maxLocals) (eT : T.heap = h)
    (w1 : (Jvm.Cond.methodLink own index ⟨ad, "clone", "()Ljava/lang/Object;"⟩).before a0 Z = true) (w2 : (Jvm.Cond.sameMethod ad "java/lang/Object" "clone" "()Ljava/lang/Object;").before a0 Z = true) (w3 : (Jvm.Cond.native ⟨"java/lang/Object", "clone", "()Ljava/lang/Object;"⟩).before a0 Z = true)
    (w4 : (Jvm.Cond.instanceMethod ⟨"java/lang/Object", "clone", "()Ljava/lang/Object;"⟩).before a0 Z = true) (w5 : (Jvm.Cond.selects ad ⟨ad, "clone", "()Ljava/lang/Object;"⟩ ⟨"java/lang/Object", "clone", "()Ljava/lang/Object;"⟩).before a0 Z = true) (w6 : (Jvm.Cond.castable ad "java/lang/Cloneable").before a0 Z = true)
    (A : Ar Z h a ty vs) (E : Exa Z h a ad) (hd : decode c.code pc = .ok (.invokevirtual index, 3)) (W cap : Nat) (hf : 1 ≤ R.frames) (hW : (st.map fun v => v.category).sum ≤ W) (hl : W + 14 ≤ R.locals) (hcap : vs.length ≤ cap) (hc : cells + 1 ≤ R.cells) (hsl : slots + cap ≤ R.slots)
    (k : ∀ T' h' b, b = h.size → Stand p l e R s m args below meth c T' locs (cells + 1) (slots + cap) → T'.heap = h' → Ext h h' → Ar Z h' b ty vs → Exa Z h' b ad → Goes p.tables e below (T'.setTop (mkF m (pc + 3) Ls (.ref b :: st))) P) :
    Goes p.tables e below (T.setTop (mkF m pc Ls (.ref a :: st))) P := by
  obtain ⟨cl, A, hs, hln, hft⟩ := A
  have hsz : cl.slots.size = vs.length := by rw [← hs, Array.length_toList]
  obtain ⟨T', h', X', e', Ex, A', E', st'⟩ := cloneA X hx hZ hown w1 w2 w3 w4 w5 w6 eT A E (fitC_of A (fun i hi v hv => hft v (by rw [← hs]; exact Array.mem_toList_iff.mpr (Array.mem_of_getElem? hv)))) (g := mkF m pc Ls (.ref a :: st)) rfl hml rfl hd hf (W := W) (cap := cap) (by show 2 * 0 + _ ≤ _; omega) hl (by rw [hsz]; exact hcap) hc hsl
  exact (k T' h' _ rfl X' e' Ex ⟨_, A', hs, hln, hft⟩ E').of st'
theorem g_cast (X : Stand p l e R s m args below meth c T locs cells slots) (hx : p.tables.exec = Jvm.exec) (hZ : Z.Warmed39 s.vm) {own K : String} {index : Nat} (hown : s.vm.findClass own = some m.cls) (eT : T.heap = h) (w : (Jvm.Cond.classLink own index K).before a0 Z = true) (F : Ins Z h a K true) (hd : decode c.code pc = .ok (.checkcast index, 3))
    (k : ∀ T', Stand p l e R s m args below meth c T' locs cells slots → T'.heap = h → Goes p.tables e below (T'.setTop (mkF m (pc + 3) Ls (.ref a :: st))) P) : Goes p.tables e below (T.setTop (mkF m pc Ls (.ref a :: st))) P := by
  obtain ⟨T', X', e', st'⟩ := castY X hx hZ hown w eT F (g := mkF m pc Ls (.ref a :: st)) rfl rfl hd
  exact (k T' X' e').of st'
theorem Ar.toV (F : Ar Z h a ty vs) (d : Value) : ∃ k, Arv Z h a k ty (Int32.ofNat vs.length) vs d := by
  obtain ⟨cl, A, hs, hl, hf⟩ := F
  have e1 : cl.slots.size = vs.length := by rw [← hs, Array.length_toList]
  obtain ⟨e2, q⟩ := own_nat (j := Int32.ofNat vs.length) (i := vs.length) (Int32.toInt_ofNat_of_lt (by omega))
  refine ⟨cl.cls, cl, A, rfl, by rw [e2, e1], q, fun i hi => ?_, fun i hi => ?_⟩
  · rw [← Array.getElem?_toList, hs, List.getD_eq_getElem?_getD, List.getElem?_eq_getElem (by omega)]; rfl
  · rw [List.getD_eq_getElem?_getD, List.getElem?_eq_getElem (by omega)]; exact hf _ (List.getElem_mem _)
theorem Ar.ofV {k : ClassId} {z : Int32} {d : Value} (F : Arv Z h a k ty z vs d) (hl : vs.length = z.toNatClampNeg) (hb : vs.length < 2 ^ 31) : Ar Z h a ty vs := by
  obtain ⟨cl, A, -, hs, -, H, G⟩ := F
  have e : cl.slots.toList = vs := by
    apply List.ext_getElem?
    intro i
    by_cases hi : i < cl.slots.size
    · rw [Array.getElem?_toList, H i hi, List.getD_eq_getElem?_getD, List.getElem?_eq_getElem (by omega)]; rfl
    · rw [List.getElem?_eq_none (by rw [Array.length_toList]; omega), List.getElem?_eq_none (by omega)]
  refine ⟨cl, A, e, hb, fun v hv => ?_⟩
  obtain ⟨i, hi, rfl⟩ := List.getElem_of_mem hv
  have q := G i (by omega)
  rwa [List.getD_eq_getElem?_getD, List.getElem?_eq_getElem hi] at q
theorem own_rangeTake (vs : List Value) (d : Value) (n : Nat) (hn : n ≤ vs.length) : (List.range n).map (fun i => vs.getD (0 + i) d) = vs.take n := by
  apply List.ext_getElem
  · simp; omega
  · intro i h1 h2
    simp at h1 h2
    simp [List.getElem?_eq_getElem (show i < vs.length by omega)]
theorem g_acopy (X : Stand p l e R s m args below meth c T locs cells slots) (hx : p.tables.exec = Jvm.exec) (hZ : Z.Warmed39 s.vm) {own : String} {index : Nat} (hown : s.vm.findClass own = some m.cls) (hml : Ls.size = c.maxLocals) (eT : T.heap = h)
    (w1 : (Jvm.Cond.methodLink own index Jvm.Stand.acN).before a0 Z = true) (w2 : (Jvm.Cond.native Jvm.Stand.acN).before a0 Z = true) (w3 : (Jvm.Cond.static Jvm.Stand.acN).before a0 Z = true) (w4 : (Jvm.Cond.initialized "java/lang/System").before a0 Z = true)
    {vd : List Value} (A : Ar Z h a ty vs) (B : Ar Z h b ty vd) (hp : refKind ty = false) {nn : Int32} {n : Nat} (hn : nn.toInt = n) (h1 : n ≤ vs.length) (h2 : n ≤ vd.length) {n0 : Nat} (N : Fr n0 locs) (ge : n0 ≤ b) (hd : decode c.code pc = .ok (.invokestatic index, 3))
    (W : Nat) (hf : 1 ≤ R.frames) (hW : (st.map fun v => v.category).sum ≤ W) (hlo : W + (nativeFrameWords "java/lang/System" "arraycopy" 5 + 11) ≤ R.locals)
    (k : ∀ T' h' L, Stand p l e R s m args below meth c T' L cells slots → T'.heap = h' → Fr n0 L → Keep h h' [b] → Ar Z h' b ty (vs.take n ++ vd.drop n) → Goes p.tables e below (T'.setTop (mkF m (pc + 3) Ls st)) P) :
    Goes p.tables e below (T.setTop (mkF m pc Ls (.int nn :: .int 0 :: .ref b :: .int 0 :: .ref a :: st))) P := by
  obtain ⟨k1, A1⟩ := A.toV .null
  obtain ⟨k2, B1⟩ := B.toV .null
  obtain ⟨en, qn⟩ := own_nat hn
  have lv : vs.length < 2 ^ 31 := by obtain ⟨_, _, _, q, _⟩ := A; exact q
  have ld : vd.length < 2 ^ 31 := by obtain ⟨_, _, _, q, _⟩ := B; exact q
  have ev : (Int32.ofNat vs.length).toNatClampNeg = vs.length := (own_nat (Int32.toInt_ofNat_of_lt (by omega))).1
  have ed : (Int32.ofNat vd.length).toNatClampNeg = vd.length := (own_nat (Int32.toInt_ofNat_of_lt (by omega))).1
  have e0 : (0 : Int32).toNatClampNeg = 0 := rfl
  obtain ⟨T', h', L, X', e', N', K', B', st'⟩ := cpA X hx hZ hown w1 w2 w3 w4 eT A1 B1 (sp := 0) (dp := 0) (nn := nn) (Or.inl ⟨rfl, hp⟩) (by decide) (by decide) qn (by rw [e0, en, ev]; omega) (by rw [e0, en, ed]; omega) rfl (by rw [e0, en]; omega) N ge (g := mkF m pc Ls (.int nn :: .int 0 :: .ref b :: .int 0 :: .ref a :: st)) rfl hml rfl hd hf (W := W) (by show 2 * 0 + _ ≤ _; omega) hlo
  rw [e0, en, own_rangeTake vs _ n h1, List.take_zero, List.nil_append, Nat.zero_add] at B'
  have hlen : (vs.take n ++ vd.drop n).length = vd.length := by rw [List.length_append, List.length_take, List.length_drop]; omega
  exact (k T' h' L X' e' N' K' (Ar.ofV B' (by rw [hlen, ed]) (by rw [hlen]; exact ld))).of st'
end Arrays
theorem own_nst {a : Addr} {K : String} (E : Exa Z h a K) : ∀ c : Cell, h[a]? = some c → c.vm.isStatics = false := fun c hc => by
  obtain ⟨cell, k, h1, -, -, h4, -⟩ := E
  cases h1.symm.trans hc
  exact h4
theorem own_stakeep {h' : Heap} {K n d : String} {v : Value} {ws : List Addr} (F : Sta Z h K n d v) (hK : Keep h h' ws) (q : ∀ x ∈ ws, ∀ c : Cell, h[x]? = some c → c.vm.isStatics = false) : Sta Z h' K n d v := by
  obtain ⟨cf, i, k, f, sa, cell, h1, h2, h3, h4, h5, h6, h7⟩ := F
  exact ⟨cf, i, k, f, sa, cell, h1, h2, h3, h4, hK.2.1 sa cell h5 (fun hm => by rw [q sa hm cell h5] at h6; cases h6), h6, h7⟩
/-! words on statics -/
section Words
variable {first : State} {o : Option Outcome} {idx : List Nat} {ta tb : Term}
theorem own_eqR {y : Addr} (h : (Jvm.Cond.eq ta tb).value args first o s idx = some true) (hb : tb.eval args first o idx s = some (.ref y)) : ta.eval args first o idx s = some (.ref y) := by
  obtain ⟨x, z, ha, hb', k1, k2⟩ := cmp_v (Or.inl h)
  cases hb.symm.trans hb'
  have e := gotT (eq_R ha hb k2.2 rfl) h
  rw [ha, e]
theorem own_eqI {y : Int32} (h : (Jvm.Cond.eq ta tb).value args first o s idx = some true) (hb : tb.eval args first o idx s = some (.int y)) : ta.eval args first o idx s = some (.int y) := by
  obtain ⟨x, z, ha, hb', k1, k2⟩ := cmp_v (Or.inl h)
  cases hb.symm.trans hb'
  obtain ⟨w, rfl⟩ := k2
  simp [Jvm.Cond.value, ha, hb] at h
  rw [ha, h]
end Words
end Walk
end Jvm.OwnW
namespace Jvm.Pilot.@@N@@
open Jvm Jvm.ClassFile Sem Op Lib Jvm.Free Jvm.Stand Jvm.LawKit Jvm.RoadKit Bundle Jvm.OwnW Jvm.Pilot.@@N@@.Jvm.D
theorem d5_0 : decode jdk_29_method_65_code 0 = .ok (.iload_n 0, 1) := by decide +kernel
theorem d5_1 : decode jdk_29_method_65_code 1 = .ok (.iload_n 1, 1) := by decide +kernel
theorem d5_2 : decode jdk_29_method_65_code 2 = .ok (.if_icmp .lt 7, 3) := by decide +kernel
theorem d5_5 : decode jdk_29_method_65_code 5 = .ok (.iload_n 0, 1) := by decide +kernel
theorem d5_6 : decode jdk_29_method_65_code 6 = .ok (.goto 4, 3) := by decide +kernel
theorem d5_9 : decode jdk_29_method_65_code 9 = .ok (.iload_n 1, 1) := by decide +kernel
theorem d5_10 : decode jdk_29_method_65_code 10 = .ok (.ireturn, 1) := by decide +kernel
theorem pd_5 : parseMethodDescriptor "(II)I" = some ⟨[.int, .int], some .int⟩ := by decide +kernel
theorem ef_5 (m : MethodId) (p0 : Int32) (p1 : Int32) : entryFrame m #[(.int p0), (.int p1)] 2 = mkF m 0 #[.val (.int p0), .val (.int p1)] [] := by first | (simp [entryFrame, mkF, argsToLocals, Value.category]; done) | rfl
def maxV (p0 : Int32) (p1 : Int32) : Int32 := (if p0 < p1 then p1 else p0)
set_option maxRecDepth 65536 in
set_option maxHeartbeats 40000000 in
theorem rmX (l : Launch) (Z : State) (a0 : Array Value) (hw : ∀ d ∈ tables_1, d.before a0 Z = true) (p0 : Int32) (p1 : Int32) (h0 : Heap)  :
    Con l Z (⟨"java/lang/Math", "max", "(II)I"⟩ : MethodName) jdk_29_method_65_code 2 (some .int) [] ({ frames := 0, cells := 0, slots := 0, locals := 0 } : Room) 0 0 #[(.int p0), (.int p1)] h0 (fun v h L => v = some (.int (maxV p0 p1)) ∧ h = h0 ∧ L = []) := by
  refine Con.body (Jvm.Free.JP.mathPlain rfl (by decide +kernel)) ?_
  intro p e s m below meth c T0 hx hby hml hown hnm hZ hret hk X0 e0
  refine Goes.cast (ef_5 m p0 p1) ?_
  show Goes p.tables e below (T0.setTop (mkF m 0 #[.val (.int p0), .val (.int p1)] [])) _
  refine g_iloadN X0 hx (hb hby d5_0) rfl ?_
  show Goes p.tables e below (T0.setTop (mkF m 1 #[.val (.int p0), .val (.int p1)] [(.int p0)])) _
  refine g_iloadN X0 hx (hb hby d5_1) rfl ?_
  show Goes p.tables e below (T0.setTop (mkF m 2 #[.val (.int p0), .val (.int p1)] [(.int p1), (.int p0)])) _
  refine g_icmp_lt X0 hx (hb hby d5_2) (by decide) (pc' := 9) (by decide) (fun c2 => ?_) (fun c2 => ?_)
  · skip
    show Goes p.tables e below (T0.setTop (mkF m 9 #[.val (.int p0), .val (.int p1)] [])) _
    refine g_iloadN X0 hx (hb hby d5_9) rfl ?_
    show Goes p.tables e below (T0.setTop (mkF m 10 #[.val (.int p0), .val (.int p1)] [(.int p1)])) _
    exact g_retI X0 hx hret hk (hb hby d5_10) (by decide) (by decide) ⟨by rw [maxV, if_pos c2], e0, rfl⟩
  · skip
    show Goes p.tables e below (T0.setTop (mkF m 5 #[.val (.int p0), .val (.int p1)] [])) _
    refine g_iloadN X0 hx (hb hby d5_5) rfl ?_
    show Goes p.tables e below (T0.setTop (mkF m 6 #[.val (.int p0), .val (.int p1)] [(.int p0)])) _
    refine g_goto X0 hx (hb hby d5_6) (by decide) (pc' := 10) (by decide) ?_
    show Goes p.tables e below (T0.setTop (mkF m 10 #[.val (.int p0), .val (.int p1)] [(.int p0)])) _
    exact g_retI X0 hx hret hk (hb hby d5_10) (by decide) (by decide) ⟨by rw [maxV, if_neg c2], e0, rfl⟩
theorem d2_0 : decode jdk_30_method_1_code 0 = .ok (.aload_n 0, 1) := by decide +kernel
theorem d2_1 : decode jdk_30_method_1_code 1 = .ok (.invokespecial 1, 3) := by decide +kernel
theorem d2_4 : decode jdk_30_method_1_code 4 = .ok (.return_, 1) := by decide +kernel
theorem pd_2 : parseMethodDescriptor "()V" = some ⟨[], none⟩ := by decide +kernel
theorem ef_2 (m : MethodId) (p0 : Addr) : entryFrame m #[(.ref p0)] 1 = mkF m 0 #[.val (.ref p0)] [] := by first | (simp [entryFrame, mkF, argsToLocals, Value.category]; done) | rfl
set_option maxRecDepth 65536 in
set_option maxHeartbeats 40000000 in
theorem rmRec (l : Launch) (Z : State) (a0 : Array Value) (hw : ∀ d ∈ tables_1, d.before a0 Z = true) (p0 : Addr) (h0 : Heap) (n0 : Nat) (Z0 : n0 ≤ h0.size)  :
    Con l Z (⟨"java/lang/Record", "<init>", "()V"⟩ : MethodName) jdk_30_method_1_code 1 none [] ({ frames := 1, cells := 0, slots := 0, locals := 12 } : Room) 0 0 #[(.ref p0)] h0 (fun v h L => v = none ∧ h = h0 ∧ L = []) := by
  refine Con.body (plainFor_of_name (by first | (simp [plainName, overriddenIn]; done) | decide +kernel)) ?_
  intro p e s m below meth c T0 hx hby hml hown hnm hZ hret hk X0 e0
  refine Goes.cast (ef_2 m p0) ?_
  have N0 := Fr.nil n0
  show Goes p.tables e below (T0.setTop (mkF m 0 #[.val (.ref p0)] [])) _
  refine g_aloadN X0 hx (hb hby d2_0) rfl rfl ?_
  show Goes p.tables e below (T0.setTop (mkF m 1 #[.val (.ref p0)] [(.ref p0)])) _
  refine g_init0 X0 hx hZ hown (by rw [hml]; rfl) e0 (hw _ (List.mem_of_getElem? (i := 12) rfl)) (hw _ (List.mem_of_getElem? (i := 13) rfl)) (hw _ (List.mem_of_getElem? (i := 14) rfl)) (hb hby d2_1) 0 (by decide) (by first | decide | exact Nat.le_refl _) (by first | decide | exact Nat.le_refl _) (fun T1 X1 e1 => ?_)
  show Goes p.tables e below (T1.setTop (mkF m 4 #[.val (.ref p0)] [])) _
  exact g_ret0 X1 hx hret hk (hb hby d2_4) (by decide) (by decide) ⟨rfl, e1, rfl⟩
theorem d1_0 : decode prog_48_method_1_code 0 = .ok (.aload_n 0, 1) := by decide +kernel
theorem d1_1 : decode prog_48_method_1_code 1 = .ok (.invokespecial 1, 3) := by decide +kernel
theorem d1_4 : decode prog_48_method_1_code 4 = .ok (.aload_n 0, 1) := by decide +kernel
theorem d1_5 : decode prog_48_method_1_code 5 = .ok (.iload_n 1, 1) := by decide +kernel
theorem d1_6 : decode prog_48_method_1_code 6 = .ok (.putfield 7, 3) := by decide +kernel
theorem d1_9 : decode prog_48_method_1_code 9 = .ok (.aload_n 0, 1) := by decide +kernel
theorem d1_10 : decode prog_48_method_1_code 10 = .ok (.iload_n 2, 1) := by decide +kernel
theorem d1_11 : decode prog_48_method_1_code 11 = .ok (.putfield 13, 3) := by decide +kernel
theorem d1_14 : decode prog_48_method_1_code 14 = .ok (.return_, 1) := by decide +kernel
theorem pd_1 : parseMethodDescriptor "(II)V" = some ⟨[.int, .int], none⟩ := by decide +kernel
theorem ef_1 (m : MethodId) (p0 : Addr) (p1 : Int32) (p2 : Int32) : entryFrame m #[(.ref p0), (.int p1), (.int p2)] 3 = mkF m 0 #[.val (.ref p0), .val (.int p1), .val (.int p2)] [] := by first | (simp [entryFrame, mkF, argsToLocals, Value.category]; done) | rfl
set_option maxRecDepth 65536 in
set_option maxHeartbeats 40000000 in
theorem rmIni (l : Launch) (Z : State) (a0 : Array Value) (hw : ∀ d ∈ tables_1, d.before a0 Z = true) (p0 : Addr) (p1 : Int32) (p2 : Int32) (h0 : Heap) (n0 : Nat) (Z0 : n0 ≤ h0.size) (FM : Fld Z h0 p0 "com/example/gatewarden/gatewarden/server/service/InterfaceVersion" "major" "I" (.int (0 : Int32))) (Fm : Fld Z h0 p0 "com/example/gatewarden/gatewarden/server/service/InterfaceVersion" "minor" "I" (.int (0 : Int32))) (E0 : Exa Z h0 p0 "com/example/gatewarden/gatewarden/server/service/InterfaceVersion") (ga : n0 ≤ p0) :
    Con l Z (⟨"com/example/gatewarden/gatewarden/server/service/InterfaceVersion", "<init>", "(II)V"⟩ : MethodName) prog_48_method_1_code 3 none [] ({ frames := 2, cells := 0, slots := 0, locals := 24 } : Room) 0 0 #[(.ref p0), (.int p1), (.int p2)] h0 (fun v h L => v = none ∧ Fr n0 L ∧ Keep h0 h [p0] ∧ Fld Z h p0 "com/example/gatewarden/gatewarden/server/service/InterfaceVersion" "major" "I" (.int p1) ∧ Fld Z h p0 "com/example/gatewarden/gatewarden/server/service/InterfaceVersion" "minor" "I" (.int p2)) := by
  refine Con.body (plainFor_of_name (by first | (simp [plainName, overriddenIn]; done) | decide +kernel)) ?_
  intro p e s m below meth c T0 hx hby hml hown hnm hZ hret hk X0 e0
  refine Goes.cast (ef_1 m p0 p1 p2) ?_
  have N0 := Fr.nil n0
  have K0 : Keep h0 h0 [p0] := Keep.refl _ _
  show Goes p.tables e below (T0.setTop (mkF m 0 #[.val (.ref p0), .val (.int p1), .val (.int p2)] [])) _
  refine g_aloadN X0 hx (hb hby d1_0) rfl rfl ?_
  show Goes p.tables e below (T0.setTop (mkF m 1 #[.val (.ref p0), .val (.int p1), .val (.int p2)] [(.ref p0)])) _
  refine g_callI X0 hx hZ hown (by rw [hml]; rfl) e0 rfl (hw _ (List.mem_of_getElem? (i := 7) rfl)) (hw _ (List.mem_of_getElem? (i := 8) rfl)) (hw _ (List.mem_of_getElem? (i := 10) rfl)) (hw _ (List.mem_of_getElem? (i := 11) rfl)) (rmRec l Z a0 hw p0 h0 n0 Z0) p0 [] rfl [] rfl (lenOf pd_2 rfl) (hb hby d1_1) (by decide) 0 (by decide) (by decide) (by first | decide | exact Nat.le_refl _) (by decide) (by decide) (fun v T1 L1 X1 hQ1 => ?_)
  obtain ⟨rfl, e1, rfl⟩ := hQ1
  have N2 := Fr.app N0 (Fr.nil n0)
  show Goes p.tables e below (T1.setTop (mkF m 4 #[.val (.ref p0), .val (.int p1), .val (.int p2)] [])) _
  refine g_aloadN X1 hx (hb hby d1_4) rfl rfl ?_
  show Goes p.tables e below (T1.setTop (mkF m 5 #[.val (.ref p0), .val (.int p1), .val (.int p2)] [(.ref p0)])) _
  refine g_iloadN X1 hx (hb hby d1_5) rfl ?_
  show Goes p.tables e below (T1.setTop (mkF m 6 #[.val (.ref p0), .val (.int p1), .val (.int p2)] [(.int p1), (.ref p0)])) _
  refine g_putF X1 hx hZ hown e1 (hw _ (List.mem_of_getElem? (i := 15) rfl)) Via.refl (v' := (.int p1)) FM E0 (Or.inr ⟨(hw _ (List.mem_of_getElem? (i := 16) rfl)), rfl, hnm⟩) (hw _ (List.mem_of_getElem? (i := 2) rfl)) (ty := .int) (by decide) rfl rfl (hb hby d1_6) (fun T3 h3 X3 e3 W3 => ?_)
  have f4 : Fld Z h3 p0 "com/example/gatewarden/gatewarden/server/service/InterfaceVersion" "minor" "I" (.int (0 : Int32)) := Fld.other W3 Fm (Or.inr (slot_ne (t := .int) (t' := .int) (Or.inr (hw _ (List.mem_of_getElem? (i := 18) rfl))) (Or.inr (hw _ (List.mem_of_getElem? (i := 16) rfl))) (by decide) (by decide) (by decide)))
  have f5 : Exa Z h3 p0 "com/example/gatewarden/gatewarden/server/service/InterfaceVersion" := Exa.wr W3 E0
  have f6 : Fld Z h3 p0 "com/example/gatewarden/gatewarden/server/service/InterfaceVersion" "major" "I" (.int p1) := Fld.same W3 FM
  have N7 := Fr.snoc X3 N2 ga
  have Z8 : n0 ≤ h3.size := by rw [W3.size]; exact Z0
  have K9 : Keep h0 h3 [p0] := Keep.wr K0 W3 (Or.inl (List.mem_of_getElem? (i := 0) rfl))
  show Goes p.tables e below (T3.setTop (mkF m 9 #[.val (.ref p0), .val (.int p1), .val (.int p2)] [])) _
  refine g_aloadN X3 hx (hb hby d1_9) rfl rfl ?_
  show Goes p.tables e below (T3.setTop (mkF m 10 #[.val (.ref p0), .val (.int p1), .val (.int p2)] [(.ref p0)])) _
  refine g_iloadN X3 hx (hb hby d1_10) rfl ?_
  show Goes p.tables e below (T3.setTop (mkF m 11 #[.val (.ref p0), .val (.int p1), .val (.int p2)] [(.int p2), (.ref p0)])) _
  refine g_putF X3 hx hZ hown e3 (hw _ (List.mem_of_getElem? (i := 17) rfl)) Via.refl (v' := (.int p2)) f4 f5 (Or.inr ⟨(hw _ (List.mem_of_getElem? (i := 18) rfl)), rfl, hnm⟩) (hw _ (List.mem_of_getElem? (i := 2) rfl)) (ty := .int) (by decide) rfl rfl (hb hby d1_11) (fun T10 h10 X10 e10 W10 => ?_)
  have f11 : Exa Z h10 p0 "com/example/gatewarden/gatewarden/server/service/InterfaceVersion" := Exa.wr W10 f5
  have f12 : Fld Z h10 p0 "com/example/gatewarden/gatewarden/server/service/InterfaceVersion" "major" "I" (.int p1) := Fld.other W10 f6 (Or.inr (slot_ne (t := .int) (t' := .int) (Or.inr (hw _ (List.mem_of_getElem? (i := 16) rfl))) (Or.inr (hw _ (List.mem_of_getElem? (i := 18) rfl))) (by decide) (by decide) (by decide)))
  have f13 : Fld Z h10 p0 "com/example/gatewarden/gatewarden/server/service/InterfaceVersion" "minor" "I" (.int p2) := Fld.same W10 f4
  have N14 := Fr.snoc X10 N7 ga
  have Z15 : n0 ≤ h10.size := by rw [W10.size]; exact Z8
  have K16 : Keep h0 h10 [p0] := Keep.wr K9 W10 (Or.inl (List.mem_of_getElem? (i := 0) rfl))
  show Goes p.tables e below (T10.setTop (mkF m 14 #[.val (.ref p0), .val (.int p1), .val (.int p2)] [])) _
  exact g_ret0 X10 hx hret hk (hb hby d1_14) (by decide) (by decide) (by rw [e10]; exact ⟨rfl, N14, K16, f12, f13⟩)
def cmpA (M m N n : Int32) (bN bU bC : Addr) : Addr := if N = M then (if m < n then bU else bC) else bN
theorem d4_0 : decode prog_48_method_3_code 0 = .ok (.aload_n 1, 1) := by decide +kernel
theorem d4_1 : decode prog_48_method_3_code 1 = .ok (.getfield 7, 3) := by decide +kernel
theorem d4_4 : decode prog_48_method_3_code 4 = .ok (.aload_n 0, 1) := by decide +kernel
theorem d4_5 : decode prog_48_method_3_code 5 = .ok (.getfield 7, 3) := by decide +kernel
theorem d4_8 : decode prog_48_method_3_code 8 = .ok (.if_icmp .eq 10, 3) := by decide +kernel
theorem d4_11 : decode prog_48_method_3_code 11 = .ok (.getstatic 18, 3) := by decide +kernel
theorem d4_14 : decode prog_48_method_3_code 14 = .ok (.astore_n 2, 1) := by decide +kernel
theorem d4_15 : decode prog_48_method_3_code 15 = .ok (.goto 25, 3) := by decide +kernel
theorem d4_18 : decode prog_48_method_3_code 18 = .ok (.aload_n 1, 1) := by decide +kernel
theorem d4_19 : decode prog_48_method_3_code 19 = .ok (.getfield 13, 3) := by decide +kernel
theorem d4_22 : decode prog_48_method_3_code 22 = .ok (.aload_n 0, 1) := by decide +kernel
theorem d4_23 : decode prog_48_method_3_code 23 = .ok (.getfield 13, 3) := by decide +kernel
theorem d4_26 : decode prog_48_method_3_code 26 = .ok (.if_icmp .le 10, 3) := by decide +kernel
theorem d4_29 : decode prog_48_method_3_code 29 = .ok (.getstatic 24, 3) := by decide +kernel
theorem d4_32 : decode prog_48_method_3_code 32 = .ok (.astore_n 2, 1) := by decide +kernel
theorem d4_33 : decode prog_48_method_3_code 33 = .ok (.goto 7, 3) := by decide +kernel
theorem d4_36 : decode prog_48_method_3_code 36 = .ok (.getstatic 27, 3) := by decide +kernel
theorem d4_39 : decode prog_48_method_3_code 39 = .ok (.astore_n 2, 1) := by decide +kernel
theorem d4_40 : decode prog_48_method_3_code 40 = .ok (.aload_n 2, 1) := by decide +kernel
theorem d4_41 : decode prog_48_method_3_code 41 = .ok (.areturn, 1) := by decide +kernel
theorem pd_4 : parseMethodDescriptor "(Lcom/example/gatewarden/gatewarden/server/service/InterfaceVersion;)Lcom/example/gatewarden/gatewarden/server/service/InterfaceVersion$Compatibility;" = some ⟨[(.object "com/example/gatewarden/gatewarden/server/service/InterfaceVersion")], some (.object "com/example/gatewarden/gatewarden/server/service/InterfaceVersion$Compatibility")⟩ := by decide +kernel
theorem ef_4 (m : MethodId) (p0 : Addr) (p1 : Addr) : entryFrame m #[(.ref p0), (.ref p1)] 3 = mkF m 0 #[.val (.ref p0), .val (.ref p1), .unset] [] := by first | (simp [entryFrame, mkF, argsToLocals, Value.category]; done) | rfl
set_option maxRecDepth 65536 in
set_option maxHeartbeats 40000000 in
theorem rmC (l : Launch) (Z : State) (a0 : Array Value) (hw : ∀ d ∈ tables_1, d.before a0 Z = true) (p0 : Addr) (p1 : Addr) (h0 : Heap) (M m1 N n1 : Int32) (F1 : Fld Z h0 p0 "com/example/gatewarden/gatewarden/server/service/InterfaceVersion" "major" "I" (.int M)) (F2 : Fld Z h0 p0 "com/example/gatewarden/gatewarden/server/service/InterfaceVersion" "minor" "I" (.int m1)) (F3 : Fld Z h0 p1 "com/example/gatewarden/gatewarden/server/service/InterfaceVersion" "major" "I" (.int N)) (F4 : Fld Z h0 p1 "com/example/gatewarden/gatewarden/server/service/InterfaceVersion" "minor" "I" (.int n1)) (b0 : Addr) (Sb0 : Sta Z h0 "com/example/gatewarden/gatewarden/server/service/InterfaceVersion$Compatibility" "NOT_COMPATIBLE" "Lcom/example/gatewarden/gatewarden/server/service/InterfaceVersion$Compatibility;" (.ref b0)) (b1 : Addr) (Sb1 : Sta Z h0 "com/example/gatewarden/gatewarden/server/service/InterfaceVersion$Compatibility" "COMPATIBLE" "Lcom/example/gatewarden/gatewarden/server/service/InterfaceVersion$Compatibility;" (.ref b1)) (b2 : Addr) (Sb2 : Sta Z h0 "com/example/gatewarden/gatewarden/server/service/InterfaceVersion$Compatibility" "COMPATIBLE_UNKNOWN" "Lcom/example/gatewarden/gatewarden/server/service/InterfaceVersion$Compatibility;" (.ref b2)) :
    Con l Z (⟨"com/example/gatewarden/gatewarden/server/service/InterfaceVersion", "compatibility", "(Lcom/example/gatewarden/gatewarden/server/service/InterfaceVersion;)Lcom/example/gatewarden/gatewarden/server/service/InterfaceVersion$Compatibility;"⟩ : MethodName) prog_48_method_3_code 3 (some (.object "com/example/gatewarden/gatewarden/server/service/InterfaceVersion$Compatibility")) [] ({ frames := 0, cells := 0, slots := 0, locals := 0 } : Room) 0 0 #[(.ref p0), (.ref p1)] h0 (fun v h L => v = some (.ref (cmpA M m1 N n1 b0 b2 b1)) ∧ h = h0 ∧ L = []) := by
  refine Con.body (plainFor_of_name (by first | (simp [plainName, overriddenIn]; done) | decide +kernel)) ?_
  intro p e s m below meth c T0 hx hby hml hown hnm hZ hret hk X0 e0
  refine Goes.cast (ef_4 m p0 p1) ?_
  show Goes p.tables e below (T0.setTop (mkF m 0 #[.val (.ref p0), .val (.ref p1), .unset] [])) _
  refine g_aloadN X0 hx (hb hby d4_0) rfl rfl ?_
  show Goes p.tables e below (T0.setTop (mkF m 1 #[.val (.ref p0), .val (.ref p1), .unset] [(.ref p1)])) _
  refine g_getF X0 hx hZ hown e0 (host := "") (Or.inl (hw _ (List.mem_of_getElem? (i := 15) rfl))) Via.refl F3 (hb hby d4_1) (fun T1 X1 e1 => ?_)
  show Goes p.tables e below (T1.setTop (mkF m 4 #[.val (.ref p0), .val (.ref p1), .unset] [(.int N)])) _
  refine g_aloadN X1 hx (hb hby d4_4) rfl rfl ?_
  show Goes p.tables e below (T1.setTop (mkF m 5 #[.val (.ref p0), .val (.ref p1), .unset] [(.ref p0), (.int N)])) _
  refine g_getF X1 hx hZ hown e1 (host := "") (Or.inl (hw _ (List.mem_of_getElem? (i := 15) rfl))) Via.refl F1 (hb hby d4_5) (fun T2 X2 e2 => ?_)
  show Goes p.tables e below (T2.setTop (mkF m 8 #[.val (.ref p0), .val (.ref p1), .unset] [(.int M), (.int N)])) _
  refine g_icmp_eq X2 hx (hb hby d4_8) (by decide) (pc' := 18) (by decide) (fun c8 => ?_) (fun c8 => ?_)
  · skip
    show Goes p.tables e below (T2.setTop (mkF m 18 #[.val (.ref p0), .val (.ref p1), .unset] [])) _
    refine g_aloadN X2 hx (hb hby d4_18) rfl rfl ?_
    show Goes p.tables e below (T2.setTop (mkF m 19 #[.val (.ref p0), .val (.ref p1), .unset] [(.ref p1)])) _
    refine g_getF X2 hx hZ hown e2 (host := "") (Or.inl (hw _ (List.mem_of_getElem? (i := 17) rfl))) Via.refl F4 (hb hby d4_19) (fun T3 X3 e3 => ?_)
    show Goes p.tables e below (T3.setTop (mkF m 22 #[.val (.ref p0), .val (.ref p1), .unset] [(.int n1)])) _
    refine g_aloadN X3 hx (hb hby d4_22) rfl rfl ?_
    show Goes p.tables e below (T3.setTop (mkF m 23 #[.val (.ref p0), .val (.ref p1), .unset] [(.ref p0), (.int n1)])) _
    refine g_getF X3 hx hZ hown e3 (host := "") (Or.inl (hw _ (List.mem_of_getElem? (i := 17) rfl))) Via.refl F2 (hb hby d4_23) (fun T4 X4 e4 => ?_)
    show Goes p.tables e below (T4.setTop (mkF m 26 #[.val (.ref p0), .val (.ref p1), .unset] [(.int m1), (.int n1)])) _
    refine g_icmp_le X4 hx (hb hby d4_26) (by decide) (pc' := 36) (by decide) (fun c26 => ?_) (fun c26 => ?_)
    · skip
      show Goes p.tables e below (T4.setTop (mkF m 36 #[.val (.ref p0), .val (.ref p1), .unset] [])) _
      refine g_getS X4 hx hZ hown e4 (host := "") (Or.inl (hw _ (List.mem_of_getElem? (i := 32) rfl))) Sb1 (hb hby d4_36) (fun T5 X5 e5 => ?_)
      show Goes p.tables e below (T5.setTop (mkF m 39 #[.val (.ref p0), .val (.ref p1), .unset] [(.ref b1)])) _
      refine g_astoreN X5 hx (hb hby d4_39) rfl (l' := #[.val (.ref p0), .val (.ref p1), .val (.ref b1)]) rfl ?_
      show Goes p.tables e below (T5.setTop (mkF m 40 #[.val (.ref p0), .val (.ref p1), .val (.ref b1)] [])) _
      refine g_aloadN X5 hx (hb hby d4_40) rfl rfl ?_
      show Goes p.tables e below (T5.setTop (mkF m 41 #[.val (.ref p0), .val (.ref p1), .val (.ref b1)] [(.ref b1)])) _
      exact g_retA X5 hx hret hk rfl rfl (hb hby d4_41) (by decide) (by decide) ⟨by rw [cmpA, if_pos c8, if_neg c26], e5, rfl⟩
    · skip
      show Goes p.tables e below (T4.setTop (mkF m 29 #[.val (.ref p0), .val (.ref p1), .unset] [])) _
      refine g_getS X4 hx hZ hown e4 (host := "") (Or.inl (hw _ (List.mem_of_getElem? (i := 35) rfl))) Sb2 (hb hby d4_29) (fun T6 X6 e6 => ?_)
      show Goes p.tables e below (T6.setTop (mkF m 32 #[.val (.ref p0), .val (.ref p1), .unset] [(.ref b2)])) _
      refine g_astoreN X6 hx (hb hby d4_32) rfl (l' := #[.val (.ref p0), .val (.ref p1), .val (.ref b2)]) rfl ?_
      show Goes p.tables e below (T6.setTop (mkF m 33 #[.val (.ref p0), .val (.ref p1), .val (.ref b2)] [])) _
      refine g_goto X6 hx (hb hby d4_33) (by decide) (pc' := 40) (by decide) ?_
      show Goes p.tables e below (T6.setTop (mkF m 40 #[.val (.ref p0), .val (.ref p1), .val (.ref b2)] [])) _
      refine g_aloadN X6 hx (hb hby d4_40) rfl rfl ?_
      show Goes p.tables e below (T6.setTop (mkF m 41 #[.val (.ref p0), .val (.ref p1), .val (.ref b2)] [(.ref b2)])) _
      exact g_retA X6 hx hret hk rfl rfl (hb hby d4_41) (by decide) (by decide) ⟨by rw [cmpA, if_pos c8, if_pos c26], e6, rfl⟩
  · skip
    show Goes p.tables e below (T2.setTop (mkF m 11 #[.val (.ref p0), .val (.ref p1), .unset] [])) _
    refine g_getS X2 hx hZ hown e2 (host := "") (Or.inl (hw _ (List.mem_of_getElem? (i := 24) rfl))) Sb0 (hb hby d4_11) (fun T7 X7 e7 => ?_)
    show Goes p.tables e below (T7.setTop (mkF m 14 #[.val (.ref p0), .val (.ref p1), .unset] [(.ref b0)])) _
    refine g_astoreN X7 hx (hb hby d4_14) rfl (l' := #[.val (.ref p0), .val (.ref p1), .val (.ref b0)]) rfl ?_
    show Goes p.tables e below (T7.setTop (mkF m 15 #[.val (.ref p0), .val (.ref p1), .val (.ref b0)] [])) _
    refine g_goto X7 hx (hb hby d4_15) (by decide) (pc' := 40) (by decide) ?_
    show Goes p.tables e below (T7.setTop (mkF m 40 #[.val (.ref p0), .val (.ref p1), .val (.ref b0)] [])) _
    refine g_aloadN X7 hx (hb hby d4_40) rfl rfl ?_
    show Goes p.tables e below (T7.setTop (mkF m 41 #[.val (.ref p0), .val (.ref p1), .val (.ref b0)] [(.ref b0)])) _
    exact g_retA X7 hx hret hk rfl rfl (hb hby d4_41) (by decide) (by decide) ⟨by rw [cmpA, if_neg c8], e7, rfl⟩
theorem own_p1 {M m N n s : Int32} {bN bU bC : Addr} (h : s = (if N = M then (1 : Int32) else (0 : Int32))) (c : s = 0) : (Value.ref (cmpA M m N n bN bU bC)) = (Value.ref bN) := by
  have q : ¬ N = M := fun e => by rw [if_pos e] at h; rw [h] at c; exact absurd c (by decide)
  rw [cmpA, if_neg q]
theorem own_p2 {M m N n s t : Int32} {bN bU bC : Addr} (h : s = (if N = M then (1 : Int32) else (0 : Int32))) (c : ¬ s = 0) (h2 : t = (if maxV n m = m then (1 : Int32) else (0 : Int32))) (c2 : ¬ t = 0) : (Value.ref (cmpA M m N n bN bU bC)) = (Value.ref bC) := by
  have q : N = M := Decidable.byContradiction fun e => by rw [if_neg e] at h; exact c h
  have q2 : maxV n m = m := Decidable.byContradiction fun e => by rw [if_neg e] at h2; exact c2 h2
  have q3 : ¬ m < n := fun z => by
    have z' := Int32.lt_iff_toInt_lt.mp z
    rw [maxV, if_neg (fun y => by have y' := Int32.lt_iff_toInt_lt.mp y; omega)] at q2
    rw [q2] at z'; omega
  rw [cmpA, if_pos q, if_neg q3]
theorem own_p3 {M m N n s t : Int32} {bN bU bC : Addr} (h : s = (if N = M then (1 : Int32) else (0 : Int32))) (c : ¬ s = 0) (h2 : t = (if maxV n m = m then (1 : Int32) else (0 : Int32))) (c2 : t = 0) : (Value.ref (cmpA M m N n bN bU bC)) = (Value.ref bU) := by
  have q : N = M := Decidable.byContradiction fun e => by rw [if_neg e] at h; exact c h
  have q2 : ¬ maxV n m = m := fun e => by rw [if_pos e] at h2; rw [h2] at c2; exact absurd c2 (by decide)
  have q3 : m < n := by
    by_cases y : n < m
    · rw [maxV, if_pos y] at q2; exact absurd rfl q2
    · rw [maxV, if_neg y] at q2
      have y' : ¬ n.toInt < m.toInt := fun z => y (Int32.lt_iff_toInt_lt.mpr z)
      have q4 : n.toInt ≠ m.toInt := fun z => q2 (Int32.toInt_inj.mp z)
      exact Int32.lt_iff_toInt_lt.mpr (by omega)
  rw [cmpA, if_pos q, if_pos q3]
theorem ef_0 (m : MethodId) (p0 : Int32) (p1 : Int32) (p2 : Int32) (p3 : Int32) (p4 : Int32) : entryFrame m #[(.int p0), (.int p1), (.int p2), (.int p3), (.int p4)] maxLocals = mkF m 0 #[.val (.int p0), .val (.int p1), .val (.int p2), .val (.int p3), .val (.int p4), .unset, .unset, .unset, .unset, .unset, .unset, .unset, .unset, .unset, .unset, .unset] [] := by first | (simp [entryFrame, mkF, argsToLocals, Value.category, maxLocals]; done) | rfl
set_option maxRecDepth 65536 in
set_option maxHeartbeats 40000000 in
theorem law (l : Launch) (Z : State) (a0 : Array Value) (hw : ∀ d ∈ tables_1, d.before a0 Z = true) (ws : List Jvm.Cond) (p0 : Int32) (p1 : Int32) (p2 : Int32) (p3 : Int32) (p4 : Int32) (h0 : Heap) (b0 : Addr) (Sb0 : Sta Z h0 "com/example/gatewarden/gatewarden/server/service/InterfaceVersion$Compatibility" "NOT_COMPATIBLE" "Lcom/example/gatewarden/gatewarden/server/service/InterfaceVersion$Compatibility;" (.ref b0)) (Eb0 : Exa Z h0 b0 "com/example/gatewarden/gatewarden/server/service/InterfaceVersion$Compatibility") (b1 : Addr) (Sb1 : Sta Z h0 "com/example/gatewarden/gatewarden/server/service/InterfaceVersion$Compatibility" "COMPATIBLE" "Lcom/example/gatewarden/gatewarden/server/service/InterfaceVersion$Compatibility;" (.ref b1)) (Eb1 : Exa Z h0 b1 "com/example/gatewarden/gatewarden/server/service/InterfaceVersion$Compatibility") (b2 : Addr) (Sb2 : Sta Z h0 "com/example/gatewarden/gatewarden/server/service/InterfaceVersion$Compatibility" "COMPATIBLE_UNKNOWN" "Lcom/example/gatewarden/gatewarden/server/service/InterfaceVersion$Compatibility;" (.ref b2)) (Eb2 : Exa Z h0 b2 "com/example/gatewarden/gatewarden/server/service/InterfaceVersion$Compatibility") :
    Con l Z x code maxLocals ret ws room_1 16 128 #[(.int p0), (.int p1), (.int p2), (.int p3), (.int p4)] h0 (fun v h L => v = some (.int 1) ∧ Fr h0.size L) := by
  refine Con.body (plainFor_of_name (by first | (simp [plainName, overriddenIn, x]; done) | decide +kernel)) ?_
  intro p e s m below meth c T0 hx hby hml hown hnm hZ hret hk X0 e0
  refine Goes.cast (ef_0 m p0 p1 p2 p3 p4) ?_
  have N0 := Fr.nil h0.size
  have Z0 : h0.size ≤ h0.size := Nat.le_refl _
  show Goes p.tables e below (T0.setTop (mkF m 0 #[.val (.int p0), .val (.int p1), .val (.int p2), .val (.int p3), .val (.int p4), .unset, .unset, .unset, .unset, .unset, .unset, .unset, .unset, .unset, .unset, .unset] [])) _
  refine g_iloadN X0 hx (hb hby at_0) rfl ?_
  show Goes p.tables e below (T0.setTop (mkF m 1 #[.val (.int p0), .val (.int p1), .val (.int p2), .val (.int p3), .val (.int p4), .unset, .unset, .unset, .unset, .unset, .unset, .unset, .unset, .unset, .unset, .unset] [(.int p0)])) _
  refine g_ldc X0 hx hZ hown (hw _ (List.mem_of_getElem? (i := 0) rfl)) (hb hby at_1) ?_
  show Goes p.tables e below (T0.setTop (mkF m 3 #[.val (.int p0), .val (.int p1), .val (.int p2), .val (.int p3), .val (.int p4), .unset, .unset, .unset, .unset, .unset, .unset, .unset, .unset, .unset, .unset, .unset] [(.int (2147483647 : Int32)), (.int p0)])) _
  refine g_iand X0 hx (hb hby at_3) ?_
  show Goes p.tables e below (T0.setTop (mkF m 4 #[.val (.int p0), .val (.int p1), .val (.int p2), .val (.int p3), .val (.int p4), .unset, .unset, .unset, .unset, .unset, .unset, .unset, .unset, .unset, .unset, .unset] [(.int (p0 &&& (2147483647 : Int32)))])) _
  obtain ⟨vM, hvM⟩ : ∃ z : Int32, z = (p0 &&& (2147483647 : Int32)) := ⟨_, rfl⟩
  refine g_nameI hvM ?_
  show Goes p.tables e below (T0.setTop (mkF m 4 #[.val (.int p0), .val (.int p1), .val (.int p2), .val (.int p3), .val (.int p4), .unset, .unset, .unset, .unset, .unset, .unset, .unset, .unset, .unset, .unset, .unset] [(.int vM)])) _
  refine g_istore X0 hx (hb hby at_4) (l' := #[.val (.int p0), .val (.int p1), .val (.int p2), .val (.int p3), .val (.int p4), .val (.int vM), .unset, .unset, .unset, .unset, .unset, .unset, .unset, .unset, .unset, .unset]) rfl ?_
  show Goes p.tables e below (T0.setTop (mkF m 6 #[.val (.int p0), .val (.int p1), .val (.int p2), .val (.int p3), .val (.int p4), .val (.int vM), .unset, .unset, .unset, .unset, .unset, .unset, .unset, .unset, .unset, .unset] [])) _
  refine g_iloadN X0 hx (hb hby at_6) rfl ?_
  show Goes p.tables e below (T0.setTop (mkF m 7 #[.val (.int p0), .val (.int p1), .val (.int p2), .val (.int p3), .val (.int p4), .val (.int vM), .unset, .unset, .unset, .unset, .unset, .unset, .unset, .unset, .unset, .unset] [(.int p1)])) _
  refine g_ldc X0 hx hZ hown (hw _ (List.mem_of_getElem? (i := 0) rfl)) (hb hby at_7) ?_
  show Goes p.tables e below (T0.setTop (mkF m 9 #[.val (.int p0), .val (.int p1), .val (.int p2), .val (.int p3), .val (.int p4), .val (.int vM), .unset, .unset, .unset, .unset, .unset, .unset, .unset, .unset, .unset, .unset] [(.int (2147483647 : Int32)), (.int p1)])) _
  refine g_iand X0 hx (hb hby at_9) ?_
  show Goes p.tables e below (T0.setTop (mkF m 10 #[.val (.int p0), .val (.int p1), .val (.int p2), .val (.int p3), .val (.int p4), .val (.int vM), .unset, .unset, .unset, .unset, .unset, .unset, .unset, .unset, .unset, .unset] [(.int (p1 &&& (2147483647 : Int32)))])) _
  obtain ⟨vm, hvm⟩ : ∃ z : Int32, z = (p1 &&& (2147483647 : Int32)) := ⟨_, rfl⟩
  refine g_nameI hvm ?_
  show Goes p.tables e below (T0.setTop (mkF m 10 #[.val (.int p0), .val (.int p1), .val (.int p2), .val (.int p3), .val (.int p4), .val (.int vM), .unset, .unset, .unset, .unset, .unset, .unset, .unset, .unset, .unset, .unset] [(.int vm)])) _
  refine g_istore X0 hx (hb hby at_10) (l' := #[.val (.int p0), .val (.int p1), .val (.int p2), .val (.int p3), .val (.int p4), .val (.int vM), .val (.int vm), .unset, .unset, .unset, .unset, .unset, .unset, .unset, .unset, .unset]) rfl ?_
  show Goes p.tables e below (T0.setTop (mkF m 12 #[.val (.int p0), .val (.int p1), .val (.int p2), .val (.int p3), .val (.int p4), .val (.int vM), .val (.int vm), .unset, .unset, .unset, .unset, .unset, .unset, .unset, .unset, .unset] [])) _
  refine g_iload X0 hx (hb hby at_12) rfl ?_
  show Goes p.tables e below (T0.setTop (mkF m 14 #[.val (.int p0), .val (.int p1), .val (.int p2), .val (.int p3), .val (.int p4), .val (.int vM), .val (.int vm), .unset, .unset, .unset, .unset, .unset, .unset, .unset, .unset, .unset] [(.int p4)])) _
  refine g_iconst X0 hx (1 : Int32) (hb hby at_14) rfl ?_
  show Goes p.tables e below (T0.setTop (mkF m 15 #[.val (.int p0), .val (.int p1), .val (.int p2), .val (.int p3), .val (.int p4), .val (.int vM), .val (.int vm), .unset, .unset, .unset, .unset, .unset, .unset, .unset, .unset, .unset] [(.int (1 : Int32)), (.int p4)])) _
  refine g_iand X0 hx (hb hby at_15) ?_
  show Goes p.tables e below (T0.setTop (mkF m 16 #[.val (.int p0), .val (.int p1), .val (.int p2), .val (.int p3), .val (.int p4), .val (.int vM), .val (.int vm), .unset, .unset, .unset, .unset, .unset, .unset, .unset, .unset, .unset] [(.int (p4 &&& (1 : Int32)))])) _
  obtain ⟨v1, hv1⟩ : ∃ z : Int32, z = (if (p4 &&& (1 : Int32)) = 0 then (p2 &&& (2147483647 : Int32)) else vM) := ⟨_, rfl⟩
  refine Goes.join (S' := T0.setTop (mkF m 28 #[.val (.int p0), .val (.int p1), .val (.int p2), .val (.int p3), .val (.int p4), .val (.int vM), .val (.int vm), .unset, .unset, .unset, .unset, .unset, .unset, .unset, .unset, .unset] [(.int v1)])) (fun J => ?_) ?_
  · skip
    refine g_if_eq X0 hx (hb hby at_16) (by decide) (pc' := 24) (by decide) (fun c16 => ?_) (fun c16 => ?_)
    · skip
      show Goes p.tables e below (T0.setTop (mkF m 24 #[.val (.int p0), .val (.int p1), .val (.int p2), .val (.int p3), .val (.int p4), .val (.int vM), .val (.int vm), .unset, .unset, .unset, .unset, .unset, .unset, .unset, .unset, .unset] [])) _
      refine g_iloadN X0 hx (hb hby at_24) rfl ?_
      show Goes p.tables e below (T0.setTop (mkF m 25 #[.val (.int p0), .val (.int p1), .val (.int p2), .val (.int p3), .val (.int p4), .val (.int vM), .val (.int vm), .unset, .unset, .unset, .unset, .unset, .unset, .unset, .unset, .unset] [(.int p2)])) _
      refine g_ldc X0 hx hZ hown (hw _ (List.mem_of_getElem? (i := 0) rfl)) (hb hby at_25) ?_
      show Goes p.tables e below (T0.setTop (mkF m 27 #[.val (.int p0), .val (.int p1), .val (.int p2), .val (.int p3), .val (.int p4), .val (.int vM), .val (.int vm), .unset, .unset, .unset, .unset, .unset, .unset, .unset, .unset, .unset] [(.int (2147483647 : Int32)), (.int p2)])) _
      refine g_iand X0 hx (hb hby at_27) ?_
      rw [show v1 = ((p2 &&& (2147483647 : Int32))) from by rw [hv1, if_pos c16]] at J
      exact J
    · skip
      show Goes p.tables e below (T0.setTop (mkF m 19 #[.val (.int p0), .val (.int p1), .val (.int p2), .val (.int p3), .val (.int p4), .val (.int vM), .val (.int vm), .unset, .unset, .unset, .unset, .unset, .unset, .unset, .unset, .unset] [])) _
      refine g_iload X0 hx (hb hby at_19) rfl ?_
      show Goes p.tables e below (T0.setTop (mkF m 21 #[.val (.int p0), .val (.int p1), .val (.int p2), .val (.int p3), .val (.int p4), .val (.int vM), .val (.int vm), .unset, .unset, .unset, .unset, .unset, .unset, .unset, .unset, .unset] [(.int vM)])) _
      refine g_goto X0 hx (hb hby at_21) (by decide) (pc' := 28) (by decide) ?_
      rw [show v1 = (vM) from by rw [hv1, if_neg c16]] at J
      exact J
  show Goes p.tables e below (T0.setTop (mkF m 28 #[.val (.int p0), .val (.int p1), .val (.int p2), .val (.int p3), .val (.int p4), .val (.int vM), .val (.int vm), .unset, .unset, .unset, .unset, .unset, .unset, .unset, .unset, .unset] [(.int v1)])) _
  refine g_istore X0 hx (hb hby at_28) (l' := #[.val (.int p0), .val (.int p1), .val (.int p2), .val (.int p3), .val (.int p4), .val (.int vM), .val (.int vm), .val (.int v1), .unset, .unset, .unset, .unset, .unset, .unset, .unset, .unset]) rfl ?_
  show Goes p.tables e below (T0.setTop (mkF m 30 #[.val (.int p0), .val (.int p1), .val (.int p2), .val (.int p3), .val (.int p4), .val (.int vM), .val (.int vm), .val (.int v1), .unset, .unset, .unset, .unset, .unset, .unset, .unset, .unset] [])) _
  refine g_iload X0 hx (hb hby at_30) rfl ?_
  show Goes p.tables e below (T0.setTop (mkF m 32 #[.val (.int p0), .val (.int p1), .val (.int p2), .val (.int p3), .val (.int p4), .val (.int vM), .val (.int vm), .val (.int v1), .unset, .unset, .unset, .unset, .unset, .unset, .unset, .unset] [(.int p4)])) _
  refine g_iconst X0 hx (1 : Int32) (hb hby at_32) rfl ?_
  show Goes p.tables e below (T0.setTop (mkF m 33 #[.val (.int p0), .val (.int p1), .val (.int p2), .val (.int p3), .val (.int p4), .val (.int vM), .val (.int vm), .val (.int v1), .unset, .unset, .unset, .unset, .unset, .unset, .unset, .unset] [(.int (1 : Int32)), (.int p4)])) _
  refine g_iushr X0 hx (hb hby at_33) ?_
  show Goes p.tables e below (T0.setTop (mkF m 34 #[.val (.int p0), .val (.int p1), .val (.int p2), .val (.int p3), .val (.int p4), .val (.int vM), .val (.int vm), .val (.int v1), .unset, .unset, .unset, .unset, .unset, .unset, .unset, .unset] [(.int (XT.ushr p4 (1 : Int32)))])) _
  refine g_iconst X0 hx (3 : Int32) (hb hby at_34) rfl ?_
  show Goes p.tables e below (T0.setTop (mkF m 35 #[.val (.int p0), .val (.int p1), .val (.int p2), .val (.int p3), .val (.int p4), .val (.int vM), .val (.int vm), .val (.int v1), .unset, .unset, .unset, .unset, .unset, .unset, .unset, .unset] [(.int (3 : Int32)), (.int (XT.ushr p4 (1 : Int32)))])) _
  refine g_iand X0 hx (hb hby at_35) ?_
  show Goes p.tables e below (T0.setTop (mkF m 36 #[.val (.int p0), .val (.int p1), .val (.int p2), .val (.int p3), .val (.int p4), .val (.int vM), .val (.int vm), .val (.int v1), .unset, .unset, .unset, .unset, .unset, .unset, .unset, .unset] [(.int ((XT.ushr p4 (1 : Int32)) &&& (3 : Int32)))])) _
  obtain ⟨v2, hv2⟩ : ∃ z : Int32, z = ((XT.ushr p4 (1 : Int32)) &&& (3 : Int32)) := ⟨_, rfl⟩
  refine g_nameI hv2 ?_
  show Goes p.tables e below (T0.setTop (mkF m 36 #[.val (.int p0), .val (.int p1), .val (.int p2), .val (.int p3), .val (.int p4), .val (.int vM), .val (.int vm), .val (.int v1), .unset, .unset, .unset, .unset, .unset, .unset, .unset, .unset] [(.int v2)])) _
  refine g_istore X0 hx (hb hby at_36) (l' := #[.val (.int p0), .val (.int p1), .val (.int p2), .val (.int p3), .val (.int p4), .val (.int vM), .val (.int vm), .val (.int v1), .val (.int v2), .unset, .unset, .unset, .unset, .unset, .unset, .unset]) rfl ?_
  show Goes p.tables e below (T0.setTop (mkF m 38 #[.val (.int p0), .val (.int p1), .val (.int p2), .val (.int p3), .val (.int p4), .val (.int vM), .val (.int vm), .val (.int v1), .val (.int v2), .unset, .unset, .unset, .unset, .unset, .unset, .unset] [])) _
  refine g_iload X0 hx (hb hby at_38) rfl ?_
  show Goes p.tables e below (T0.setTop (mkF m 40 #[.val (.int p0), .val (.int p1), .val (.int p2), .val (.int p3), .val (.int p4), .val (.int vM), .val (.int vm), .val (.int v1), .val (.int v2), .unset, .unset, .unset, .unset, .unset, .unset, .unset] [(.int v2)])) _
  refine g_iconst X0 hx (1 : Int32) (hb hby at_40) rfl ?_
  show Goes p.tables e below (T0.setTop (mkF m 41 #[.val (.int p0), .val (.int p1), .val (.int p2), .val (.int p3), .val (.int p4), .val (.int vM), .val (.int vm), .val (.int v1), .val (.int v2), .unset, .unset, .unset, .unset, .unset, .unset, .unset] [(.int (1 : Int32)), (.int v2)])) _
  obtain ⟨v3, hv3⟩ : ∃ z : Int32, z = (if v2 = (1 : Int32) then vm else (if v2 = (2 : Int32) then ((vm + (1 : Int32)) &&& (2147483647 : Int32)) else (if v2 = (3 : Int32) then ((vm - (1 : Int32)) &&& (2147483647 : Int32)) else (p3 &&& (2147483647 : Int32))))) := ⟨_, rfl⟩
  refine Goes.join (S' := T0.setTop (mkF m 93 #[.val (.int p0), .val (.int p1), .val (.int p2), .val (.int p3), .val (.int p4), .val (.int vM), .val (.int vm), .val (.int v1), .val (.int v2), .val (.int v3), .unset, .unset, .unset, .unset, .unset, .unset] [])) (fun J => ?_) ?_
  · skip
    refine g_icmp_ne X0 hx (hb hby at_41) (by decide) (pc' := 51) (by decide) (fun c41 => ?_) (fun c41 => ?_)
    · skip
      show Goes p.tables e below (T0.setTop (mkF m 51 #[.val (.int p0), .val (.int p1), .val (.int p2), .val (.int p3), .val (.int p4), .val (.int vM), .val (.int vm), .val (.int v1), .val (.int v2), .unset, .unset, .unset, .unset, .unset, .unset, .unset] [])) _
      refine g_iload X0 hx (hb hby at_51) rfl ?_
      show Goes p.tables e below (T0.setTop (mkF m 53 #[.val (.int p0), .val (.int p1), .val (.int p2), .val (.int p3), .val (.int p4), .val (.int vM), .val (.int vm), .val (.int v1), .val (.int v2), .unset, .unset, .unset, .unset, .unset, .unset, .unset] [(.int v2)])) _
      refine g_iconst X0 hx (2 : Int32) (hb hby at_53) rfl ?_
      show Goes p.tables e below (T0.setTop (mkF m 54 #[.val (.int p0), .val (.int p1), .val (.int p2), .val (.int p3), .val (.int p4), .val (.int vM), .val (.int vm), .val (.int v1), .val (.int v2), .unset, .unset, .unset, .unset, .unset, .unset, .unset] [(.int (2 : Int32)), (.int v2)])) _
      refine g_icmp_ne X0 hx (hb hby at_54) (by decide) (pc' := 69) (by decide) (fun c54 => ?_) (fun c54 => ?_)
      · skip
        show Goes p.tables e below (T0.setTop (mkF m 69 #[.val (.int p0), .val (.int p1), .val (.int p2), .val (.int p3), .val (.int p4), .val (.int vM), .val (.int vm), .val (.int v1), .val (.int v2), .unset, .unset, .unset, .unset, .unset, .unset, .unset] [])) _
        refine g_iload X0 hx (hb hby at_69) rfl ?_
        show Goes p.tables e below (T0.setTop (mkF m 71 #[.val (.int p0), .val (.int p1), .val (.int p2), .val (.int p3), .val (.int p4), .val (.int vM), .val (.int vm), .val (.int v1), .val (.int v2), .unset, .unset, .unset, .unset, .unset, .unset, .unset] [(.int v2)])) _
        refine g_iconst X0 hx (3 : Int32) (hb hby at_71) rfl ?_
        show Goes p.tables e below (T0.setTop (mkF m 72 #[.val (.int p0), .val (.int p1), .val (.int p2), .val (.int p3), .val (.int p4), .val (.int vM), .val (.int vm), .val (.int v1), .val (.int v2), .unset, .unset, .unset, .unset, .unset, .unset, .unset] [(.int (3 : Int32)), (.int v2)])) _
        refine g_icmp_ne X0 hx (hb hby at_72) (by decide) (pc' := 87) (by decide) (fun c72 => ?_) (fun c72 => ?_)
        · skip
          show Goes p.tables e below (T0.setTop (mkF m 87 #[.val (.int p0), .val (.int p1), .val (.int p2), .val (.int p3), .val (.int p4), .val (.int vM), .val (.int vm), .val (.int v1), .val (.int v2), .unset, .unset, .unset, .unset, .unset, .unset, .unset] [])) _
          refine g_iloadN X0 hx (hb hby at_87) rfl ?_
          show Goes p.tables e below (T0.setTop (mkF m 88 #[.val (.int p0), .val (.int p1), .val (.int p2), .val (.int p3), .val (.int p4), .val (.int vM), .val (.int vm), .val (.int v1), .val (.int v2), .unset, .unset, .unset, .unset, .unset, .unset, .unset] [(.int p3)])) _
          refine g_ldc X0 hx hZ hown (hw _ (List.mem_of_getElem? (i := 0) rfl)) (hb hby at_88) ?_
          show Goes p.tables e below (T0.setTop (mkF m 90 #[.val (.int p0), .val (.int p1), .val (.int p2), .val (.int p3), .val (.int p4), .val (.int vM), .val (.int vm), .val (.int v1), .val (.int v2), .unset, .unset, .unset, .unset, .unset, .unset, .unset] [(.int (2147483647 : Int32)), (.int p3)])) _
          refine g_iand X0 hx (hb hby at_90) ?_
          show Goes p.tables e below (T0.setTop (mkF m 91 #[.val (.int p0), .val (.int p1), .val (.int p2), .val (.int p3), .val (.int p4), .val (.int vM), .val (.int vm), .val (.int v1), .val (.int v2), .unset, .unset, .unset, .unset, .unset, .unset, .unset] [(.int (p3 &&& (2147483647 : Int32)))])) _
          refine g_istore X0 hx (hb hby at_91) (l' := #[.val (.int p0), .val (.int p1), .val (.int p2), .val (.int p3), .val (.int p4), .val (.int vM), .val (.int vm), .val (.int v1), .val (.int v2), .val (.int (p3 &&& (2147483647 : Int32))), .unset, .unset, .unset, .unset, .unset, .unset]) rfl ?_
          rw [show v3 = ((p3 &&& (2147483647 : Int32))) from by rw [hv3, if_neg c41, if_neg c54, if_neg c72]] at J
          exact J
        · skip
          show Goes p.tables e below (T0.setTop (mkF m 75 #[.val (.int p0), .val (.int p1), .val (.int p2), .val (.int p3), .val (.int p4), .val (.int vM), .val (.int vm), .val (.int v1), .val (.int v2), .unset, .unset, .unset, .unset, .unset, .unset, .unset] [])) _
          refine g_iload X0 hx (hb hby at_75) rfl ?_
          show Goes p.tables e below (T0.setTop (mkF m 77 #[.val (.int p0), .val (.int p1), .val (.int p2), .val (.int p3), .val (.int p4), .val (.int vM), .val (.int vm), .val (.int v1), .val (.int v2), .unset, .unset, .unset, .unset, .unset, .unset, .unset] [(.int vm)])) _
          refine g_iconst X0 hx (1 : Int32) (hb hby at_77) rfl ?_
          show Goes p.tables e below (T0.setTop (mkF m 78 #[.val (.int p0), .val (.int p1), .val (.int p2), .val (.int p3), .val (.int p4), .val (.int vM), .val (.int vm), .val (.int v1), .val (.int v2), .unset, .unset, .unset, .unset, .unset, .unset, .unset] [(.int (1 : Int32)), (.int vm)])) _
          refine g_isub X0 hx (hb hby at_78) ?_
          show Goes p.tables e below (T0.setTop (mkF m 79 #[.val (.int p0), .val (.int p1), .val (.int p2), .val (.int p3), .val (.int p4), .val (.int vM), .val (.int vm), .val (.int v1), .val (.int v2), .unset, .unset, .unset, .unset, .unset, .unset, .unset] [(.int (vm - (1 : Int32)))])) _
          refine g_ldc X0 hx hZ hown (hw _ (List.mem_of_getElem? (i := 0) rfl)) (hb hby at_79) ?_
          show Goes p.tables e below (T0.setTop (mkF m 81 #[.val (.int p0), .val (.int p1), .val (.int p2), .val (.int p3), .val (.int p4), .val (.int vM), .val (.int vm), .val (.int v1), .val (.int v2), .unset, .unset, .unset, .unset, .unset, .unset, .unset] [(.int (2147483647 : Int32)), (.int (vm - (1 : Int32)))])) _
          refine g_iand X0 hx (hb hby at_81) ?_
          show Goes p.tables e below (T0.setTop (mkF m 82 #[.val (.int p0), .val (.int p1), .val (.int p2), .val (.int p3), .val (.int p4), .val (.int vM), .val (.int vm), .val (.int v1), .val (.int v2), .unset, .unset, .unset, .unset, .unset, .unset, .unset] [(.int ((vm - (1 : Int32)) &&& (2147483647 : Int32)))])) _
          refine g_istore X0 hx (hb hby at_82) (l' := #[.val (.int p0), .val (.int p1), .val (.int p2), .val (.int p3), .val (.int p4), .val (.int vM), .val (.int vm), .val (.int v1), .val (.int v2), .val (.int ((vm - (1 : Int32)) &&& (2147483647 : Int32))), .unset, .unset, .unset, .unset, .unset, .unset]) rfl ?_
          show Goes p.tables e below (T0.setTop (mkF m 84 #[.val (.int p0), .val (.int p1), .val (.int p2), .val (.int p3), .val (.int p4), .val (.int vM), .val (.int vm), .val (.int v1), .val (.int v2), .val (.int ((vm - (1 : Int32)) &&& (2147483647 : Int32))), .unset, .unset, .unset, .unset, .unset, .unset] [])) _
          refine g_goto X0 hx (hb hby at_84) (by decide) (pc' := 93) (by decide) ?_
          rw [show v3 = (((vm - (1 : Int32)) &&& (2147483647 : Int32))) from by rw [hv3, if_neg c41, if_neg c54, if_pos c72]] at J
          exact J
      · skip
        show Goes p.tables e below (T0.setTop (mkF m 57 #[.val (.int p0), .val (.int p1), .val (.int p2), .val (.int p3), .val (.int p4), .val (.int vM), .val (.int vm), .val (.int v1), .val (.int v2), .unset, .unset, .unset, .unset, .unset, .unset, .unset] [])) _
        refine g_iload X0 hx (hb hby at_57) rfl ?_
        show Goes p.tables e below (T0.setTop (mkF m 59 #[.val (.int p0), .val (.int p1), .val (.int p2), .val (.int p3), .val (.int p4), .val (.int vM), .val (.int vm), .val (.int v1), .val (.int v2), .unset, .unset, .unset, .unset, .unset, .unset, .unset] [(.int vm)])) _
        refine g_iconst X0 hx (1 : Int32) (hb hby at_59) rfl ?_
        show Goes p.tables e below (T0.setTop (mkF m 60 #[.val (.int p0), .val (.int p1), .val (.int p2), .val (.int p3), .val (.int p4), .val (.int vM), .val (.int vm), .val (.int v1), .val (.int v2), .unset, .unset, .unset, .unset, .unset, .unset, .unset] [(.int (1 : Int32)), (.int vm)])) _
        refine g_iadd X0 hx (hb hby at_60) ?_
        show Goes p.tables e below (T0.setTop (mkF m 61 #[.val (.int p0), .val (.int p1), .val (.int p2), .val (.int p3), .val (.int p4), .val (.int vM), .val (.int vm), .val (.int v1), .val (.int v2), .unset, .unset, .unset, .unset, .unset, .unset, .unset] [(.int (vm + (1 : Int32)))])) _
        refine g_ldc X0 hx hZ hown (hw _ (List.mem_of_getElem? (i := 0) rfl)) (hb hby at_61) ?_
        show Goes p.tables e below (T0.setTop (mkF m 63 #[.val (.int p0), .val (.int p1), .val (.int p2), .val (.int p3), .val (.int p4), .val (.int vM), .val (.int vm), .val (.int v1), .val (.int v2), .unset, .unset, .unset, .unset, .unset, .unset, .unset] [(.int (2147483647 : Int32)), (.int (vm + (1 : Int32)))])) _
        refine g_iand X0 hx (hb hby at_63) ?_
        show Goes p.tables e below (T0.setTop (mkF m 64 #[.val (.int p0), .val (.int p1), .val (.int p2), .val (.int p3), .val (.int p4), .val (.int vM), .val (.int vm), .val (.int v1), .val (.int v2), .unset, .unset, .unset, .unset, .unset, .unset, .unset] [(.int ((vm + (1 : Int32)) &&& (2147483647 : Int32)))])) _
        refine g_istore X0 hx (hb hby at_64) (l' := #[.val (.int p0), .val (.int p1), .val (.int p2), .val (.int p3), .val (.int p4), .val (.int vM), .val (.int vm), .val (.int v1), .val (.int v2), .val (.int ((vm + (1 : Int32)) &&& (2147483647 : Int32))), .unset, .unset, .unset, .unset, .unset, .unset]) rfl ?_
        show Goes p.tables e below (T0.setTop (mkF m 66 #[.val (.int p0), .val (.int p1), .val (.int p2), .val (.int p3), .val (.int p4), .val (.int vM), .val (.int vm), .val (.int v1), .val (.int v2), .val (.int ((vm + (1 : Int32)) &&& (2147483647 : Int32))), .unset, .unset, .unset, .unset, .unset, .unset] [])) _
        refine g_goto X0 hx (hb hby at_66) (by decide) (pc' := 93) (by decide) ?_
        rw [show v3 = (((vm + (1 : Int32)) &&& (2147483647 : Int32))) from by rw [hv3, if_neg c41, if_pos c54]] at J
        exact J
    · skip
      show Goes p.tables e below (T0.setTop (mkF m 44 #[.val (.int p0), .val (.int p1), .val (.int p2), .val (.int p3), .val (.int p4), .val (.int vM), .val (.int vm), .val (.int v1), .val (.int v2), .unset, .unset, .unset, .unset, .unset, .unset, .unset] [])) _
      refine g_iload X0 hx (hb hby at_44) rfl ?_
      show Goes p.tables e below (T0.setTop (mkF m 46 #[.val (.int p0), .val (.int p1), .val (.int p2), .val (.int p3), .val (.int p4), .val (.int vM), .val (.int vm), .val (.int v1), .val (.int v2), .unset, .unset, .unset, .unset, .unset, .unset, .unset] [(.int vm)])) _
      refine g_istore X0 hx (hb hby at_46) (l' := #[.val (.int p0), .val (.int p1), .val (.int p2), .val (.int p3), .val (.int p4), .val (.int vM), .val (.int vm), .val (.int v1), .val (.int v2), .val (.int vm), .unset, .unset, .unset, .unset, .unset, .unset]) rfl ?_
      show Goes p.tables e below (T0.setTop (mkF m 48 #[.val (.int p0), .val (.int p1), .val (.int p2), .val (.int p3), .val (.int p4), .val (.int vM), .val (.int vm), .val (.int v1), .val (.int v2), .val (.int vm), .unset, .unset, .unset, .unset, .unset, .unset] [])) _
      refine g_goto X0 hx (hb hby at_48) (by decide) (pc' := 93) (by decide) ?_
      rw [show v3 = (vm) from by rw [hv3, if_pos c41]] at J
      exact J
  show Goes p.tables e below (T0.setTop (mkF m 93 #[.val (.int p0), .val (.int p1), .val (.int p2), .val (.int p3), .val (.int p4), .val (.int vM), .val (.int vm), .val (.int v1), .val (.int v2), .val (.int v3), .unset, .unset, .unset, .unset, .unset, .unset] [])) _
  refine g_new X0 hx hZ hown e0 (hw _ (List.mem_of_getElem? (i := 1) rfl)) (hw _ (List.mem_of_getElem? (i := 2) rfl)) (hw _ (List.mem_of_getElem? (i := 3) rfl)) (hb hby at_93) (by decide) (by decide) (fun T4 h4 a4 ga4 X4 e4 Ex4 Ea4 Df4 => ?_)
  have ne5 : b0 ≠ a4 := Nat.ne_of_lt (by rw [ga4]; exact Eb0.lt)
  have ne6 : b1 ≠ a4 := Nat.ne_of_lt (by rw [ga4]; exact Eb1.lt)
  have ne7 : b2 ≠ a4 := Nat.ne_of_lt (by rw [ga4]; exact Eb2.lt)
  have ge8 : h0.size ≤ a4 := by rw [ga4]; exact Z0
  have f9 : Sta Z h4 "com/example/gatewarden/gatewarden/server/service/InterfaceVersion$Compatibility" "NOT_COMPATIBLE" "Lcom/example/gatewarden/gatewarden/server/service/InterfaceVersion$Compatibility;" (.ref b0) := Sta.ext Ex4 Sb0
  have f10 : Exa Z h4 b0 "com/example/gatewarden/gatewarden/server/service/InterfaceVersion$Compatibility" := Exa.ext Ex4 Eb0
  have f11 : Sta Z h4 "com/example/gatewarden/gatewarden/server/service/InterfaceVersion$Compatibility" "COMPATIBLE" "Lcom/example/gatewarden/gatewarden/server/service/InterfaceVersion$Compatibility;" (.ref b1) := Sta.ext Ex4 Sb1
  have f12 : Exa Z h4 b1 "com/example/gatewarden/gatewarden/server/service/InterfaceVersion$Compatibility" := Exa.ext Ex4 Eb1
  have f13 : Sta Z h4 "com/example/gatewarden/gatewarden/server/service/InterfaceVersion$Compatibility" "COMPATIBLE_UNKNOWN" "Lcom/example/gatewarden/gatewarden/server/service/InterfaceVersion$Compatibility;" (.ref b2) := Sta.ext Ex4 Sb2
  have f14 : Exa Z h4 b2 "com/example/gatewarden/gatewarden/server/service/InterfaceVersion$Compatibility" := Exa.ext Ex4 Eb2
  have Z15 : h0.size ≤ h4.size := Nat.le_trans Z0 Ex4.1
  have f16 : Fld Z h4 a4 "com/example/gatewarden/gatewarden/server/service/InterfaceVersion" "major" "I" (.int (0 : Int32)) := Df4 (Or.inr (hw _ (List.mem_of_getElem? (i := 16) rfl))) (ty := .int) (by decide)
  have f17 : Fld Z h4 a4 "com/example/gatewarden/gatewarden/server/service/InterfaceVersion" "minor" "I" (.int (0 : Int32)) := Df4 (Or.inr (hw _ (List.mem_of_getElem? (i := 18) rfl))) (ty := .int) (by decide)
  show Goes p.tables e below (T4.setTop (mkF m 96 #[.val (.int p0), .val (.int p1), .val (.int p2), .val (.int p3), .val (.int p4), .val (.int vM), .val (.int vm), .val (.int v1), .val (.int v2), .val (.int v3), .unset, .unset, .unset, .unset, .unset, .unset] [(.ref a4)])) _
  refine g_dup X4 hx (hb hby at_96) rfl ?_
  show Goes p.tables e below (T4.setTop (mkF m 97 #[.val (.int p0), .val (.int p1), .val (.int p2), .val (.int p3), .val (.int p4), .val (.int vM), .val (.int vm), .val (.int v1), .val (.int v2), .val (.int v3), .unset, .unset, .unset, .unset, .unset, .unset] [(.ref a4), (.ref a4)])) _
  refine g_iload X4 hx (hb hby at_97) rfl ?_
  show Goes p.tables e below (T4.setTop (mkF m 99 #[.val (.int p0), .val (.int p1), .val (.int p2), .val (.int p3), .val (.int p4), .val (.int vM), .val (.int vm), .val (.int v1), .val (.int v2), .val (.int v3), .unset, .unset, .unset, .unset, .unset, .unset] [(.int vM), (.ref a4), (.ref a4)])) _
  refine g_iload X4 hx (hb hby at_99) rfl ?_
  show Goes p.tables e below (T4.setTop (mkF m 101 #[.val (.int p0), .val (.int p1), .val (.int p2), .val (.int p3), .val (.int p4), .val (.int vM), .val (.int vm), .val (.int v1), .val (.int v2), .val (.int v3), .unset, .unset, .unset, .unset, .unset, .unset] [(.int vm), (.int vM), (.ref a4), (.ref a4)])) _
  refine g_callI X4 hx hZ hown (by rw [hml]; rfl) e4 rfl (hw _ (List.mem_of_getElem? (i := 4) rfl)) (hw _ (List.mem_of_getElem? (i := 5) rfl)) (hw _ (List.mem_of_getElem? (i := 3) rfl)) (hw _ (List.mem_of_getElem? (i := 6) rfl)) (rmIni l Z a0 hw a4 vM vm h4 h0.size Z15 f16 f17 Ea4 ge8) a4 [(.int vM), (.int vm)] rfl [(.ref a4)] rfl (lenOf pd_1 rfl) (hb hby at_101) (by decide) 1 (by decide) (by decide) (by first | decide | exact Nat.le_refl _) (by decide) (by decide) (fun v T18 L18 X18 hQ18 => ?_)
  obtain ⟨rfl, Nc18, Kc18, fM18, fm18⟩ := hQ18
  have f19 : Sta Z T18.heap "com/example/gatewarden/gatewarden/server/service/InterfaceVersion$Compatibility" "NOT_COMPATIBLE" "Lcom/example/gatewarden/gatewarden/server/service/InterfaceVersion$Compatibility;" (.ref b0) := own_stakeep f9 Kc18 (allS (own_nst Ea4) all0)
  have f20 : Exa Z T18.heap b0 "com/example/gatewarden/gatewarden/server/service/InterfaceVersion$Compatibility" := Exa.keep f10 Kc18
  have f21 : Sta Z T18.heap "com/example/gatewarden/gatewarden/server/service/InterfaceVersion$Compatibility" "COMPATIBLE" "Lcom/example/gatewarden/gatewarden/server/service/InterfaceVersion$Compatibility;" (.ref b1) := own_stakeep f11 Kc18 (allS (own_nst Ea4) all0)
  have f22 : Exa Z T18.heap b1 "com/example/gatewarden/gatewarden/server/service/InterfaceVersion$Compatibility" := Exa.keep f12 Kc18
  have f23 : Sta Z T18.heap "com/example/gatewarden/gatewarden/server/service/InterfaceVersion$Compatibility" "COMPATIBLE_UNKNOWN" "Lcom/example/gatewarden/gatewarden/server/service/InterfaceVersion$Compatibility;" (.ref b2) := own_stakeep f13 Kc18 (allS (own_nst Ea4) all0)
  have f24 : Exa Z T18.heap b2 "com/example/gatewarden/gatewarden/server/service/InterfaceVersion$Compatibility" := Exa.keep f14 Kc18
  have f25 : Exa Z T18.heap a4 "com/example/gatewarden/gatewarden/server/service/InterfaceVersion" := Exa.keep Ea4 Kc18
  have N26 := Fr.app N0 Nc18
  have Z27 : h0.size ≤ T18.heap.size := Nat.le_trans Z15 Kc18.1
  show Goes p.tables e below (T18.setTop (mkF m 104 #[.val (.int p0), .val (.int p1), .val (.int p2), .val (.int p3), .val (.int p4), .val (.int vM), .val (.int vm), .val (.int v1), .val (.int v2), .val (.int v3), .unset, .unset, .unset, .unset, .unset, .unset] [(.ref a4)])) _
  refine g_astore X18 hx (hb hby at_104) rfl (l' := #[.val (.int p0), .val (.int p1), .val (.int p2), .val (.int p3), .val (.int p4), .val (.int vM), .val (.int vm), .val (.int v1), .val (.int v2), .val (.int v3), .val (.ref a4), .unset, .unset, .unset, .unset, .unset]) rfl ?_
  show Goes p.tables e below (T18.setTop (mkF m 106 #[.val (.int p0), .val (.int p1), .val (.int p2), .val (.int p3), .val (.int p4), .val (.int vM), .val (.int vm), .val (.int v1), .val (.int v2), .val (.int v3), .val (.ref a4), .unset, .unset, .unset, .unset, .unset] [])) _
  refine g_new X18 hx hZ hown rfl (hw _ (List.mem_of_getElem? (i := 1) rfl)) (hw _ (List.mem_of_getElem? (i := 2) rfl)) (hw _ (List.mem_of_getElem? (i := 3) rfl)) (hb hby at_106) (by decide) (by decide) (fun T28 h28 a28 ga28 X28 e28 Ex28 Ea28 Df28 => ?_)
  have ne29 : b0 ≠ a28 := Nat.ne_of_lt (by rw [ga28]; exact f20.lt)
  have ne30 : b1 ≠ a28 := Nat.ne_of_lt (by rw [ga28]; exact f22.lt)
  have ne31 : b2 ≠ a28 := Nat.ne_of_lt (by rw [ga28]; exact f24.lt)
  have ne32 : a4 ≠ a28 := Nat.ne_of_lt (by rw [ga28]; exact f25.lt)
  have ge33 : h0.size ≤ a28 := by rw [ga28]; exact Z27
  have f34 : Sta Z h28 "com/example/gatewarden/gatewarden/server/service/InterfaceVersion$Compatibility" "NOT_COMPATIBLE" "Lcom/example/gatewarden/gatewarden/server/service/InterfaceVersion$Compatibility;" (.ref b0) := Sta.ext Ex28 f19
  have f35 : Exa Z h28 b0 "com/example/gatewarden/gatewarden/server/service/InterfaceVersion$Compatibility" := Exa.ext Ex28 f20
  have f36 : Sta Z h28 "com/example/gatewarden/gatewarden/server/service/InterfaceVersion$Compatibility" "COMPATIBLE" "Lcom/example/gatewarden/gatewarden/server/service/InterfaceVersion$Compatibility;" (.ref b1) := Sta.ext Ex28 f21
  have f37 : Exa Z h28 b1 "com/example/gatewarden/gatewarden/server/service/InterfaceVersion$Compatibility" := Exa.ext Ex28 f22
  have f38 : Sta Z h28 "com/example/gatewarden/gatewarden/server/service/InterfaceVersion$Compatibility" "COMPATIBLE_UNKNOWN" "Lcom/example/gatewarden/gatewarden/server/service/InterfaceVersion$Compatibility;" (.ref b2) := Sta.ext Ex28 f23
  have f39 : Exa Z h28 b2 "com/example/gatewarden/gatewarden/server/service/InterfaceVersion$Compatibility" := Exa.ext Ex28 f24
  have f40 : Exa Z h28 a4 "com/example/gatewarden/gatewarden/server/service/InterfaceVersion" := Exa.ext Ex28 f25
  have f41 : Fld Z h28 a4 "com/example/gatewarden/gatewarden/server/service/InterfaceVersion" "major" "I" (.int vM) := Fld.ext Ex28 fM18
  have f42 : Fld Z h28 a4 "com/example/gatewarden/gatewarden/server/service/InterfaceVersion" "minor" "I" (.int vm) := Fld.ext Ex28 fm18
  have Z43 : h0.size ≤ h28.size := Nat.le_trans Z27 Ex28.1
  have f44 : Fld Z h28 a28 "com/example/gatewarden/gatewarden/server/service/InterfaceVersion" "major" "I" (.int (0 : Int32)) := Df28 (Or.inr (hw _ (List.mem_of_getElem? (i := 16) rfl))) (ty := .int) (by decide)
  have f45 : Fld Z h28 a28 "com/example/gatewarden/gatewarden/server/service/InterfaceVersion" "minor" "I" (.int (0 : Int32)) := Df28 (Or.inr (hw _ (List.mem_of_getElem? (i := 18) rfl))) (ty := .int) (by decide)
  show Goes p.tables e below (T28.setTop (mkF m 109 #[.val (.int p0), .val (.int p1), .val (.int p2), .val (.int p3), .val (.int p4), .val (.int vM), .val (.int vm), .val (.int v1), .val (.int v2), .val (.int v3), .val (.ref a4), .unset, .unset, .unset, .unset, .unset] [(.ref a28)])) _
  refine g_dup X28 hx (hb hby at_109) rfl ?_
  show Goes p.tables e below (T28.setTop (mkF m 110 #[.val (.int p0), .val (.int p1), .val (.int p2), .val (.int p3), .val (.int p4), .val (.int vM), .val (.int vm), .val (.int v1), .val (.int v2), .val (.int v3), .val (.ref a4), .unset, .unset, .unset, .unset, .unset] [(.ref a28), (.ref a28)])) _
  refine g_iload X28 hx (hb hby at_110) rfl ?_
  show Goes p.tables e below (T28.setTop (mkF m 112 #[.val (.int p0), .val (.int p1), .val (.int p2), .val (.int p3), .val (.int p4), .val (.int vM), .val (.int vm), .val (.int v1), .val (.int v2), .val (.int v3), .val (.ref a4), .unset, .unset, .unset, .unset, .unset] [(.int v1), (.ref a28), (.ref a28)])) _
  refine g_iload X28 hx (hb hby at_112) rfl ?_
  show Goes p.tables e below (T28.setTop (mkF m 114 #[.val (.int p0), .val (.int p1), .val (.int p2), .val (.int p3), .val (.int p4), .val (.int vM), .val (.int vm), .val (.int v1), .val (.int v2), .val (.int v3), .val (.ref a4), .unset, .unset, .unset, .unset, .unset] [(.int v3), (.int v1), (.ref a28), (.ref a28)])) _
  refine g_callI X28 hx hZ hown (by rw [hml]; rfl) e28 rfl (hw _ (List.mem_of_getElem? (i := 4) rfl)) (hw _ (List.mem_of_getElem? (i := 5) rfl)) (hw _ (List.mem_of_getElem? (i := 3) rfl)) (hw _ (List.mem_of_getElem? (i := 6) rfl)) (rmIni l Z a0 hw a28 v1 v3 h28 h0.size Z43 f44 f45 Ea28 ge33) a28 [(.int v1), (.int v3)] rfl [(.ref a28)] rfl (lenOf pd_1 rfl) (hb hby at_114) (by decide) 1 (by decide) (by decide) (by first | decide | exact Nat.le_refl _) (by decide) (by decide) (fun v T46 L46 X46 hQ46 => ?_)
  obtain ⟨rfl, Nc46, Kc46, fM46, fm46⟩ := hQ46
  have f47 : Sta Z T46.heap "com/example/gatewarden/gatewarden/server/service/InterfaceVersion$Compatibility" "NOT_COMPATIBLE" "Lcom/example/gatewarden/gatewarden/server/service/InterfaceVersion$Compatibility;" (.ref b0) := own_stakeep f34 Kc46 (allS (own_nst Ea28) all0)
  have f48 : Exa Z T46.heap b0 "com/example/gatewarden/gatewarden/server/service/InterfaceVersion$Compatibility" := Exa.keep f35 Kc46
  have f49 : Sta Z T46.heap "com/example/gatewarden/gatewarden/server/service/InterfaceVersion$Compatibility" "COMPATIBLE" "Lcom/example/gatewarden/gatewarden/server/service/InterfaceVersion$Compatibility;" (.ref b1) := own_stakeep f36 Kc46 (allS (own_nst Ea28) all0)
  have f50 : Exa Z T46.heap b1 "com/example/gatewarden/gatewarden/server/service/InterfaceVersion$Compatibility" := Exa.keep f37 Kc46
  have f51 : Sta Z T46.heap "com/example/gatewarden/gatewarden/server/service/InterfaceVersion$Compatibility" "COMPATIBLE_UNKNOWN" "Lcom/example/gatewarden/gatewarden/server/service/InterfaceVersion$Compatibility;" (.ref b2) := own_stakeep f38 Kc46 (allS (own_nst Ea28) all0)
  have f52 : Exa Z T46.heap b2 "com/example/gatewarden/gatewarden/server/service/InterfaceVersion$Compatibility" := Exa.keep f39 Kc46
  have f53 : Exa Z T46.heap a4 "com/example/gatewarden/gatewarden/server/service/InterfaceVersion" := Exa.keep f40 Kc46
  have f54 : Fld Z T46.heap a4 "com/example/gatewarden/gatewarden/server/service/InterfaceVersion" "major" "I" (.int vM) := Fld.keep f41 Kc46 (ninS ne32 nin0)
  have f55 : Fld Z T46.heap a4 "com/example/gatewarden/gatewarden/server/service/InterfaceVersion" "minor" "I" (.int vm) := Fld.keep f42 Kc46 (ninS ne32 nin0)
  have f56 : Exa Z T46.heap a28 "com/example/gatewarden/gatewarden/server/service/InterfaceVersion" := Exa.keep Ea28 Kc46
  have N57 := Fr.app N26 Nc46
  have Z58 : h0.size ≤ T46.heap.size := Nat.le_trans Z43 Kc46.1
  show Goes p.tables e below (T46.setTop (mkF m 117 #[.val (.int p0), .val (.int p1), .val (.int p2), .val (.int p3), .val (.int p4), .val (.int vM), .val (.int vm), .val (.int v1), .val (.int v2), .val (.int v3), .val (.ref a4), .unset, .unset, .unset, .unset, .unset] [(.ref a28)])) _
  refine g_astore X46 hx (hb hby at_117) rfl (l' := #[.val (.int p0), .val (.int p1), .val (.int p2), .val (.int p3), .val (.int p4), .val (.int vM), .val (.int vm), .val (.int v1), .val (.int v2), .val (.int v3), .val (.ref a4), .val (.ref a28), .unset, .unset, .unset, .unset]) rfl ?_
  show Goes p.tables e below (T46.setTop (mkF m 119 #[.val (.int p0), .val (.int p1), .val (.int p2), .val (.int p3), .val (.int p4), .val (.int vM), .val (.int vm), .val (.int v1), .val (.int v2), .val (.int v3), .val (.ref a4), .val (.ref a28), .unset, .unset, .unset, .unset] [])) _
  refine g_aload X46 hx (hb hby at_119) rfl rfl ?_
  show Goes p.tables e below (T46.setTop (mkF m 121 #[.val (.int p0), .val (.int p1), .val (.int p2), .val (.int p3), .val (.int p4), .val (.int vM), .val (.int vm), .val (.int v1), .val (.int v2), .val (.int v3), .val (.ref a4), .val (.ref a28), .unset, .unset, .unset, .unset] [(.ref a4)])) _
  refine g_aload X46 hx (hb hby at_121) rfl rfl ?_
  show Goes p.tables e below (T46.setTop (mkF m 123 #[.val (.int p0), .val (.int p1), .val (.int p2), .val (.int p3), .val (.int p4), .val (.int vM), .val (.int vm), .val (.int v1), .val (.int v2), .val (.int v3), .val (.ref a4), .val (.ref a28), .unset, .unset, .unset, .unset] [(.ref a28), (.ref a4)])) _
  refine g_callV X46 hx hZ hown (by rw [hml]; rfl) rfl (K := "com/example/gatewarden/gatewarden/server/service/InterfaceVersion") (hw _ (List.mem_of_getElem? (i := 19) rfl)) (hw _ (List.mem_of_getElem? (i := 20) rfl)) (hw _ (List.mem_of_getElem? (i := 22) rfl)) (hw _ (List.mem_of_getElem? (i := 21) rfl)) (hw _ (List.mem_of_getElem? (i := 3) rfl)) (hw _ (List.mem_of_getElem? (i := 23) rfl)) f53 (rmC l Z a0 hw a4 a28 T46.heap vM vm v1 v3 f54 f55 fM46 fm46 b0 f47 b1 f49 b2 f51) [(.ref a28)] rfl [] rfl (lenOf pd_4 rfl) (hb hby at_123) (by decide) 0 (by decide) (by decide) (by first | decide | exact Nat.le_refl _) (by decide) (by decide) (fun v T59 L59 X59 hQ59 => ?_)
  obtain ⟨rfl, e59, rfl⟩ := hQ59
  have N60 := Fr.app N57 (Fr.nil h0.size)
  show Goes p.tables e below (T59.setTop (mkF m 126 #[.val (.int p0), .val (.int p1), .val (.int p2), .val (.int p3), .val (.int p4), .val (.int vM), .val (.int vm), .val (.int v1), .val (.int v2), .val (.int v3), .val (.ref a4), .val (.ref a28), .unset, .unset, .unset, .unset] [(.ref (cmpA vM vm v1 v3 b0 b2 b1))])) _
  refine g_astore X59 hx (hb hby at_126) rfl (l' := #[.val (.int p0), .val (.int p1), .val (.int p2), .val (.int p3), .val (.int p4), .val (.int vM), .val (.int vm), .val (.int v1), .val (.int v2), .val (.int v3), .val (.ref a4), .val (.ref a28), .val (.ref (cmpA vM vm v1 v3 b0 b2 b1)), .unset, .unset, .unset]) rfl ?_
  show Goes p.tables e below (T59.setTop (mkF m 128 #[.val (.int p0), .val (.int p1), .val (.int p2), .val (.int p3), .val (.int p4), .val (.int vM), .val (.int vm), .val (.int v1), .val (.int v2), .val (.int v3), .val (.ref a4), .val (.ref a28), .val (.ref (cmpA vM vm v1 v3 b0 b2 b1)), .unset, .unset, .unset] [])) _
  refine g_iload X59 hx (hb hby at_128) rfl ?_
  show Goes p.tables e below (T59.setTop (mkF m 130 #[.val (.int p0), .val (.int p1), .val (.int p2), .val (.int p3), .val (.int p4), .val (.int vM), .val (.int vm), .val (.int v1), .val (.int v2), .val (.int v3), .val (.ref a4), .val (.ref a28), .val (.ref (cmpA vM vm v1 v3 b0 b2 b1)), .unset, .unset, .unset] [(.int v1)])) _
  refine g_iload X59 hx (hb hby at_130) rfl ?_
  show Goes p.tables e below (T59.setTop (mkF m 132 #[.val (.int p0), .val (.int p1), .val (.int p2), .val (.int p3), .val (.int p4), .val (.int vM), .val (.int vm), .val (.int v1), .val (.int v2), .val (.int v3), .val (.ref a4), .val (.ref a28), .val (.ref (cmpA vM vm v1 v3 b0 b2 b1)), .unset, .unset, .unset] [(.int vM), (.int v1)])) _
  obtain ⟨v61, hv61⟩ : ∃ z : Int32, z = (if v1 = vM then (1 : Int32) else (0 : Int32)) := ⟨_, rfl⟩
  refine Goes.join (S' := T59.setTop (mkF m 140 #[.val (.int p0), .val (.int p1), .val (.int p2), .val (.int p3), .val (.int p4), .val (.int vM), .val (.int vm), .val (.int v1), .val (.int v2), .val (.int v3), .val (.ref a4), .val (.ref a28), .val (.ref (cmpA vM vm v1 v3 b0 b2 b1)), .unset, .unset, .unset] [(.int v61)])) (fun J => ?_) ?_
  · skip
    refine g_icmp_ne X59 hx (hb hby at_132) (by decide) (pc' := 139) (by decide) (fun c132 => ?_) (fun c132 => ?_)
    · skip
      show Goes p.tables e below (T59.setTop (mkF m 139 #[.val (.int p0), .val (.int p1), .val (.int p2), .val (.int p3), .val (.int p4), .val (.int vM), .val (.int vm), .val (.int v1), .val (.int v2), .val (.int v3), .val (.ref a4), .val (.ref a28), .val (.ref (cmpA vM vm v1 v3 b0 b2 b1)), .unset, .unset, .unset] [])) _
      refine g_iconst X59 hx (0 : Int32) (hb hby at_139) rfl ?_
      rw [show v61 = ((0 : Int32)) from by rw [hv61, if_neg c132]] at J
      exact J
    · skip
      show Goes p.tables e below (T59.setTop (mkF m 135 #[.val (.int p0), .val (.int p1), .val (.int p2), .val (.int p3), .val (.int p4), .val (.int vM), .val (.int vm), .val (.int v1), .val (.int v2), .val (.int v3), .val (.ref a4), .val (.ref a28), .val (.ref (cmpA vM vm v1 v3 b0 b2 b1)), .unset, .unset, .unset] [])) _
      refine g_iconst X59 hx (1 : Int32) (hb hby at_135) rfl ?_
      show Goes p.tables e below (T59.setTop (mkF m 136 #[.val (.int p0), .val (.int p1), .val (.int p2), .val (.int p3), .val (.int p4), .val (.int vM), .val (.int vm), .val (.int v1), .val (.int v2), .val (.int v3), .val (.ref a4), .val (.ref a28), .val (.ref (cmpA vM vm v1 v3 b0 b2 b1)), .unset, .unset, .unset] [(.int (1 : Int32))])) _
      refine g_goto X59 hx (hb hby at_136) (by decide) (pc' := 140) (by decide) ?_
      rw [show v61 = ((1 : Int32)) from by rw [hv61, if_pos c132]] at J
      exact J
  show Goes p.tables e below (T59.setTop (mkF m 140 #[.val (.int p0), .val (.int p1), .val (.int p2), .val (.int p3), .val (.int p4), .val (.int vM), .val (.int vm), .val (.int v1), .val (.int v2), .val (.int v3), .val (.ref a4), .val (.ref a28), .val (.ref (cmpA vM vm v1 v3 b0 b2 b1)), .unset, .unset, .unset] [(.int v61)])) _
  refine g_istore X59 hx (hb hby at_140) (l' := #[.val (.int p0), .val (.int p1), .val (.int p2), .val (.int p3), .val (.int p4), .val (.int vM), .val (.int vm), .val (.int v1), .val (.int v2), .val (.int v3), .val (.ref a4), .val (.ref a28), .val (.ref (cmpA vM vm v1 v3 b0 b2 b1)), .val (.int v61), .unset, .unset]) rfl ?_
  show Goes p.tables e below (T59.setTop (mkF m 142 #[.val (.int p0), .val (.int p1), .val (.int p2), .val (.int p3), .val (.int p4), .val (.int vM), .val (.int vm), .val (.int v1), .val (.int v2), .val (.int v3), .val (.ref a4), .val (.ref a28), .val (.ref (cmpA vM vm v1 v3 b0 b2 b1)), .val (.int v61), .unset, .unset] [])) _
  refine g_iload X59 hx (hb hby at_142) rfl ?_
  show Goes p.tables e below (T59.setTop (mkF m 144 #[.val (.int p0), .val (.int p1), .val (.int p2), .val (.int p3), .val (.int p4), .val (.int vM), .val (.int vm), .val (.int v1), .val (.int v2), .val (.int v3), .val (.ref a4), .val (.ref a28), .val (.ref (cmpA vM vm v1 v3 b0 b2 b1)), .val (.int v61), .unset, .unset] [(.int v3)])) _
  refine g_iload X59 hx (hb hby at_144) rfl ?_
  show Goes p.tables e below (T59.setTop (mkF m 146 #[.val (.int p0), .val (.int p1), .val (.int p2), .val (.int p3), .val (.int p4), .val (.int vM), .val (.int vm), .val (.int v1), .val (.int v2), .val (.int v3), .val (.ref a4), .val (.ref a28), .val (.ref (cmpA vM vm v1 v3 b0 b2 b1)), .val (.int v61), .unset, .unset] [(.int vm), (.int v3)])) _
  refine g_callS X59 hx hZ hown (by rw [hml]; rfl) e59 (hw _ (List.mem_of_getElem? (i := 27) rfl)) (hw _ (List.mem_of_getElem? (i := 28) rfl)) (hw _ (List.mem_of_getElem? (i := 29) rfl)) (hw _ (List.mem_of_getElem? (i := 30) rfl)) (rmX l Z a0 hw v3 vm T46.heap) [(.int v3), (.int vm)] rfl [] rfl (lenOf pd_5 rfl) (hb hby at_146) (by decide) 0 (by decide) (by decide) (by first | decide | exact Nat.le_refl _) (by decide) (by decide) (fun v T62 L62 X62 hQ62 => ?_)
  obtain ⟨rfl, e62, rfl⟩ := hQ62
  have N63 := Fr.app N60 (Fr.nil h0.size)
  show Goes p.tables e below (T62.setTop (mkF m 149 #[.val (.int p0), .val (.int p1), .val (.int p2), .val (.int p3), .val (.int p4), .val (.int vM), .val (.int vm), .val (.int v1), .val (.int v2), .val (.int v3), .val (.ref a4), .val (.ref a28), .val (.ref (cmpA vM vm v1 v3 b0 b2 b1)), .val (.int v61), .unset, .unset] [(.int (maxV v3 vm))])) _
  refine g_iload X62 hx (hb hby at_149) rfl ?_
  show Goes p.tables e below (T62.setTop (mkF m 151 #[.val (.int p0), .val (.int p1), .val (.int p2), .val (.int p3), .val (.int p4), .val (.int vM), .val (.int vm), .val (.int v1), .val (.int v2), .val (.int v3), .val (.ref a4), .val (.ref a28), .val (.ref (cmpA vM vm v1 v3 b0 b2 b1)), .val (.int v61), .unset, .unset] [(.int vm), (.int (maxV v3 vm))])) _
  obtain ⟨v64, hv64⟩ : ∃ z : Int32, z = (if (maxV v3 vm) = vm then (1 : Int32) else (0 : Int32)) := ⟨_, rfl⟩
  refine Goes.join (S' := T62.setTop (mkF m 159 #[.val (.int p0), .val (.int p1), .val (.int p2), .val (.int p3), .val (.int p4), .val (.int vM), .val (.int vm), .val (.int v1), .val (.int v2), .val (.int v3), .val (.ref a4), .val (.ref a28), .val (.ref (cmpA vM vm v1 v3 b0 b2 b1)), .val (.int v61), .unset, .unset] [(.int v64)])) (fun J => ?_) ?_
  · skip
    refine g_icmp_ne X62 hx (hb hby at_151) (by decide) (pc' := 158) (by decide) (fun c151 => ?_) (fun c151 => ?_)
    · skip
      show Goes p.tables e below (T62.setTop (mkF m 158 #[.val (.int p0), .val (.int p1), .val (.int p2), .val (.int p3), .val (.int p4), .val (.int vM), .val (.int vm), .val (.int v1), .val (.int v2), .val (.int v3), .val (.ref a4), .val (.ref a28), .val (.ref (cmpA vM vm v1 v3 b0 b2 b1)), .val (.int v61), .unset, .unset] [])) _
      refine g_iconst X62 hx (0 : Int32) (hb hby at_158) rfl ?_
      rw [show v64 = ((0 : Int32)) from by rw [hv64, if_neg c151]] at J
      exact J
    · skip
      show Goes p.tables e below (T62.setTop (mkF m 154 #[.val (.int p0), .val (.int p1), .val (.int p2), .val (.int p3), .val (.int p4), .val (.int vM), .val (.int vm), .val (.int v1), .val (.int v2), .val (.int v3), .val (.ref a4), .val (.ref a28), .val (.ref (cmpA vM vm v1 v3 b0 b2 b1)), .val (.int v61), .unset, .unset] [])) _
      refine g_iconst X62 hx (1 : Int32) (hb hby at_154) rfl ?_
      show Goes p.tables e below (T62.setTop (mkF m 155 #[.val (.int p0), .val (.int p1), .val (.int p2), .val (.int p3), .val (.int p4), .val (.int vM), .val (.int vm), .val (.int v1), .val (.int v2), .val (.int v3), .val (.ref a4), .val (.ref a28), .val (.ref (cmpA vM vm v1 v3 b0 b2 b1)), .val (.int v61), .unset, .unset] [(.int (1 : Int32))])) _
      refine g_goto X62 hx (hb hby at_155) (by decide) (pc' := 159) (by decide) ?_
      rw [show v64 = ((1 : Int32)) from by rw [hv64, if_pos c151]] at J
      exact J
  show Goes p.tables e below (T62.setTop (mkF m 159 #[.val (.int p0), .val (.int p1), .val (.int p2), .val (.int p3), .val (.int p4), .val (.int vM), .val (.int vm), .val (.int v1), .val (.int v2), .val (.int v3), .val (.ref a4), .val (.ref a28), .val (.ref (cmpA vM vm v1 v3 b0 b2 b1)), .val (.int v61), .unset, .unset] [(.int v64)])) _
  refine g_istore X62 hx (hb hby at_159) (l' := #[.val (.int p0), .val (.int p1), .val (.int p2), .val (.int p3), .val (.int p4), .val (.int vM), .val (.int vm), .val (.int v1), .val (.int v2), .val (.int v3), .val (.ref a4), .val (.ref a28), .val (.ref (cmpA vM vm v1 v3 b0 b2 b1)), .val (.int v61), .val (.int v64), .unset]) rfl ?_
  show Goes p.tables e below (T62.setTop (mkF m 161 #[.val (.int p0), .val (.int p1), .val (.int p2), .val (.int p3), .val (.int p4), .val (.int vM), .val (.int vm), .val (.int v1), .val (.int v2), .val (.int v3), .val (.ref a4), .val (.ref a28), .val (.ref (cmpA vM vm v1 v3 b0 b2 b1)), .val (.int v61), .val (.int v64), .unset] [])) _
  refine g_iload X62 hx (hb hby at_161) rfl ?_
  show Goes p.tables e below (T62.setTop (mkF m 163 #[.val (.int p0), .val (.int p1), .val (.int p2), .val (.int p3), .val (.int p4), .val (.int vM), .val (.int vm), .val (.int v1), .val (.int v2), .val (.int v3), .val (.ref a4), .val (.ref a28), .val (.ref (cmpA vM vm v1 v3 b0 b2 b1)), .val (.int v61), .val (.int v64), .unset] [(.int v61)])) _
  refine g_if_ne X62 hx (hb hby at_163) (by decide) (pc' := 174) (by decide) (fun c163 => ?_) (fun c163 => ?_)
  · skip
    show Goes p.tables e below (T62.setTop (mkF m 174 #[.val (.int p0), .val (.int p1), .val (.int p2), .val (.int p3), .val (.int p4), .val (.int vM), .val (.int vm), .val (.int v1), .val (.int v2), .val (.int v3), .val (.ref a4), .val (.ref a28), .val (.ref (cmpA vM vm v1 v3 b0 b2 b1)), .val (.int v61), .val (.int v64), .unset] [])) _
    refine g_iload X62 hx (hb hby at_174) rfl ?_
    show Goes p.tables e below (T62.setTop (mkF m 176 #[.val (.int p0), .val (.int p1), .val (.int p2), .val (.int p3), .val (.int p4), .val (.int vM), .val (.int vm), .val (.int v1), .val (.int v2), .val (.int v3), .val (.ref a4), .val (.ref a28), .val (.ref (cmpA vM vm v1 v3 b0 b2 b1)), .val (.int v61), .val (.int v64), .unset] [(.int v64)])) _
    refine g_if_eq X62 hx (hb hby at_176) (by decide) (pc' := 187) (by decide) (fun c176 => ?_) (fun c176 => ?_)
    · skip
      show Goes p.tables e below (T62.setTop (mkF m 187 #[.val (.int p0), .val (.int p1), .val (.int p2), .val (.int p3), .val (.int p4), .val (.int vM), .val (.int vm), .val (.int v1), .val (.int v2), .val (.int v3), .val (.ref a4), .val (.ref a28), .val (.ref (cmpA vM vm v1 v3 b0 b2 b1)), .val (.int v61), .val (.int v64), .unset] [])) _
      refine g_getS X62 hx hZ hown e62 (host := "") (Or.inl (hw _ (List.mem_of_getElem? (i := 37) rfl))) f51 (hb hby at_187) (fun T65 X65 e65 => ?_)
      show Goes p.tables e below (T65.setTop (mkF m 190 #[.val (.int p0), .val (.int p1), .val (.int p2), .val (.int p3), .val (.int p4), .val (.int vM), .val (.int vm), .val (.int v1), .val (.int v2), .val (.int v3), .val (.ref a4), .val (.ref a28), .val (.ref (cmpA vM vm v1 v3 b0 b2 b1)), .val (.int v61), .val (.int v64), .unset] [(.ref b2)])) _
      refine g_astore X65 hx (hb hby at_190) rfl (l' := #[.val (.int p0), .val (.int p1), .val (.int p2), .val (.int p3), .val (.int p4), .val (.int vM), .val (.int vm), .val (.int v1), .val (.int v2), .val (.int v3), .val (.ref a4), .val (.ref a28), .val (.ref (cmpA vM vm v1 v3 b0 b2 b1)), .val (.int v61), .val (.int v64), .val (.ref b2)]) rfl ?_
      show Goes p.tables e below (T65.setTop (mkF m 192 #[.val (.int p0), .val (.int p1), .val (.int p2), .val (.int p3), .val (.int p4), .val (.int vM), .val (.int vm), .val (.int v1), .val (.int v2), .val (.int v3), .val (.ref a4), .val (.ref a28), .val (.ref (cmpA vM vm v1 v3 b0 b2 b1)), .val (.int v61), .val (.int v64), .val (.ref b2)] [])) _
      refine g_aload X65 hx (hb hby at_192) rfl rfl ?_
      show Goes p.tables e below (T65.setTop (mkF m 194 #[.val (.int p0), .val (.int p1), .val (.int p2), .val (.int p3), .val (.int p4), .val (.int vM), .val (.int vm), .val (.int v1), .val (.int v2), .val (.int v3), .val (.ref a4), .val (.ref a28), .val (.ref (cmpA vM vm v1 v3 b0 b2 b1)), .val (.int v61), .val (.int v64), .val (.ref b2)] [(.ref (cmpA vM vm v1 v3 b0 b2 b1))])) _
      refine g_ifnull_ref X65 hx (hb hby at_194) ?_
      show Goes p.tables e below (T65.setTop (mkF m 197 #[.val (.int p0), .val (.int p1), .val (.int p2), .val (.int p3), .val (.int p4), .val (.int vM), .val (.int vm), .val (.int v1), .val (.int v2), .val (.int v3), .val (.ref a4), .val (.ref a28), .val (.ref (cmpA vM vm v1 v3 b0 b2 b1)), .val (.int v61), .val (.int v64), .val (.ref b2)] [])) _
      refine g_aload X65 hx (hb hby at_197) rfl rfl ?_
      show Goes p.tables e below (T65.setTop (mkF m 199 #[.val (.int p0), .val (.int p1), .val (.int p2), .val (.int p3), .val (.int p4), .val (.int vM), .val (.int vm), .val (.int v1), .val (.int v2), .val (.int v3), .val (.ref a4), .val (.ref a28), .val (.ref (cmpA vM vm v1 v3 b0 b2 b1)), .val (.int v61), .val (.int v64), .val (.ref b2)] [(.ref (cmpA vM vm v1 v3 b0 b2 b1))])) _
      refine g_aload X65 hx (hb hby at_199) rfl rfl ?_
      show Goes p.tables e below (T65.setTop (mkF m 201 #[.val (.int p0), .val (.int p1), .val (.int p2), .val (.int p3), .val (.int p4), .val (.int vM), .val (.int vm), .val (.int v1), .val (.int v2), .val (.int v3), .val (.ref a4), .val (.ref a28), .val (.ref (cmpA vM vm v1 v3 b0 b2 b1)), .val (.int v61), .val (.int v64), .val (.ref b2)] [(.ref b2), (.ref (cmpA vM vm v1 v3 b0 b2 b1))])) _
      have c201 : (Value.ref (cmpA vM vm v1 v3 b0 b2 b1)) = (Value.ref b2) := own_p3 hv61 c163 hv64 c176
      refine g_acmp_ne X65 hx rfl rfl (hb hby at_201) (by decide) (pc' := 208) (by decide) (fun q => absurd c201 q) (fun _ => ?_)
      show Goes p.tables e below (T65.setTop (mkF m 204 #[.val (.int p0), .val (.int p1), .val (.int p2), .val (.int p3), .val (.int p4), .val (.int vM), .val (.int vm), .val (.int v1), .val (.int v2), .val (.int v3), .val (.ref a4), .val (.ref a28), .val (.ref (cmpA vM vm v1 v3 b0 b2 b1)), .val (.int v61), .val (.int v64), .val (.ref b2)] [])) _
      refine g_iconst X65 hx (1 : Int32) (hb hby at_204) rfl ?_
      show Goes p.tables e below (T65.setTop (mkF m 205 #[.val (.int p0), .val (.int p1), .val (.int p2), .val (.int p3), .val (.int p4), .val (.int vM), .val (.int vm), .val (.int v1), .val (.int v2), .val (.int v3), .val (.ref a4), .val (.ref a28), .val (.ref (cmpA vM vm v1 v3 b0 b2 b1)), .val (.int v61), .val (.int v64), .val (.ref b2)] [(.int (1 : Int32))])) _
      refine g_goto X65 hx (hb hby at_205) (by decide) (pc' := 209) (by decide) ?_
      show Goes p.tables e below (T65.setTop (mkF m 209 #[.val (.int p0), .val (.int p1), .val (.int p2), .val (.int p3), .val (.int p4), .val (.int vM), .val (.int vm), .val (.int v1), .val (.int v2), .val (.int v3), .val (.ref a4), .val (.ref a28), .val (.ref (cmpA vM vm v1 v3 b0 b2 b1)), .val (.int v61), .val (.int v64), .val (.ref b2)] [(.int (1 : Int32))])) _
      exact g_retZ X65 hx (hz := (by decide)) hret hk (hb hby at_209) (by decide) (by decide) ⟨rfl, N63⟩
    · skip
      show Goes p.tables e below (T62.setTop (mkF m 179 #[.val (.int p0), .val (.int p1), .val (.int p2), .val (.int p3), .val (.int p4), .val (.int vM), .val (.int vm), .val (.int v1), .val (.int v2), .val (.int v3), .val (.ref a4), .val (.ref a28), .val (.ref (cmpA vM vm v1 v3 b0 b2 b1)), .val (.int v61), .val (.int v64), .unset] [])) _
      refine g_getS X62 hx hZ hown e62 (host := "") (Or.inl (hw _ (List.mem_of_getElem? (i := 34) rfl))) f49 (hb hby at_179) (fun T66 X66 e66 => ?_)
      show Goes p.tables e below (T66.setTop (mkF m 182 #[.val (.int p0), .val (.int p1), .val (.int p2), .val (.int p3), .val (.int p4), .val (.int vM), .val (.int vm), .val (.int v1), .val (.int v2), .val (.int v3), .val (.ref a4), .val (.ref a28), .val (.ref (cmpA vM vm v1 v3 b0 b2 b1)), .val (.int v61), .val (.int v64), .unset] [(.ref b1)])) _
      refine g_astore X66 hx (hb hby at_182) rfl (l' := #[.val (.int p0), .val (.int p1), .val (.int p2), .val (.int p3), .val (.int p4), .val (.int vM), .val (.int vm), .val (.int v1), .val (.int v2), .val (.int v3), .val (.ref a4), .val (.ref a28), .val (.ref (cmpA vM vm v1 v3 b0 b2 b1)), .val (.int v61), .val (.int v64), .val (.ref b1)]) rfl ?_
      show Goes p.tables e below (T66.setTop (mkF m 184 #[.val (.int p0), .val (.int p1), .val (.int p2), .val (.int p3), .val (.int p4), .val (.int vM), .val (.int vm), .val (.int v1), .val (.int v2), .val (.int v3), .val (.ref a4), .val (.ref a28), .val (.ref (cmpA vM vm v1 v3 b0 b2 b1)), .val (.int v61), .val (.int v64), .val (.ref b1)] [])) _
      refine g_goto X66 hx (hb hby at_184) (by decide) (pc' := 192) (by decide) ?_
      show Goes p.tables e below (T66.setTop (mkF m 192 #[.val (.int p0), .val (.int p1), .val (.int p2), .val (.int p3), .val (.int p4), .val (.int vM), .val (.int vm), .val (.int v1), .val (.int v2), .val (.int v3), .val (.ref a4), .val (.ref a28), .val (.ref (cmpA vM vm v1 v3 b0 b2 b1)), .val (.int v61), .val (.int v64), .val (.ref b1)] [])) _
      refine g_aload X66 hx (hb hby at_192) rfl rfl ?_
      show Goes p.tables e below (T66.setTop (mkF m 194 #[.val (.int p0), .val (.int p1), .val (.int p2), .val (.int p3), .val (.int p4), .val (.int vM), .val (.int vm), .val (.int v1), .val (.int v2), .val (.int v3), .val (.ref a4), .val (.ref a28), .val (.ref (cmpA vM vm v1 v3 b0 b2 b1)), .val (.int v61), .val (.int v64), .val (.ref b1)] [(.ref (cmpA vM vm v1 v3 b0 b2 b1))])) _
      refine g_ifnull_ref X66 hx (hb hby at_194) ?_
      show Goes p.tables e below (T66.setTop (mkF m 197 #[.val (.int p0), .val (.int p1), .val (.int p2), .val (.int p3), .val (.int p4), .val (.int vM), .val (.int vm), .val (.int v1), .val (.int v2), .val (.int v3), .val (.ref a4), .val (.ref a28), .val (.ref (cmpA vM vm v1 v3 b0 b2 b1)), .val (.int v61), .val (.int v64), .val (.ref b1)] [])) _
      refine g_aload X66 hx (hb hby at_197) rfl rfl ?_
      show Goes p.tables e below (T66.setTop (mkF m 199 #[.val (.int p0), .val (.int p1), .val (.int p2), .val (.int p3), .val (.int p4), .val (.int vM), .val (.int vm), .val (.int v1), .val (.int v2), .val (.int v3), .val (.ref a4), .val (.ref a28), .val (.ref (cmpA vM vm v1 v3 b0 b2 b1)), .val (.int v61), .val (.int v64), .val (.ref b1)] [(.ref (cmpA vM vm v1 v3 b0 b2 b1))])) _
      refine g_aload X66 hx (hb hby at_199) rfl rfl ?_
      show Goes p.tables e below (T66.setTop (mkF m 201 #[.val (.int p0), .val (.int p1), .val (.int p2), .val (.int p3), .val (.int p4), .val (.int vM), .val (.int vm), .val (.int v1), .val (.int v2), .val (.int v3), .val (.ref a4), .val (.ref a28), .val (.ref (cmpA vM vm v1 v3 b0 b2 b1)), .val (.int v61), .val (.int v64), .val (.ref b1)] [(.ref b1), (.ref (cmpA vM vm v1 v3 b0 b2 b1))])) _
      have c201 : (Value.ref (cmpA vM vm v1 v3 b0 b2 b1)) = (Value.ref b1) := own_p2 hv61 c163 hv64 c176
      refine g_acmp_ne X66 hx rfl rfl (hb hby at_201) (by decide) (pc' := 208) (by decide) (fun q => absurd c201 q) (fun _ => ?_)
      show Goes p.tables e below (T66.setTop (mkF m 204 #[.val (.int p0), .val (.int p1), .val (.int p2), .val (.int p3), .val (.int p4), .val (.int vM), .val (.int vm), .val (.int v1), .val (.int v2), .val (.int v3), .val (.ref a4), .val (.ref a28), .val (.ref (cmpA vM vm v1 v3 b0 b2 b1)), .val (.int v61), .val (.int v64), .val (.ref b1)] [])) _
      refine g_iconst X66 hx (1 : Int32) (hb hby at_204) rfl ?_
      show Goes p.tables e below (T66.setTop (mkF m 205 #[.val (.int p0), .val (.int p1), .val (.int p2), .val (.int p3), .val (.int p4), .val (.int vM), .val (.int vm), .val (.int v1), .val (.int v2), .val (.int v3), .val (.ref a4), .val (.ref a28), .val (.ref (cmpA vM vm v1 v3 b0 b2 b1)), .val (.int v61), .val (.int v64), .val (.ref b1)] [(.int (1 : Int32))])) _
      refine g_goto X66 hx (hb hby at_205) (by decide) (pc' := 209) (by decide) ?_
      show Goes p.tables e below (T66.setTop (mkF m 209 #[.val (.int p0), .val (.int p1), .val (.int p2), .val (.int p3), .val (.int p4), .val (.int vM), .val (.int vm), .val (.int v1), .val (.int v2), .val (.int v3), .val (.ref a4), .val (.ref a28), .val (.ref (cmpA vM vm v1 v3 b0 b2 b1)), .val (.int v61), .val (.int v64), .val (.ref b1)] [(.int (1 : Int32))])) _
      exact g_retZ X66 hx (hz := (by decide)) hret hk (hb hby at_209) (by decide) (by decide) ⟨rfl, N63⟩
  · skip
    show Goes p.tables e below (T62.setTop (mkF m 166 #[.val (.int p0), .val (.int p1), .val (.int p2), .val (.int p3), .val (.int p4), .val (.int vM), .val (.int vm), .val (.int v1), .val (.int v2), .val (.int v3), .val (.ref a4), .val (.ref a28), .val (.ref (cmpA vM vm v1 v3 b0 b2 b1)), .val (.int v61), .val (.int v64), .unset] [])) _
    refine g_getS X62 hx hZ hown e62 (host := "") (Or.inl (hw _ (List.mem_of_getElem? (i := 31) rfl))) f47 (hb hby at_166) (fun T67 X67 e67 => ?_)
    show Goes p.tables e below (T67.setTop (mkF m 169 #[.val (.int p0), .val (.int p1), .val (.int p2), .val (.int p3), .val (.int p4), .val (.int vM), .val (.int vm), .val (.int v1), .val (.int v2), .val (.int v3), .val (.ref a4), .val (.ref a28), .val (.ref (cmpA vM vm v1 v3 b0 b2 b1)), .val (.int v61), .val (.int v64), .unset] [(.ref b0)])) _
    refine g_astore X67 hx (hb hby at_169) rfl (l' := #[.val (.int p0), .val (.int p1), .val (.int p2), .val (.int p3), .val (.int p4), .val (.int vM), .val (.int vm), .val (.int v1), .val (.int v2), .val (.int v3), .val (.ref a4), .val (.ref a28), .val (.ref (cmpA vM vm v1 v3 b0 b2 b1)), .val (.int v61), .val (.int v64), .val (.ref b0)]) rfl ?_
    show Goes p.tables e below (T67.setTop (mkF m 171 #[.val (.int p0), .val (.int p1), .val (.int p2), .val (.int p3), .val (.int p4), .val (.int vM), .val (.int vm), .val (.int v1), .val (.int v2), .val (.int v3), .val (.ref a4), .val (.ref a28), .val (.ref (cmpA vM vm v1 v3 b0 b2 b1)), .val (.int v61), .val (.int v64), .val (.ref b0)] [])) _
    refine g_goto X67 hx (hb hby at_171) (by decide) (pc' := 192) (by decide) ?_
    show Goes p.tables e below (T67.setTop (mkF m 192 #[.val (.int p0), .val (.int p1), .val (.int p2), .val (.int p3), .val (.int p4), .val (.int vM), .val (.int vm), .val (.int v1), .val (.int v2), .val (.int v3), .val (.ref a4), .val (.ref a28), .val (.ref (cmpA vM vm v1 v3 b0 b2 b1)), .val (.int v61), .val (.int v64), .val (.ref b0)] [])) _
    refine g_aload X67 hx (hb hby at_192) rfl rfl ?_
    show Goes p.tables e below (T67.setTop (mkF m 194 #[.val (.int p0), .val (.int p1), .val (.int p2), .val (.int p3), .val (.int p4), .val (.int vM), .val (.int vm), .val (.int v1), .val (.int v2), .val (.int v3), .val (.ref a4), .val (.ref a28), .val (.ref (cmpA vM vm v1 v3 b0 b2 b1)), .val (.int v61), .val (.int v64), .val (.ref b0)] [(.ref (cmpA vM vm v1 v3 b0 b2 b1))])) _
    refine g_ifnull_ref X67 hx (hb hby at_194) ?_
    show Goes p.tables e below (T67.setTop (mkF m 197 #[.val (.int p0), .val (.int p1), .val (.int p2), .val (.int p3), .val (.int p4), .val (.int vM), .val (.int vm), .val (.int v1), .val (.int v2), .val (.int v3), .val (.ref a4), .val (.ref a28), .val (.ref (cmpA vM vm v1 v3 b0 b2 b1)), .val (.int v61), .val (.int v64), .val (.ref b0)] [])) _
    refine g_aload X67 hx (hb hby at_197) rfl rfl ?_
    show Goes p.tables e below (T67.setTop (mkF m 199 #[.val (.int p0), .val (.int p1), .val (.int p2), .val (.int p3), .val (.int p4), .val (.int vM), .val (.int vm), .val (.int v1), .val (.int v2), .val (.int v3), .val (.ref a4), .val (.ref a28), .val (.ref (cmpA vM vm v1 v3 b0 b2 b1)), .val (.int v61), .val (.int v64), .val (.ref b0)] [(.ref (cmpA vM vm v1 v3 b0 b2 b1))])) _
    refine g_aload X67 hx (hb hby at_199) rfl rfl ?_
    show Goes p.tables e below (T67.setTop (mkF m 201 #[.val (.int p0), .val (.int p1), .val (.int p2), .val (.int p3), .val (.int p4), .val (.int vM), .val (.int vm), .val (.int v1), .val (.int v2), .val (.int v3), .val (.ref a4), .val (.ref a28), .val (.ref (cmpA vM vm v1 v3 b0 b2 b1)), .val (.int v61), .val (.int v64), .val (.ref b0)] [(.ref b0), (.ref (cmpA vM vm v1 v3 b0 b2 b1))])) _
    have c201 : (Value.ref (cmpA vM vm v1 v3 b0 b2 b1)) = (Value.ref b0) := own_p1 hv61 c163
    refine g_acmp_ne X67 hx rfl rfl (hb hby at_201) (by decide) (pc' := 208) (by decide) (fun q => absurd c201 q) (fun _ => ?_)
    show Goes p.tables e below (T67.setTop (mkF m 204 #[.val (.int p0), .val (.int p1), .val (.int p2), .val (.int p3), .val (.int p4), .val (.int vM), .val (.int vm), .val (.int v1), .val (.int v2), .val (.int v3), .val (.ref a4), .val (.ref a28), .val (.ref (cmpA vM vm v1 v3 b0 b2 b1)), .val (.int v61), .val (.int v64), .val (.ref b0)] [])) _
    refine g_iconst X67 hx (1 : Int32) (hb hby at_204) rfl ?_
    show Goes p.tables e below (T67.setTop (mkF m 205 #[.val (.int p0), .val (.int p1), .val (.int p2), .val (.int p3), .val (.int p4), .val (.int vM), .val (.int vm), .val (.int v1), .val (.int v2), .val (.int v3), .val (.ref a4), .val (.ref a28), .val (.ref (cmpA vM vm v1 v3 b0 b2 b1)), .val (.int v61), .val (.int v64), .val (.ref b0)] [(.int (1 : Int32))])) _
    refine g_goto X67 hx (hb hby at_205) (by decide) (pc' := 209) (by decide) ?_
    show Goes p.tables e below (T67.setTop (mkF m 209 #[.val (.int p0), .val (.int p1), .val (.int p2), .val (.int p3), .val (.int p4), .val (.int vM), .val (.int vm), .val (.int v1), .val (.int v2), .val (.int v3), .val (.ref a4), .val (.ref a28), .val (.ref (cmpA vM vm v1 v3 b0 b2 b1)), .val (.int v61), .val (.int v64), .val (.ref b0)] [(.int (1 : Int32))])) _
    exact g_retZ X67 hx (hz := (by decide)) hret hk (hb hby at_209) (by decide) (by decide) ⟨rfl, N63⟩
set_option maxRecDepth 65536 in
set_option maxHeartbeats 40000000 in
theorem comes_1 {Post : Tables → Env → Array Value → State → Outcome → State → Prop} (hpost : ∀ tb e args s v u, (limb_1_1.after args s (.returned v) u = true ∧ limb_1_2.after args s (.returned v) u = true ∧ True) → FrameEnd s (.returned v) u (Jvm.fieldLocs frame_1_writes args s ++ Jvm.arrayLocs frame_1_arrays args s ++ Jvm.staticLocs frame_1_statics s) 16 128 → Post tb e args s (.returned v) u) :
    ArmFor flags0 classFile x code maxLocals ret World_1 tables_1 room_1 Calls_1 rest_1 Pre_1 Post := by
  intro l hfl _ _ p e ha hc hk s m args below hf hA hF happ hP
  obtain ⟨hcalls, hrest, hpre⟩ := hP
  obtain ⟨-, -, -, hnamed, -, -, -, hat⟩ := (Spec.applies_iff hf).mp happ
  obtain ⟨hg, hn⟩ := and_e (Cond.before_iff.mp (show (Jvm.Cond.and given_1 narrow_1).before args s = true from hpre))
  obtain ⟨h1, hg1⟩ := and_e hg
  obtain ⟨w0, w1, w2, w3, w4, rfl⟩ : ∃ w0 w1 w2 w3 w4 : Value, args = #[w0, w1, w2, w3, w4] := by
    have hs : args.size = 5 := by simpa [Cond.value, given_1] using h1
    obtain ⟨L⟩ := args
    match L, hs with
    | [w0, w1, w2, w3, w4], _ => exact ⟨w0, w1, w2, w3, w4, rfl⟩
  have hw := fun d (hd : d ∈ tables_1) => atoms_spec (ws := Jvm.Cond.code x code maxLocals ret :: tables_1) hat d (List.mem_cons_of_mem _ hd)
  obtain ⟨ha0, hg2⟩ := and_e hg1
  obtain ⟨i0, ei0⟩ := is_v ha0
  obtain rfl : w0 = (.int i0) := Option.some.inj ei0
  obtain ⟨ha1, hg3⟩ := and_e hg2
  obtain ⟨i1, ei1⟩ := is_v ha1
  obtain rfl : w1 = (.int i1) := Option.some.inj ei1
  obtain ⟨ha2, hg4⟩ := and_e hg3
  obtain ⟨i2, ei2⟩ := is_v ha2
  obtain rfl : w2 = (.int i2) := Option.some.inj ei2
  obtain ⟨ha3, hg5⟩ := and_e hg4
  obtain ⟨i3, ei3⟩ := is_v ha3
  obtain rfl : w3 = (.int i3) := Option.some.inj ei3
  obtain ⟨i4, ei4⟩ := is_v hg5
  obtain rfl : w4 = (.int i4) := Option.some.inj ei4
  obtain ⟨n0, hn0⟩ := and_e hn
  obtain ⟨b0, eb0⟩ := exa_v n0
  have Sb0 := Sta.start eb0 (Or.inr ⟨(hw _ (List.mem_of_getElem? (i := 25) rfl)), (hw _ (List.mem_of_getElem? (i := 26) rfl))⟩)
  have Eb0 := Exa.start eb0 n0
  obtain ⟨n1, hn1⟩ := and_e hn0
  obtain ⟨b1, eb1⟩ := exa_v n1
  have Sb1 := Sta.start eb1 (Or.inr ⟨(hw _ (List.mem_of_getElem? (i := 25) rfl)), (hw _ (List.mem_of_getElem? (i := 33) rfl))⟩)
  have Eb1 := Exa.start eb1 n1
  obtain ⟨b2, eb2⟩ := exa_v hn1
  have Sb2 := Sta.start eb2 (Or.inr ⟨(hw _ (List.mem_of_getElem? (i := 25) rfl)), (hw _ (List.mem_of_getElem? (i := 36) rfl))⟩)
  have Eb2 := Exa.start eb2 hn1
  obtain ⟨n, o, h1, h2, h3, _, L, rfl, ⟨rfl, N⟩, hq⟩ := law l s _ hw tables_1 i0 i1 i2 i3 i4 s.heap b0 Sb0 Eb0 b1 Sb1 Eb1 b2 Sb2 Eb2 p e ha hc hk s m _ below hf ((Spec.applies_iff_loose hf).mp happ).1 ⟨rfl, State.Warmed39.refl s, rfl⟩ trivial
  refine ⟨n, _, h1, h2, h3, hpost _ _ _ _ _ _ ⟨Cond.after_iff.mpr rfl, Cond.after_iff.mpr (eq_i res_at (Term.int_eval (1)) rfl), trivial⟩ ⟨hq.1, hq.2.1, (hq.2.2.sift fun y hy => Or.inr (N y hy)).mono (by decide) (by decide)⟩⟩
theorem main_1_1 : Claimed_1_1 := comes_1 fun _ _ _ _ _ _ h hF => ⟨h.1, hF⟩
theorem main_1_2 : Claimed_1_2 := comes_1 fun _ _ _ _ _ _ h hF => ⟨h.2.1, hF⟩
end Jvm.Pilot.@@N@@
namespace Jvm.Pilot.@@N@@
open Jvm Jvm.ClassFile Sem Op Lib Jvm.Free Jvm.Stand Jvm.Pilot.@@N@@.Jvm.D
/-! MADE BY PROGRAM (witnessworld.py) out of the Statement's table words and the real class files: 15 classes; the members and pool entries that the words name. The judged class is class 1, her method 1. -/
namespace start1
open Jvm.ClassFile
def u (s : String) : CpInfo := .utf8 (stringToUtf16 s)
/-- a pool by its gaps: so many unusable entries, then the entry; so many at the end -/
def gap : Nat → List CpInfo → List CpInfo
  | 0, r => r
  | n + 1, r => .unusable :: gap n r
def poolList (es : List (Nat × CpInfo)) (last : Nat) : List CpInfo := es.foldr (fun e r => gap e.1 (e.2 :: r)) (gap last [])
def pool (es : List (Nat × CpInfo)) (last : Nat) : Array CpInfo := ⟨poolList es last⟩
def fileOf (pool : Array CpInfo) (this : Nat) (attrs : Array Attribute := #[]) (ms : Array MethodInfo := #[]) (fl : Nat := 33) (sup : Nat := 0) (ifs : Array Nat := #[]) (fds : Array FieldInfo := #[]) : ClassFile where
  minorVersion := 0
  majorVersion := 65
  constantPool := pool
  accessFlags := fl
  thisClass := this
  superClass := sup
  interfaces := ifs
  fields := fds
  methods := ms
  attributes := attrs
def plain (name : String) (sup : Option ClassId) : Class where
  name := name
  kind := .ordinary
  loader := none
  accessFlags := 33
  super := sup
  interfaces := #[]
  cf := none
  fields := #[]
  methods := #[]
  instanceTypes := #[]
  staticTypes := #[]
  resolved := #[]
  callSites := []
  init := .initialized
  statics := none
  mirror := none

def pool0 : Array CpInfo := pool [(5, u "<init>"), (0, u "()V"), (1, .class_ 10), (1, u "java/lang/Object")] 113

def k0c0 : Code := { maxStack := 0, maxLocals := 1, code := object_method_1_code, exceptionTable := #[], attributes := #[] }
def k0m0 : Method := { name := "<init>", desc := "()V", sig := { parameters := [], returnType := none }, accessFlags := 1, code := some k0c0 }
/-- java/lang/Object -/
def k0 : Class := { plain "java/lang/Object" none with
  accessFlags := 33
  interfaces := #[]
  cf := some (fileOf pool0 8 #[] #[{ accessFlags := 1, nameIndex := 5, descriptorIndex := 6, attributes := #[] }] 33 0 #[] #[])
  fields := #[]
  methods := #[k0m0]
  instanceTypes := #[]
  staticTypes := #[]
  resolved := Array.replicate 124 none
  statics := none }

def pool1 : Array CpInfo := pool [(2, .class_ 4), (1, u "java/lang/Object"), (0, u "<init>"), (0, u "()V"), (0, .integer 2147483647), (0, .class_ 9), (0, u "com/example/gatewarden/gatewarden/server/service/InterfaceVersion"), (0, .methodref 8 11), (0, .nameAndType 5 12), (0, u "(II)V"), (0, .methodref 8 14), (0, .nameAndType 15 16), (0, u "compatibility"), (0, u "(Lcom/example/gatewarden/gatewarden/server/service/InterfaceVersion;)Lcom/example/gatewarden/gatewarden/server/service/InterfaceVersion$Compatibility;"), (0, .methodref 18 19), (0, .class_ 20), (0, .nameAndType 21 22), (0, u "java/lang/Math"), (0, u "max"), (0, u "(II)I"), (0, .fieldref 24 25), (0, .class_ 26), (0, .nameAndType 27 28), (0, u "com/example/gatewarden/gatewarden/server/service/InterfaceVersion$Compatibility"), (0, u "NOT_COMPATIBLE"), (0, u "Lcom/example/gatewarden/gatewarden/server/service/InterfaceVersion$Compatibility;"), (0, .fieldref 24 30), (0, .nameAndType 31 28), (0, u "COMPATIBLE"), (0, .fieldref 24 33), (0, .nameAndType 34 28), (0, u "COMPATIBLE_UNKNOWN"), (0, .class_ 36), (0, u "com/example/gatewarden/gatewarden/server/service/InterfaceVersionCompatibilityPinLaw"), (2, u "law"), (0, u "(IIIII)Z")] 5

def k1m0 : Method := { name := "<init>", desc := "()V", sig := { parameters := [], returnType := none }, accessFlags := 1, code := none }
def k1c1 : Code := { maxStack := 4, maxLocals := 16, code := code, exceptionTable := #[], attributes := #[] }
def k1m1 : Method := { name := "law", desc := "(IIIII)Z", sig := { parameters := [.int, .int, .int, .int, .int], returnType := some .boolean }, accessFlags := 9, code := some k1c1 }
/-- com/example/gatewarden/gatewarden/server/service/InterfaceVersionCompatibilityPinLaw -/
def k1 : Class := { plain "com/example/gatewarden/gatewarden/server/service/InterfaceVersionCompatibilityPinLaw" (some 0) with
  accessFlags := 49
  interfaces := #[]
  cf := some (fileOf pool1 35 #[] #[{ accessFlags := 1, nameIndex := 5, descriptorIndex := 6, attributes := #[] }, { accessFlags := 9, nameIndex := 39, descriptorIndex := 40, attributes := #[] }] 49 2 #[] #[])
  fields := #[]
  methods := #[k1m0, k1m1]
  instanceTypes := #[]
  staticTypes := #[]
  resolved := Array.replicate 46 none
  statics := none }

def pool2 : Array CpInfo := pool [(1, .methodref 2 3), (0, .class_ 4), (0, .nameAndType 5 6), (0, u "java/lang/Object"), (0, u "<init>"), (0, u "()V"), (0, .class_ 8), (0, u "java/lang/Record")] 13

def k2c0 : Code := { maxStack := 1, maxLocals := 1, code := jdk_30_method_1_code, exceptionTable := #[], attributes := #[] }
def k2m0 : Method := { name := "<init>", desc := "()V", sig := { parameters := [], returnType := none }, accessFlags := 4, code := some k2c0 }
/-- java/lang/Record -/
def k2 : Class := { plain "java/lang/Record" (some 0) with
  accessFlags := 1057
  interfaces := #[]
  cf := some (fileOf pool2 7 #[] #[{ accessFlags := 4, nameIndex := 5, descriptorIndex := 6, attributes := #[] }] 1057 2 #[] #[])
  fields := #[]
  methods := #[k2m0]
  instanceTypes := #[]
  staticTypes := #[]
  resolved := Array.replicate 22 none
  statics := none }

def pool3 : Array CpInfo := pool [(1, .methodref 2 3), (0, .class_ 4), (0, .nameAndType 5 6), (0, u "java/lang/Record"), (0, u "<init>"), (0, u "()V"), (0, .fieldref 8 9), (0, .class_ 10), (0, .nameAndType 11 12), (0, u "com/example/gatewarden/gatewarden/server/service/InterfaceVersion"), (0, u "major"), (0, u "I"), (0, .fieldref 8 14), (0, .nameAndType 15 12), (0, u "minor"), (2, .fieldref 19 20), (0, .class_ 21), (0, .nameAndType 22 23), (0, u "com/example/gatewarden/gatewarden/server/service/InterfaceVersion$Compatibility"), (0, u "NOT_COMPATIBLE"), (0, u "Lcom/example/gatewarden/gatewarden/server/service/InterfaceVersion$Compatibility;"), (0, .fieldref 19 25), (0, .nameAndType 26 23), (0, u "COMPATIBLE_UNKNOWN"), (0, .fieldref 19 28), (0, .nameAndType 29 23), (0, u "COMPATIBLE"), (12, u "(II)V"), (5, u "compatibility"), (0, u "(Lcom/example/gatewarden/gatewarden/server/service/InterfaceVersion;)Lcom/example/gatewarden/gatewarden/server/service/InterfaceVersion$Compatibility;")] 27

def k3c0 : Code := { maxStack := 2, maxLocals := 3, code := prog_48_method_1_code, exceptionTable := #[], attributes := #[] }
def k3m0 : Method := { name := "<init>", desc := "(II)V", sig := { parameters := [.int, .int], returnType := none }, accessFlags := 0, code := some k3c0 }
def k3c1 : Code := { maxStack := 2, maxLocals := 3, code := prog_48_method_3_code, exceptionTable := #[], attributes := #[] }
def k3m1 : Method := { name := "compatibility", desc := "(Lcom/example/gatewarden/gatewarden/server/service/InterfaceVersion;)Lcom/example/gatewarden/gatewarden/server/service/InterfaceVersion$Compatibility;", sig := { parameters := [(.object "com/example/gatewarden/gatewarden/server/service/InterfaceVersion")], returnType := some (.object "com/example/gatewarden/gatewarden/server/service/InterfaceVersion$Compatibility") }, accessFlags := 0, code := some k3c1 }
/-- com/example/gatewarden/gatewarden/server/service/InterfaceVersion -/
def k3 : Class := { plain "com/example/gatewarden/gatewarden/server/service/InterfaceVersion" (some 2) with
  accessFlags := 48
  interfaces := #[]
  cf := some (fileOf pool3 8 #[.nestMembers #[19]] #[{ accessFlags := 0, nameIndex := 5, descriptorIndex := 42, attributes := #[] }, { accessFlags := 0, nameIndex := 48, descriptorIndex := 49, attributes := #[] }] 48 2 #[] #[{ accessFlags := 18, nameIndex := 11, descriptorIndex := 12, attributes := #[] }, { accessFlags := 18, nameIndex := 15, descriptorIndex := 12, attributes := #[] }])
  fields := #[{ name := "major", type := .int, accessFlags := 18, slot := 0, constantValue := 0 }, { name := "minor", type := .int, accessFlags := 18, slot := 1, constantValue := 0 }]
  methods := #[k3m0, k3m1]
  instanceTypes := #[.int, .int]
  staticTypes := #[]
  resolved := Array.replicate 77 none
  statics := none }

def pool4 : Array CpInfo := pool [(1, .class_ 2), (0, u "java/lang/constant/Constable"), (0, .class_ 4), (0, u "java/lang/Object")] 6

/-- java/lang/constant/Constable -/
def k4 : Class := { plain "java/lang/constant/Constable" (some 0) with
  accessFlags := 1537
  interfaces := #[]
  cf := some (fileOf pool4 1 #[] #[] 1537 3 #[] #[])
  fields := #[]
  methods := #[]
  instanceTypes := #[]
  staticTypes := #[]
  resolved := Array.replicate 11 none
  statics := none }

def pool5 : Array CpInfo := pool [(1, .class_ 2), (0, u "java/lang/Comparable"), (0, .class_ 4), (0, u "java/lang/Object")] 7

/-- java/lang/Comparable -/
def k5 : Class := { plain "java/lang/Comparable" (some 0) with
  accessFlags := 1537
  interfaces := #[]
  cf := some (fileOf pool5 1 #[] #[] 1537 3 #[] #[])
  fields := #[]
  methods := #[]
  instanceTypes := #[]
  staticTypes := #[]
  resolved := Array.replicate 12 none
  statics := none }

def pool6 : Array CpInfo := pool [(1, .class_ 2), (0, u "java/io/Serializable"), (0, .class_ 4), (0, u "java/lang/Object")] 2

/-- java/io/Serializable -/
def k6 : Class := { plain "java/io/Serializable" (some 0) with
  accessFlags := 1537
  interfaces := #[]
  cf := some (fileOf pool6 1 #[] #[] 1537 3 #[] #[])
  fields := #[]
  methods := #[]
  instanceTypes := #[]
  staticTypes := #[]
  resolved := Array.replicate 7 none
  statics := none }

def pool7 : Array CpInfo := pool [(2, .class_ 4), (1, u "java/lang/Enum"), (0, u "name"), (0, u "Ljava/lang/String;"), (2, u "ordinal"), (0, u "I"), (1, .class_ 14), (1, u "java/lang/Object"), (4, u "hash"), (86, .class_ 108), (1, u "java/lang/Enum$EnumDesc"), (2, .class_ 112), (0, u "java/lang/constant/Constable"), (0, .class_ 114), (0, u "java/lang/Comparable"), (0, .class_ 116), (0, u "java/io/Serializable")] 87

/-- java/lang/Enum -/
def k7 : Class := { plain "java/lang/Enum" (some 0) with
  accessFlags := 1057
  interfaces := #[4, 5, 6]
  cf := some (fileOf pool7 2 #[.nestMembers #[106]] #[] 1057 12 #[111, 113, 115] #[{ accessFlags := 18, nameIndex := 5, descriptorIndex := 6, attributes := #[] }, { accessFlags := 18, nameIndex := 9, descriptorIndex := 10, attributes := #[] }, { accessFlags := 2, nameIndex := 19, descriptorIndex := 10, attributes := #[] }])
  fields := #[{ name := "name", type := (.object "java/lang/String"), accessFlags := 18, slot := 0, constantValue := 0 }, { name := "ordinal", type := .int, accessFlags := 18, slot := 1, constantValue := 0 }, { name := "hash", type := .int, accessFlags := 2, slot := 2, constantValue := 0 }]
  methods := #[]
  instanceTypes := #[(.object "java/lang/String"), .int, .int]
  staticTypes := #[]
  resolved := Array.replicate 204 none
  statics := none }

def pool8 : Array CpInfo := pool [(1, .class_ 2), (0, u "com/example/gatewarden/gatewarden/server/service/InterfaceVersion$Compatibility"), (2, u "COMPATIBLE"), (0, u "Lcom/example/gatewarden/gatewarden/server/service/InterfaceVersion$Compatibility;"), (2, u "COMPATIBLE_UNKNOWN"), (2, u "NOT_COMPATIBLE"), (2, u "$VALUES"), (0, u "[Lcom/example/gatewarden/gatewarden/server/service/InterfaceVersion$Compatibility;"), (6, .class_ 25), (1, u "java/lang/Enum"), (26, .class_ 53), (0, u "com/example/gatewarden/gatewarden/server/service/InterfaceVersion")] 2

/-- com/example/gatewarden/gatewarden/server/service/InterfaceVersion$Compatibility -/
def k8 : Class := { plain "com/example/gatewarden/gatewarden/server/service/InterfaceVersion$Compatibility" (some 7) with
  accessFlags := 16432
  interfaces := #[]
  cf := some (fileOf pool8 1 #[.nestHost 52] #[] 16432 23 #[] #[{ accessFlags := 16409, nameIndex := 5, descriptorIndex := 6, attributes := #[] }, { accessFlags := 16409, nameIndex := 9, descriptorIndex := 6, attributes := #[] }, { accessFlags := 16409, nameIndex := 12, descriptorIndex := 6, attributes := #[] }, { accessFlags := 4122, nameIndex := 15, descriptorIndex := 16, attributes := #[] }])
  fields := #[{ name := "COMPATIBLE", type := (.object "com/example/gatewarden/gatewarden/server/service/InterfaceVersion$Compatibility"), accessFlags := 16409, slot := 0, constantValue := 0 }, { name := "COMPATIBLE_UNKNOWN", type := (.object "com/example/gatewarden/gatewarden/server/service/InterfaceVersion$Compatibility"), accessFlags := 16409, slot := 1, constantValue := 0 }, { name := "NOT_COMPATIBLE", type := (.object "com/example/gatewarden/gatewarden/server/service/InterfaceVersion$Compatibility"), accessFlags := 16409, slot := 2, constantValue := 0 }, { name := "$VALUES", type := (.array (.object "com/example/gatewarden/gatewarden/server/service/InterfaceVersion$Compatibility")), accessFlags := 4122, slot := 3, constantValue := 0 }]
  methods := #[]
  instanceTypes := #[(.object "java/lang/String"), .int, .int]
  staticTypes := #[(.object "com/example/gatewarden/gatewarden/server/service/InterfaceVersion$Compatibility"), (.object "com/example/gatewarden/gatewarden/server/service/InterfaceVersion$Compatibility"), (.object "com/example/gatewarden/gatewarden/server/service/InterfaceVersion$Compatibility"), (.array (.object "com/example/gatewarden/gatewarden/server/service/InterfaceVersion$Compatibility"))]
  resolved := Array.replicate 56 none
  statics := some 0 }

def pool9 : Array CpInfo := pool [(1, .class_ 2), (0, u "java/lang/Math"), (1, .class_ 6), (1, u "java/lang/Object"), (0, u "<init>"), (0, u "()V"), (89, .class_ 100), (1, u "java/lang/Math$RandomNumberGeneratorHolder"), (71, u "negativeZeroFloatBits"), (0, u "J"), (2, u "negativeZeroDoubleBits"), (21, u "max"), (46, u "$assertionsDisabled"), (0, u "Z"), (88, u "(II)I"), (2, u "twoToTheDoubleScaleDown"), (0, u "D"), (4, u "twoToTheDoubleScaleUp"), (9, u "E"), (3, u "PI"), (2, u "TAU"), (2, u "DEGREES_TO_RADIANS"), (0, u "RADIANS_TO_DEGREES")] 94

def k9m0 : Method := { name := "<init>", desc := "()V", sig := { parameters := [], returnType := none }, accessFlags := 2, code := none }
def k9c1 : Code := { maxStack := 2, maxLocals := 2, code := jdk_29_method_65_code, exceptionTable := #[], attributes := #[] }
def k9m1 : Method := { name := "max", desc := "(II)I", sig := { parameters := [.int, .int], returnType := some .int }, accessFlags := 9, code := some k9c1 }
/-- java/lang/Math -/
def k9 : Class := { plain "java/lang/Math" (some 0) with
  accessFlags := 49
  interfaces := #[]
  cf := some (fileOf pool9 1 #[.nestMembers #[98]] #[{ accessFlags := 2, nameIndex := 7, descriptorIndex := 8, attributes := #[] }, { accessFlags := 9, nameIndex := 198, descriptorIndex := 335, attributes := #[] }] 49 4 #[] #[{ accessFlags := 25, nameIndex := 354, descriptorIndex := 339, attributes := #[] }, { accessFlags := 25, nameIndex := 358, descriptorIndex := 339, attributes := #[] }, { accessFlags := 25, nameIndex := 361, descriptorIndex := 339, attributes := #[] }, { accessFlags := 26, nameIndex := 364, descriptorIndex := 339, attributes := #[] }, { accessFlags := 26, nameIndex := 365, descriptorIndex := 339, attributes := #[] }, { accessFlags := 26, nameIndex := 172, descriptorIndex := 173, attributes := #[] }, { accessFlags := 26, nameIndex := 176, descriptorIndex := 173, attributes := #[] }, { accessFlags := 8, nameIndex := 344, descriptorIndex := 339, attributes := #[] }, { accessFlags := 8, nameIndex := 338, descriptorIndex := 339, attributes := #[] }, { accessFlags := 4120, nameIndex := 245, descriptorIndex := 246, attributes := #[] }])
  fields := #[{ name := "E", type := .double, accessFlags := 25, slot := 0, constantValue := 0 }, { name := "PI", type := .double, accessFlags := 25, slot := 1, constantValue := 0 }, { name := "TAU", type := .double, accessFlags := 25, slot := 2, constantValue := 0 }, { name := "DEGREES_TO_RADIANS", type := .double, accessFlags := 26, slot := 3, constantValue := 0 }, { name := "RADIANS_TO_DEGREES", type := .double, accessFlags := 26, slot := 4, constantValue := 0 }, { name := "negativeZeroFloatBits", type := .long, accessFlags := 26, slot := 5, constantValue := 0 }, { name := "negativeZeroDoubleBits", type := .long, accessFlags := 26, slot := 6, constantValue := 0 }, { name := "twoToTheDoubleScaleUp", type := .double, accessFlags := 8, slot := 7, constantValue := 0 }, { name := "twoToTheDoubleScaleDown", type := .double, accessFlags := 8, slot := 8, constantValue := 0 }, { name := "$assertionsDisabled", type := .boolean, accessFlags := 4120, slot := 9, constantValue := 0 }]
  methods := #[k9m0, k9m1]
  instanceTypes := #[]
  staticTypes := #[.double, .double, .double, .double, .double, .long, .long, .double, .double, .boolean]
  resolved := Array.replicate 460 none
  statics := none }

def pool10 : Array CpInfo := pool [(1, u "java/lang/Cloneable"), (0, .class_ 1), (0, u "java/lang/Object"), (0, .class_ 3)] 3

/-- java/lang/Cloneable -/
def k10 : Class := { plain "java/lang/Cloneable" (some 0) with
  accessFlags := 1537
  interfaces := #[]
  cf := some (fileOf pool10 2 #[] #[] 1537 4 #[] #[])
  fields := #[]
  methods := #[]
  instanceTypes := #[]
  staticTypes := #[]
  resolved := Array.replicate 8 none
  statics := none }

/-- the primitive byte -/
def k11 : Class := { plain "byte" none with kind := .primitive 'B', accessFlags := 0x411 }
/-- [B -/
def k12 : Class := { plain "[B" (some 0) with kind := .array 11 .byte, interfaces := #[10, 6], accessFlags := 1041 }

/-- the primitive int -/
def k13 : Class := { plain "int" none with kind := .primitive 'I', accessFlags := 0x411 }
/-- [I -/
def k14 : Class := { plain "[I" (some 0) with kind := .array 13 .int, interfaces := #[10, 6], accessFlags := 1041 }

def heap : Heap := #[{ cls := 8, slots := #[.ref 2, .ref 3, .ref 1, .null], vm := .statics 8 },
  { cls := 8, slots := #[.null, .int 0, .int 0], vm := .none },
  { cls := 8, slots := #[.null, .int 0, .int 0], vm := .none },
  { cls := 8, slots := #[.null, .int 0, .int 0], vm := .none }]
def classes : Array Class := #[k0, k1, k2, k3, k4, k5, k6, k7, k8, k9, k10, k11, k12, k13, k14]
def interned : List (Array UInt16 × Addr) := []
def slotsUsed : Nat := 13
def theMethod : MethodId := ⟨1, 1⟩
def args0 : Array Value := #[.int 5, .int 7, .int 3, .int 4, .int 0]
def aboutOver (below : List Frame) : State where
  vm := { classes := classes, interned := interned.toArray }
  heap := heap
  slotsUsed := slotsUsed
  threads := #[{ frames := .invoking theMethod args0 :: below }]
def below0 : List Frame := [.native { method := ⟨0, 0⟩, args := #[] }]
def about1 : State := aboutOver below0
def p0 : Program := .bare "" "" ""
def e0 : Env := launch0.env 0 0 0
theorem w_frames : about1.frames = Frame.invoking theMethod args0 :: below0 := rfl
set_option maxRecDepth 65536 in
theorem w_args : argsFit about1.vm theMethod args0 = true := by decide +kernel
set_option maxRecDepth 65536 in
theorem w_heap : heapFits about1 = true := by decide +kernel
set_option maxRecDepth 65536 in
theorem w_runnable : about1.curStatus? = some .runnable := by decide +kernel
set_option maxRecDepth 65536 in
theorem w_alone : about1.alone = true := by decide +kernel
set_option maxRecDepth 65536 in
theorem w_named : about1.methodNamed? x = some theMethod := by decide +kernel
set_option maxRecDepth 65536 in
theorem w_hears : about1.hears theMethod below0 = true := by decide +kernel
set_option maxRecDepth 65536 in
theorem w_ripe : about1.ripe theMethod args0 below0 = true := by decide +kernel
theorem w_running : about1.status = .running := rfl
set_option maxRecDepth 65536 in
theorem w_room : about1.hasRoom e0.platform room_1 = true :=
  launch0.hasRoom_least _ room_1 (by decide +kernel) (by decide +kernel) (by decide +kernel) (by decide +kernel) (by decide +kernel) (by decide +kernel)
theorem allAtoms_all (ts : List Jvm.Cond) (a : Array Jvm.Value) (st : Jvm.State) : (allAtoms ts).before a st = ts.all (fun c => c.before a st) := by
  induction ts with
  | nil => rfl
  | cons c t ih =>
    show (Jvm.Cond.and c (allAtoms t)).before a st = _
    rw [Jvm.Cond.before_and, ih, List.all_cons]
def words1 : List Jvm.Cond := Jvm.Cond.code x code maxLocals ret :: tables_1
/-- a 'code' word, met by the world's own term for the bytes: nothing is compared byte by byte -/
theorem code_word {y : MethodName} {bytes : ByteArray} {mx : Nat} {rt : Option FieldType} {a : Array Value} {s : State} {m : MethodId} {meth : Method} {c : Code} (h1 : s.methodNamed? y = some m) (h2 : s.vm.method? m = some meth) (h3 : meth.code = some c) (h4 : c.code = bytes)
    (h5 : (c.maxLocals == mx && c.exceptionTable.isEmpty && decide (c.maxStack ≤ mostOperands) && decide (meth.sig.returnType = rt) && !meth.locks && decide (parseMethodDescriptor y.desc = some meth.sig)) = true) : (Jvm.Cond.code y bytes mx rt).before a s = true := by
  simp only [Bool.and_eq_true, beq_iff_eq, Bool.not_eq_true', decide_eq_true_eq] at h5
  obtain ⟨⟨⟨⟨⟨g1, g2⟩, g3⟩, g4⟩, g5⟩, g6⟩ := h5
  simp [Cond.before, Cond.holds, Cond.value, h1, h2, h3, h4, g1, g2, g3, g4, g5, g6]
def isCode : Jvm.Cond → Bool
  | .code _ _ _ _ => true
  | _ => false
theorem all_split {L : List Jvm.Cond} {P : Jvm.Cond → Bool} (h1 : L.all (fun c => isCode c || P c) = true) (h2 : ∀ c ∈ L.filter isCode, P c = true) : L.all P = true := by
  refine List.all_eq_true.mpr fun c hc => ?_
  have h := List.all_eq_true.mp h1 c hc
  rcases Bool.eq_false_or_eq_true (isCode c) with hi | hi
  · exact h2 c (List.mem_filter.mpr ⟨hc, hi⟩)
  · simpa [hi] using h
set_option maxRecDepth 65536 in
theorem w_c0 : (Jvm.Cond.code x code maxLocals ret).before args0 about1 = true := code_word (m := ⟨1, 1⟩) (meth := k1m1) (c := k1c1) (by decide +kernel) rfl rfl rfl (by decide +kernel)
set_option maxRecDepth 65536 in
theorem w_c1 : (Jvm.Cond.code ({ cls := "com/example/gatewarden/gatewarden/server/service/InterfaceVersion", name := "<init>", desc := "(II)V" } : Jvm.MethodName) prog_48_method_1_code (3 : Nat) (Option.none : Option Jvm.ClassFile.FieldType)).before args0 about1 = true := code_word (m := ⟨3, 0⟩) (meth := k3m0) (c := k3c0) (by decide +kernel) rfl rfl rfl (by decide +kernel)
set_option maxRecDepth 65536 in
theorem w_c2 : (Jvm.Cond.code ({ cls := "java/lang/Record", name := "<init>", desc := "()V" } : Jvm.MethodName) jdk_30_method_1_code (1 : Nat) (Option.none : Option Jvm.ClassFile.FieldType)).before args0 about1 = true := code_word (m := ⟨2, 0⟩) (meth := k2m0) (c := k2c0) (by decide +kernel) rfl rfl rfl (by decide +kernel)
set_option maxRecDepth 65536 in
theorem w_c3 : (Jvm.Cond.code ({ cls := "java/lang/Object", name := "<init>", desc := "()V" } : Jvm.MethodName) object_method_1_code (1 : Nat) (Option.none : Option Jvm.ClassFile.FieldType)).before args0 about1 = true := code_word (m := ⟨0, 0⟩) (meth := k0m0) (c := k0c0) (by decide +kernel) rfl rfl rfl (by decide +kernel)
set_option maxRecDepth 65536 in
theorem w_c4 : (Jvm.Cond.code ({ cls := "com/example/gatewarden/gatewarden/server/service/InterfaceVersion", name := "compatibility", desc := "(Lcom/example/gatewarden/gatewarden/server/service/InterfaceVersion;)Lcom/example/gatewarden/gatewarden/server/service/InterfaceVersion$Compatibility;" } : Jvm.MethodName) prog_48_method_3_code (3 : Nat) (Option.some (Jvm.ClassFile.FieldType.object "com/example/gatewarden/gatewarden/server/service/InterfaceVersion$Compatibility"))).before args0 about1 = true := code_word (m := ⟨3, 1⟩) (meth := k3m1) (c := k3c1) (by decide +kernel) rfl rfl rfl (by decide +kernel)
set_option maxRecDepth 65536 in
theorem w_c5 : (Jvm.Cond.code ({ cls := "java/lang/Math", name := "max", desc := "(II)I" } : Jvm.MethodName) jdk_29_method_65_code (2 : Nat) (Option.some Jvm.ClassFile.FieldType.int)).before args0 about1 = true := code_word (m := ⟨9, 1⟩) (meth := k9m1) (c := k9c1) (by decide +kernel) rfl rfl rfl (by decide +kernel)
def codes1 : List Jvm.Cond := [Jvm.Cond.code x code maxLocals ret, Jvm.Cond.code ({ cls := "com/example/gatewarden/gatewarden/server/service/InterfaceVersion", name := "<init>", desc := "(II)V" } : Jvm.MethodName) prog_48_method_1_code (3 : Nat) (Option.none : Option Jvm.ClassFile.FieldType), Jvm.Cond.code ({ cls := "java/lang/Record", name := "<init>", desc := "()V" } : Jvm.MethodName) jdk_30_method_1_code (1 : Nat) (Option.none : Option Jvm.ClassFile.FieldType), Jvm.Cond.code ({ cls := "java/lang/Object", name := "<init>", desc := "()V" } : Jvm.MethodName) object_method_1_code (1 : Nat) (Option.none : Option Jvm.ClassFile.FieldType), Jvm.Cond.code ({ cls := "com/example/gatewarden/gatewarden/server/service/InterfaceVersion", name := "compatibility", desc := "(Lcom/example/gatewarden/gatewarden/server/service/InterfaceVersion;)Lcom/example/gatewarden/gatewarden/server/service/InterfaceVersion$Compatibility;" } : Jvm.MethodName) prog_48_method_3_code (3 : Nat) (Option.some (Jvm.ClassFile.FieldType.object "com/example/gatewarden/gatewarden/server/service/InterfaceVersion$Compatibility")), Jvm.Cond.code ({ cls := "java/lang/Math", name := "max", desc := "(II)I" } : Jvm.MethodName) jdk_29_method_65_code (2 : Nat) (Option.some Jvm.ClassFile.FieldType.int)]
set_option maxRecDepth 65536 in
theorem codes_eq : words1.filter isCode = codes1 := rfl
theorem w_codes : ∀ c ∈ words1.filter isCode, c.before args0 about1 = true := by
  rw [codes_eq]
  intro c hc
  simp only [codes1, List.mem_cons, List.not_mem_nil, or_false] at hc
  rcases hc with rfl | rfl | rfl | rfl | rfl | rfl
  · exact w_c0
  · exact w_c1
  · exact w_c2
  · exact w_c3
  · exact w_c4
  · exact w_c5
set_option maxRecDepth 65536 in
theorem w_t1 : (words1.take 24).all (fun c => isCode c || c.before args0 about1) = true := by decide +kernel
set_option maxRecDepth 65536 in
theorem w_t2 : (words1.drop 24).all (fun c => isCode c || c.before args0 about1) = true := by decide +kernel
theorem w_tables : (allAtoms (Jvm.Cond.code x code maxLocals ret :: tables_1)).before args0 about1 = true := by
  rw [allAtoms_all]
  show words1.all (fun c => c.before args0 about1) = true
  refine all_split ?_ w_codes
  rw [← List.take_append_drop 24 words1, List.all_append, w_t1, w_t2]
  rfl
set_option maxRecDepth 65536 in
theorem w_case : (Jvm.Cond.and given_1 narrow_1).before args0 about1 = true := by decide +kernel
theorem w_applies : (headSpec (Jvm.Cond.code x code maxLocals ret :: tables_1) room_1).applies x e0.platform about1 = true :=
  (Spec.applies_iff w_frames).mpr ⟨w_running, w_runnable, w_alone, w_named, w_hears, w_ripe, w_room, w_tables⟩
theorem atStart : AtStart classFile x code maxLocals ret World_1 tables_1 room_1 Calls_1 rest_1 Pre_1 launch0 p0 e0 about1 theMethod args0 below0 :=
  ⟨lists_1, trivial, launch0.admits_env _ _ _, launch0.least_env, fairChoices_fair.cas, fairChoices_fair.clock, w_frames, w_args, w_heap, w_applies, trivial, trivial, w_case⟩
end start1
theorem witness_1 : WitnessClaimed_1 := ⟨start1.p0, start1.e0, start1.about1, start1.theMethod, start1.args0, start1.below0, start1.atStart⟩
end Jvm.Pilot.@@N@@
