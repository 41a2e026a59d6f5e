import JvmDerived
import JvmDerived.Pilot.@@N@@Statement
import JvmDerived.Pilot.@@N@@Code
set_option linter.unusedVariables false
set_option linter.unusedSimpArgs false
namespace Jvm.OwnW
open Sem ClassFile Op Lib Jvm.Stand Jvm.Free Jvm.LawKit Jvm.RoadKit
/-- from the state S the walk over 'below' comes to an end of which P holds -/
def Goes (tb : Tables) (e : Env) (below : List Frame) (S : State) (P : State → Outcome → Prop) : Prop :=
  ∃ s₂ o, Steps tb e below S s₂ ∧ s₂.status = .running ∧ Ended s₂ below o ∧ P s₂ o
section Walk
variable {p : Program} {l : Launch} {e : Env} {R : Room} {s : State} {m : MethodId} {args : Array Value} {below : List Frame} {meth : Method} {c : Code} {T : State} {locs : List Loc} {cells slots : Nat} {P : State → Outcome → Prop} {pc : Nat} {Ls : Array Slot} {st : List Value} {Z : State} {a0 : Array Value} {h : Heap}
theorem Goes.of {tb : Tables} {S S' : State} (k : Goes tb e below S' P) (h : ∀ t, Steps tb e below S' t → Steps tb e below S t) : Goes tb e below S P := by
  obtain ⟨s₂, o, h1, h2⟩ := k
  exact ⟨s₂, o, h _ h1, h2⟩
theorem Goes.tr {tb : Tables} {S S' : State} (k : Goes tb e below S' P) (h : Steps tb e below S S') : Goes tb e below S P := by
  obtain ⟨s₂, o, h1, h2⟩ := k
  exact ⟨s₂, o, h.trans h1, h2⟩
theorem Goes.join {tb : Tables} {S S' : State} (h1 : Goes tb e below S' P → Goes tb e below S P) (h2 : Goes tb e below S' P) : Goes tb e below S P := h1 h2
theorem Goes.cast {tb : Tables} {g g' : JFrame} (q : g = g') (k : Goes tb e below (T.setTop g') P) : Goes tb e below (T.setTop g) P := q ▸ k
theorem g_nameI {x v : Int32} (q : v = x) (k : Goes p.tables e below (T.setTop (mkF m pc Ls (.int v :: st))) P) : Goes p.tables e below (T.setTop (mkF m pc Ls (.int x :: st))) P := q ▸ k
theorem g_nameL {x v : Int64} (q : v = x) (k : Goes p.tables e below (T.setTop (mkF m pc Ls (.long v :: st))) P) : Goes p.tables e below (T.setTop (mkF m pc Ls (.long x :: st))) P := q ▸ k
theorem g_iloadN (X : Stand p l e R s m args below meth c T locs cells slots) (hx : p.tables.exec = Jvm.exec) {k : Fin 4} {v : Int32} (hd : decode c.code pc = .ok (.iload_n k, 1)) (hl : Ls[k.val]? = some (.val (.int v))) (hr : Goes p.tables e below (T.setTop (mkF m (pc + 1) Ls (.int v :: st))) P) : Goes p.tables e below (T.setTop (mkF m pc Ls st)) P := hr.of fun _ k => XS.iloadN X.here hx rfl hd hl k
theorem g_iload (X : Stand p l e R s m args below meth c T locs cells slots) (hx : p.tables.exec = Jvm.exec) {k : Nat} {v : Int32} (hd : decode c.code pc = .ok (.iload k, 2)) (hl : Ls[k]? = some (.val (.int v))) (hr : Goes p.tables e below (T.setTop (mkF m (pc + 2) Ls (.int v :: st))) P) : Goes p.tables e below (T.setTop (mkF m pc Ls st)) P := hr.of fun _ k => XS.iload X.here hx rfl hd hl k
theorem g_lloadN (X : Stand p l e R s m args below meth c T locs cells slots) (hx : p.tables.exec = Jvm.exec) {k : Fin 4} {v : Int64} (hd : decode c.code pc = .ok (.lload_n k, 1)) (hl : Ls[k.val]? = some (.val (.long v))) (hr : Goes p.tables e below (T.setTop (mkF m (pc + 1) Ls (.long v :: st))) P) : Goes p.tables e below (T.setTop (mkF m pc Ls st)) P := hr.of fun _ k => XT.lloadN X.here hx rfl hd hl k
theorem g_lload (X : Stand p l e R s m args below meth c T locs cells slots) (hx : p.tables.exec = Jvm.exec) {k : Nat} {v : Int64} (hd : decode c.code pc = .ok (.lload k, 2)) (hl : Ls[k]? = some (.val (.long v))) (hr : Goes p.tables e below (T.setTop (mkF m (pc + 2) Ls (.long v :: st))) P) : Goes p.tables e below (T.setTop (mkF m pc Ls st)) P := hr.of fun _ k => XT.lload X.here hx rfl hd hl k
theorem g_aloadN (X : Stand p l e R s m args below meth c T locs cells slots) (hx : p.tables.exec = Jvm.exec) {k : Fin 4} {v : Value} (hd : decode c.code pc = .ok (.aload_n k, 1)) (hl : Ls[k.val]? = some (.val v)) (hv : v.isRef = true) (hr : Goes p.tables e below (T.setTop (mkF m (pc + 1) Ls (v :: st))) P) : Goes p.tables e below (T.setTop (mkF m pc Ls st)) P := hr.of fun _ k => XS.aloadN X.here hx rfl hd hl hv k
theorem g_aload (X : Stand p l e R s m args below meth c T locs cells slots) (hx : p.tables.exec = Jvm.exec) {k : Nat} {v : Value} (hd : decode c.code pc = .ok (.aload k, 2)) (hl : Ls[k]? = some (.val v)) (hv : v.isRef = true) (hr : Goes p.tables e below (T.setTop (mkF m (pc + 2) Ls (v :: st))) P) : Goes p.tables e below (T.setTop (mkF m pc Ls st)) P := hr.of fun _ k => XS.aload X.here hx rfl hd hl hv k
theorem g_istoreN (X : Stand p l e R s m args below meth c T locs cells slots) (hx : p.tables.exec = Jvm.exec) {k : Fin 4} {x : Int32} {l' : Array Slot} (hd : decode c.code pc = .ok (.istore_n k, 1)) (hl : storeLocals Ls k.val (.int x) = some l') (hr : Goes p.tables e below (T.setTop (mkF m (pc + 1) l' st)) P) : Goes p.tables e below (T.setTop (mkF m pc Ls (.int x :: st))) P := hr.of fun _ k => XS.istoreN X.here hx rfl hd rfl hl k
theorem g_istore (X : Stand p l e R s m args below meth c T locs cells slots) (hx : p.tables.exec = Jvm.exec) {k : Nat} {x : Int32} {l' : Array Slot} (hd : decode c.code pc = .ok (.istore k, 2)) (hl : storeLocals Ls k (.int x) = some l') (hr : Goes p.tables e below (T.setTop (mkF m (pc + 2) l' st)) P) : Goes p.tables e below (T.setTop (mkF m pc Ls (.int x :: st))) P := hr.of fun _ k => XS.istore X.here hx rfl hd rfl hl k
theorem g_lstoreN (X : Stand p l e R s m args below meth c T locs cells slots) (hx : p.tables.exec = Jvm.exec) {k : Fin 4} {x : Int64} {l' : Array Slot} (hd : decode c.code pc = .ok (.lstore_n k, 1)) (hl : storeLocals Ls k.val (.long x) = some l') (hr : Goes p.tables e below (T.setTop (mkF m (pc + 1) l' st)) P) : Goes p.tables e below (T.setTop (mkF m pc Ls (.long x :: st))) P := hr.of fun _ k => XT.lstoreN X.here hx rfl hd rfl hl k
theorem g_lstore (X : Stand p l e R s m args below meth c T locs cells slots) (hx : p.tables.exec = Jvm.exec) {k : Nat} {x : Int64} {l' : Array Slot} (hd : decode c.code pc = .ok (.lstore k, 2)) (hl : storeLocals Ls k (.long x) = some l') (hr : Goes p.tables e below (T.setTop (mkF m (pc + 2) l' st)) P) : Goes p.tables e below (T.setTop (mkF m pc Ls (.long x :: st))) P := hr.of fun _ k => XT.lstore X.here hx rfl hd rfl hl k
theorem g_astoreN (X : Stand p l e R s m args below meth c T locs cells slots) (hx : p.tables.exec = Jvm.exec) {k : Fin 4} {x : Value} {l' : Array Slot} (hd : decode c.code pc = .ok (.astore_n k, 1)) (hv : x.isRef = true) (hl : storeLocals Ls k.val x = some l') (hr : Goes p.tables e below (T.setTop (mkF m (pc + 1) l' st)) P) : Goes p.tables e below (T.setTop (mkF m pc Ls (x :: st))) P := hr.of fun _ k => XS.astoreN X.here hx rfl hd rfl hv hl k
theorem g_astore (X : Stand p l e R s m args below meth c T locs cells slots) (hx : p.tables.exec = Jvm.exec) {k : Nat} {x : Value} {l' : Array Slot} (hd : decode c.code pc = .ok (.astore k, 2)) (hv : x.isRef = true) (hl : storeLocals Ls k x = some l') (hr : Goes p.tables e below (T.setTop (mkF m (pc + 2) l' st)) P) : Goes p.tables e below (T.setTop (mkF m pc Ls (x :: st))) P := hr.of fun _ k => XS.astore X.here hx rfl hd rfl hv hl k
theorem g_istoreS (X : Stand p l e R s m args below meth c T locs cells slots) (hx : p.tables.exec = Jvm.exec) {k : Nat} {x : Int32} {o : Slot} (hd : decode c.code pc = .ok (.istore k, 2)) (hold : Ls[k]? = some o) (ho : One o) (hr : Goes p.tables e below (T.setTop (mkF m (pc + 2) (Ls.setIfInBounds k (.val (.int x))) st)) P) : Goes p.tables e below (T.setTop (mkF m pc Ls (.int x :: st))) P := hr.of fun _ k => XS.istoreS X.here hx rfl hd rfl hold ho k
theorem g_istoreNS (X : Stand p l e R s m args below meth c T locs cells slots) (hx : p.tables.exec = Jvm.exec) {k : Fin 4} {x : Int32} {o : Slot} (hd : decode c.code pc = .ok (.istore_n k, 1)) (hold : Ls[k.val]? = some o) (ho : One o) (hr : Goes p.tables e below (T.setTop (mkF m (pc + 1) (Ls.setIfInBounds k.val (.val (.int x))) st)) P) : Goes p.tables e below (T.setTop (mkF m pc Ls (.int x :: st))) P := hr.of fun _ k => XS.istoreNS X.here hx rfl hd rfl hold ho k
theorem g_iconst (X : Stand p l e R s m args below meth c T locs cells slots) (hx : p.tables.exec = Jvm.exec) {i : Int} (v : Int32) (hd : decode c.code pc = .ok (.iconst i, 1)) (hv : Int32.ofInt i = v) (hr : Goes p.tables e below (T.setTop (mkF m (pc + 1) Ls (.int v :: st))) P) : Goes p.tables e below (T.setTop (mkF m pc Ls st)) P := hr.of fun _ k => XT.iconstV X.here hx rfl v hd hv k
theorem g_bipush (X : Stand p l e R s m args below meth c T locs cells slots) (hx : p.tables.exec = Jvm.exec) {i : Int} (v : Int32) (hd : decode c.code pc = .ok (.bipush i, 2)) (hv : (Int8.ofInt i).toInt32 = v) (hr : Goes p.tables e below (T.setTop (mkF m (pc + 2) Ls (.int v :: st))) P) : Goes p.tables e below (T.setTop (mkF m pc Ls st)) P := hr.of fun _ k => XT.bipushV X.here hx rfl v hd hv k
theorem g_sipush (X : Stand p l e R s m args below meth c T locs cells slots) (hx : p.tables.exec = Jvm.exec) {i : Int} (v : Int32) (hd : decode c.code pc = .ok (.sipush i, 3)) (hv : (Int16.ofInt i).toInt32 = v) (hr : Goes p.tables e below (T.setTop (mkF m (pc + 3) Ls (.int v :: st))) P) : Goes p.tables e below (T.setTop (mkF m pc Ls st)) P := hr.of fun _ k => XT.sipushV X.here hx rfl v hd hv k
theorem g_lconst (X : Stand p l e R s m args below meth c T locs cells slots) (hx : p.tables.exec = Jvm.exec) {i : Fin 2} (v : Int64) (hd : decode c.code pc = .ok (.lconst i, 1)) (hv : Int64.ofNat i = v) (hr : Goes p.tables e below (T.setTop (mkF m (pc + 1) Ls (.long v :: st))) P) : Goes p.tables e below (T.setTop (mkF m pc Ls st)) P := hr.of fun _ k => XT.lconstV X.here hx rfl v hd hv k
theorem g_null (X : Stand p l e R s m args below meth c T locs cells slots) (hx : p.tables.exec = Jvm.exec)  (hd : decode c.code pc = .ok (.aconst_null, 1)) (hr : Goes p.tables e below (T.setTop (mkF m (pc + 1) Ls (.null :: st))) P) : Goes p.tables e below (T.setTop (mkF m pc Ls st)) P := hr.of fun _ k => XS.aconstNull X.here hx rfl hd k
theorem g_ldc (X : Stand p l e R s m args below meth c T locs cells slots) (hx : p.tables.exec = Jvm.exec) {own : String} {index : Nat} {v : Int32} (hZ : Z.Warmed39 s.vm) (hown : s.vm.findClass own = some m.cls) (wk : (Jvm.Cond.constant own index v).before a0 Z = true) (hd : decode c.code pc = .ok (.ldc index, 2)) (hr : Goes p.tables e below (T.setTop (mkF m (pc + 2) Ls (.int v :: st))) P) : Goes p.tables e below (T.setTop (mkF m pc Ls st)) P := hr.of fun _ k => X.ldcI hx hown (mvT hZ wk) rfl hd k
theorem g_ldcw (X : Stand p l e R s m args below meth c T locs cells slots) (hx : p.tables.exec = Jvm.exec) {own : String} {index : Nat} {v : Int32} (hZ : Z.Warmed39 s.vm) (hown : s.vm.findClass own = some m.cls) (wk : (Jvm.Cond.constant own index v).before a0 Z = true) (hd : decode c.code pc = .ok (.ldc_w index, 3)) (hr : Goes p.tables e below (T.setTop (mkF m (pc + 3) Ls (.int v :: st))) P) : Goes p.tables e below (T.setTop (mkF m pc Ls st)) P := hr.of fun _ k => X.ldcWI hx hown (mvT hZ wk) rfl hd k
theorem g_ldc2 (X : Stand p l e R s m args below meth c T locs cells slots) (hx : p.tables.exec = Jvm.exec) {own : String} {index : Nat} {v : Int64} (hZ : Z.Warmed39 s.vm) (hown : s.vm.findClass own = some m.cls) (wk : (Jvm.Cond.constantLong own index v).before a0 Z = true) (hd : decode c.code pc = .ok (.ldc2_w index, 3)) (hr : Goes p.tables e below (T.setTop (mkF m (pc + 3) Ls (.long v :: st))) P) : Goes p.tables e below (T.setTop (mkF m pc Ls st)) P := hr.of fun _ k => X.ldc2J hx hown (mvT hZ wk) rfl hd k
theorem g_iadd (X : Stand p l e R s m args below meth c T locs cells slots) (hx : p.tables.exec = Jvm.exec) {x y : Int32} (hd : decode c.code pc = .ok (.iadd, 1)) (hr : Goes p.tables e below (T.setTop (mkF m (pc + 1) Ls (.int (x + y) :: st))) P) : Goes p.tables e below (T.setTop (mkF m pc Ls (.int y :: .int x :: st))) P := hr.of fun _ k => XS.iadd X.here hx rfl hd rfl k
theorem g_isub (X : Stand p l e R s m args below meth c T locs cells slots) (hx : p.tables.exec = Jvm.exec) {x y : Int32} (hd : decode c.code pc = .ok (.isub, 1)) (hr : Goes p.tables e below (T.setTop (mkF m (pc + 1) Ls (.int (x - y) :: st))) P) : Goes p.tables e below (T.setTop (mkF m pc Ls (.int y :: .int x :: st))) P := hr.of fun _ k => XS.isub X.here hx rfl hd rfl k
theorem g_imul (X : Stand p l e R s m args below meth c T locs cells slots) (hx : p.tables.exec = Jvm.exec) {x y : Int32} (hd : decode c.code pc = .ok (.imul, 1)) (hr : Goes p.tables e below (T.setTop (mkF m (pc + 1) Ls (.int (x * y) :: st))) P) : Goes p.tables e below (T.setTop (mkF m pc Ls (.int y :: .int x :: st))) P := hr.of fun _ k => XS.imul X.here hx rfl hd rfl k
theorem g_iand (X : Stand p l e R s m args below meth c T locs cells slots) (hx : p.tables.exec = Jvm.exec) {x y : Int32} (hd : decode c.code pc = .ok (.iand, 1)) (hr : Goes p.tables e below (T.setTop (mkF m (pc + 1) Ls (.int (x &&& y) :: st))) P) : Goes p.tables e below (T.setTop (mkF m pc Ls (.int y :: .int x :: st))) P := hr.of fun _ k => XS.iand X.here hx rfl hd rfl k
theorem g_ior (X : Stand p l e R s m args below meth c T locs cells slots) (hx : p.tables.exec = Jvm.exec) {x y : Int32} (hd : decode c.code pc = .ok (.ior, 1)) (hr : Goes p.tables e below (T.setTop (mkF m (pc + 1) Ls (.int (x ||| y) :: st))) P) : Goes p.tables e below (T.setTop (mkF m pc Ls (.int y :: .int x :: st))) P := hr.of fun _ k => XT.ior X.here hx rfl hd rfl k
theorem g_ixor (X : Stand p l e R s m args below meth c T locs cells slots) (hx : p.tables.exec = Jvm.exec) {x y : Int32} (hd : decode c.code pc = .ok (.ixor, 1)) (hr : Goes p.tables e below (T.setTop (mkF m (pc + 1) Ls (.int (x ^^^ y) :: st))) P) : Goes p.tables e below (T.setTop (mkF m pc Ls (.int y :: .int x :: st))) P := hr.of fun _ k => XT.ixor X.here hx rfl hd rfl k
theorem g_ishl (X : Stand p l e R s m args below meth c T locs cells slots) (hx : p.tables.exec = Jvm.exec) {x y : Int32} (hd : decode c.code pc = .ok (.ishl, 1)) (hr : Goes p.tables e below (T.setTop (mkF m (pc + 1) Ls (.int (x <<< (y &&& 31)) :: st))) P) : Goes p.tables e below (T.setTop (mkF m pc Ls (.int y :: .int x :: st))) P := hr.of fun _ k => XT.ishl X.here hx rfl hd rfl k
theorem g_ishr (X : Stand p l e R s m args below meth c T locs cells slots) (hx : p.tables.exec = Jvm.exec) {x y : Int32} (hd : decode c.code pc = .ok (.ishr, 1)) (hr : Goes p.tables e below (T.setTop (mkF m (pc + 1) Ls (.int (x >>> (y &&& 31)) :: st))) P) : Goes p.tables e below (T.setTop (mkF m pc Ls (.int y :: .int x :: st))) P := hr.of fun _ k => XT.ishr X.here hx rfl hd rfl k
theorem g_iushr (X : Stand p l e R s m args below meth c T locs cells slots) (hx : p.tables.exec = Jvm.exec) {x y : Int32} (hd : decode c.code pc = .ok (.iushr, 1)) (hr : Goes p.tables e below (T.setTop (mkF m (pc + 1) Ls (.int (XT.ushr x y) :: st))) P) : Goes p.tables e below (T.setTop (mkF m pc Ls (.int y :: .int x :: st))) P := hr.of fun _ k => XT.iushr X.here hx rfl hd rfl k
theorem g_ladd (X : Stand p l e R s m args below meth c T locs cells slots) (hx : p.tables.exec = Jvm.exec) {x y : Int64} (hd : decode c.code pc = .ok (.ladd, 1)) (hr : Goes p.tables e below (T.setTop (mkF m (pc + 1) Ls (.long (x + y) :: st))) P) : Goes p.tables e below (T.setTop (mkF m pc Ls (.long y :: .long x :: st))) P := hr.of fun _ k => XT.ladd X.here hx rfl hd rfl k
theorem g_lsub (X : Stand p l e R s m args below meth c T locs cells slots) (hx : p.tables.exec = Jvm.exec) {x y : Int64} (hd : decode c.code pc = .ok (.lsub, 1)) (hr : Goes p.tables e below (T.setTop (mkF m (pc + 1) Ls (.long (x - y) :: st))) P) : Goes p.tables e below (T.setTop (mkF m pc Ls (.long y :: .long x :: st))) P := hr.of fun _ k => XT.lsub X.here hx rfl hd rfl k
theorem g_lmul (X : Stand p l e R s m args below meth c T locs cells slots) (hx : p.tables.exec = Jvm.exec) {x y : Int64} (hd : decode c.code pc = .ok (.lmul, 1)) (hr : Goes p.tables e below (T.setTop (mkF m (pc + 1) Ls (.long (x * y) :: st))) P) : Goes p.tables e below (T.setTop (mkF m pc Ls (.long y :: .long x :: st))) P := hr.of fun _ k => XT.lmul X.here hx rfl hd rfl k
theorem g_land (X : Stand p l e R s m args below meth c T locs cells slots) (hx : p.tables.exec = Jvm.exec) {x y : Int64} (hd : decode c.code pc = .ok (.land, 1)) (hr : Goes p.tables e below (T.setTop (mkF m (pc + 1) Ls (.long (x &&& y) :: st))) P) : Goes p.tables e below (T.setTop (mkF m pc Ls (.long y :: .long x :: st))) P := hr.of fun _ k => XT.land X.here hx rfl hd rfl k
theorem g_lor (X : Stand p l e R s m args below meth c T locs cells slots) (hx : p.tables.exec = Jvm.exec) {x y : Int64} (hd : decode c.code pc = .ok (.lor, 1)) (hr : Goes p.tables e below (T.setTop (mkF m (pc + 1) Ls (.long (x ||| y) :: st))) P) : Goes p.tables e below (T.setTop (mkF m pc Ls (.long y :: .long x :: st))) P := hr.of fun _ k => XT.lor X.here hx rfl hd rfl k
theorem g_lxor (X : Stand p l e R s m args below meth c T locs cells slots) (hx : p.tables.exec = Jvm.exec) {x y : Int64} (hd : decode c.code pc = .ok (.lxor, 1)) (hr : Goes p.tables e below (T.setTop (mkF m (pc + 1) Ls (.long (x ^^^ y) :: st))) P) : Goes p.tables e below (T.setTop (mkF m pc Ls (.long y :: .long x :: st))) P := hr.of fun _ k => XT.lxor X.here hx rfl hd rfl k
theorem g_lshl (X : Stand p l e R s m args below meth c T locs cells slots) (hx : p.tables.exec = Jvm.exec) {x : Int64} {y : Int32} (hd : decode c.code pc = .ok (.lshl, 1)) (hr : Goes p.tables e below (T.setTop (mkF m (pc + 1) Ls (.long (x <<< (y.toInt64 &&& 63)) :: st))) P) : Goes p.tables e below (T.setTop (mkF m pc Ls (.int y :: .long x :: st))) P := hr.of fun _ k => XT.lshl X.here hx rfl hd rfl k
theorem g_lshr (X : Stand p l e R s m args below meth c T locs cells slots) (hx : p.tables.exec = Jvm.exec) {x : Int64} {y : Int32} (hd : decode c.code pc = .ok (.lshr, 1)) (hr : Goes p.tables e below (T.setTop (mkF m (pc + 1) Ls (.long (x >>> (y.toInt64 &&& 63)) :: st))) P) : Goes p.tables e below (T.setTop (mkF m pc Ls (.int y :: .long x :: st))) P := hr.of fun _ k => XT.lshr X.here hx rfl hd rfl k
theorem g_lushr (X : Stand p l e R s m args below meth c T locs cells slots) (hx : p.tables.exec = Jvm.exec) {x : Int64} {y : Int32} (hd : decode c.code pc = .ok (.lushr, 1)) (hr : Goes p.tables e below (T.setTop (mkF m (pc + 1) Ls (.long (XT.ushrL x y) :: st))) P) : Goes p.tables e below (T.setTop (mkF m pc Ls (.int y :: .long x :: st))) P := hr.of fun _ k => XT.lushr X.here hx rfl hd rfl k
theorem g_idiv (X : Stand p l e R s m args below meth c T locs cells slots) (hx : p.tables.exec = Jvm.exec) {x y : Int32} (hd : decode c.code pc = .ok (.idiv, 1)) (hy : y ≠ 0) (hr : Goes p.tables e below (T.setTop (mkF m (pc + 1) Ls (.int (x / y) :: st))) P) : Goes p.tables e below (T.setTop (mkF m pc Ls (.int y :: .int x :: st))) P := hr.of fun _ k => XS.idiv X.here hx rfl hd rfl hy k
theorem g_irem (X : Stand p l e R s m args below meth c T locs cells slots) (hx : p.tables.exec = Jvm.exec) {x y : Int32} (hd : decode c.code pc = .ok (.irem, 1)) (hy : y ≠ 0) (hr : Goes p.tables e below (T.setTop (mkF m (pc + 1) Ls (.int (x % y) :: st))) P) : Goes p.tables e below (T.setTop (mkF m pc Ls (.int y :: .int x :: st))) P := hr.of fun _ k => iremM X hx rfl hd rfl hy k
theorem g_ldiv (X : Stand p l e R s m args below meth c T locs cells slots) (hx : p.tables.exec = Jvm.exec) {x y : Int64} (hd : decode c.code pc = .ok (.ldiv, 1)) (hy : y ≠ 0) (hr : Goes p.tables e below (T.setTop (mkF m (pc + 1) Ls (.long (x / y) :: st))) P) : Goes p.tables e below (T.setTop (mkF m pc Ls (.long y :: .long x :: st))) P := hr.of fun _ k => XT.ldiv X.here hx rfl hd rfl hy k
theorem g_lrem (X : Stand p l e R s m args below meth c T locs cells slots) (hx : p.tables.exec = Jvm.exec) {x y : Int64} (hd : decode c.code pc = .ok (.lrem, 1)) (hy : y ≠ 0) (hr : Goes p.tables e below (T.setTop (mkF m (pc + 1) Ls (.long (x % y) :: st))) P) : Goes p.tables e below (T.setTop (mkF m pc Ls (.long y :: .long x :: st))) P := hr.of fun _ k => XT.lrem X.here hx rfl hd rfl hy (by rw [lrem_mod]; exact k)
theorem g_ineg (X : Stand p l e R s m args below meth c T locs cells slots) (hx : p.tables.exec = Jvm.exec) {x : Int32} (hd : decode c.code pc = .ok (.ineg, 1)) (hr : Goes p.tables e below (T.setTop (mkF m (pc + 1) Ls (.int (-x) :: st))) P) : Goes p.tables e below (T.setTop (mkF m pc Ls (.int x :: st))) P := hr.of fun _ k => XS.ineg X.here hx rfl hd rfl k
theorem g_lneg (X : Stand p l e R s m args below meth c T locs cells slots) (hx : p.tables.exec = Jvm.exec) {x : Int64} (hd : decode c.code pc = .ok (.lneg, 1)) (hr : Goes p.tables e below (T.setTop (mkF m (pc + 1) Ls (.long (-x) :: st))) P) : Goes p.tables e below (T.setTop (mkF m pc Ls (.long x :: st))) P := hr.of fun _ k => XT.lneg X.here hx rfl hd rfl k
theorem g_i2l (X : Stand p l e R s m args below meth c T locs cells slots) (hx : p.tables.exec = Jvm.exec) {x : Int32} (hd : decode c.code pc = .ok (.i2l, 1)) (hr : Goes p.tables e below (T.setTop (mkF m (pc + 1) Ls (.long (x.toInt64) :: st))) P) : Goes p.tables e below (T.setTop (mkF m pc Ls (.int x :: st))) P := hr.of fun _ k => XT.i2l X.here hx rfl hd rfl k
theorem g_l2i (X : Stand p l e R s m args below meth c T locs cells slots) (hx : p.tables.exec = Jvm.exec) {x : Int64} (hd : decode c.code pc = .ok (.l2i, 1)) (hr : Goes p.tables e below (T.setTop (mkF m (pc + 1) Ls (.int (x.toInt32) :: st))) P) : Goes p.tables e below (T.setTop (mkF m pc Ls (.long x :: st))) P := hr.of fun _ k => XT.l2i X.here hx rfl hd rfl k
theorem g_i2b (X : Stand p l e R s m args below meth c T locs cells slots) (hx : p.tables.exec = Jvm.exec) {x : Int32} (hd : decode c.code pc = .ok (.i2b, 1)) (hr : Goes p.tables e below (T.setTop (mkF m (pc + 1) Ls (.int (x.toInt8.toInt32) :: st))) P) : Goes p.tables e below (T.setTop (mkF m pc Ls (.int x :: st))) P := hr.of fun _ k => XT.i2b X.here hx rfl hd rfl k
theorem g_i2c (X : Stand p l e R s m args below meth c T locs cells slots) (hx : p.tables.exec = Jvm.exec) {x : Int32} (hd : decode c.code pc = .ok (.i2c, 1)) (hr : Goes p.tables e below (T.setTop (mkF m (pc + 1) Ls (.int (x.toUInt32.toUInt16.toUInt32.toInt32) :: st))) P) : Goes p.tables e below (T.setTop (mkF m pc Ls (.int x :: st))) P := hr.of fun _ k => XT.i2c X.here hx rfl hd rfl k
theorem g_i2s (X : Stand p l e R s m args below meth c T locs cells slots) (hx : p.tables.exec = Jvm.exec) {x : Int32} (hd : decode c.code pc = .ok (.i2s, 1)) (hr : Goes p.tables e below (T.setTop (mkF m (pc + 1) Ls (.int (x.toInt16.toInt32) :: st))) P) : Goes p.tables e below (T.setTop (mkF m pc Ls (.int x :: st))) P := hr.of fun _ k => XT.i2s X.here hx rfl hd rfl k
theorem g_lcmp (X : Stand p l e R s m args below meth c T locs cells slots) (hx : p.tables.exec = Jvm.exec) {x y : Int64} (hd : decode c.code pc = .ok (.lcmp, 1)) (hr : Goes p.tables e below (T.setTop (mkF m (pc + 1) Ls (.int (XT.cmpL x y) :: st))) P) : Goes p.tables e below (T.setTop (mkF m pc Ls (.long y :: .long x :: st))) P := hr.of fun _ k => XT.lcmp X.here hx rfl hd rfl k
theorem g_dup (X : Stand p l e R s m args below meth c T locs cells slots) (hx : p.tables.exec = Jvm.exec) {x : Value} (hd : decode c.code pc = .ok (.dup, 1)) (hc : x.category = 1) (hr : Goes p.tables e below (T.setTop (mkF m (pc + 1) Ls (x :: x :: st))) P) : Goes p.tables e below (T.setTop (mkF m pc Ls (x :: st))) P := hr.of fun _ k => XS.dup X.here hx rfl hd rfl hc k
theorem g_pop (X : Stand p l e R s m args below meth c T locs cells slots) (hx : p.tables.exec = Jvm.exec) {x : Value} (hd : decode c.code pc = .ok (.pop, 1)) (hc : x.category = 1) (hr : Goes p.tables e below (T.setTop (mkF m (pc + 1) Ls st)) P) : Goes p.tables e below (T.setTop (mkF m pc Ls (x :: st))) P := hr.of fun _ k => XT.pop X.here hx rfl hd rfl hc k
theorem g_dupX1 (X : Stand p l e R s m args below meth c T locs cells slots) (hx : p.tables.exec = Jvm.exec) {x y : Value} (hd : decode c.code pc = .ok (.dup_x1, 1)) (hc : x.category = 1) (hc' : y.category = 1) (hr : Goes p.tables e below (T.setTop (mkF m (pc + 1) Ls (x :: y :: x :: st))) P) : Goes p.tables e below (T.setTop (mkF m pc Ls (x :: y :: st))) P := hr.of fun _ k => XT.dupX1 X.here hx rfl hd rfl hc hc' k
theorem g_dup2 (X : Stand p l e R s m args below meth c T locs cells slots) (hx : p.tables.exec = Jvm.exec) {x y : Value} (hd : decode c.code pc = .ok (.dup2, 1)) (hc : x.category = 1) (hc' : y.category = 1) (hr : Goes p.tables e below (T.setTop (mkF m (pc + 1) Ls (x :: y :: x :: y :: st))) P) : Goes p.tables e below (T.setTop (mkF m pc Ls (x :: y :: st))) P := hr.of fun _ k => XT.dup2 X.here hx rfl hd rfl hc hc' k
theorem g_dup2L (X : Stand p l e R s m args below meth c T locs cells slots) (hx : p.tables.exec = Jvm.exec) {x : Int64} (hd : decode c.code pc = .ok (.dup2, 1)) (hr : Goes p.tables e below (T.setTop (mkF m (pc + 1) Ls (.long x :: .long x :: st))) P) : Goes p.tables e below (T.setTop (mkF m pc Ls (.long x :: st))) P := hr.of fun _ k => XT.dup2L X.here hx rfl hd rfl k
theorem g_iinc (X : Stand p l e R s m args below meth c T locs cells slots) (hx : p.tables.exec = Jvm.exec) {k : Nat} {cst : Int} {x : Int32} {l' : Array Slot} (v : Int32) (hd : decode c.code pc = .ok (.iinc k cst, 3)) (hv : Int32.ofInt cst = v) (hl : Ls[k]? = some (.val (.int x))) (hl' : storeLocals Ls k (.int (x + v)) = some l') (hr : Goes p.tables e below (T.setTop (mkF m (pc + 3) l' st)) P) : Goes p.tables e below (T.setTop (mkF m pc Ls st)) P := hr.of fun _ k => XT.iincV X.here hx rfl v hd hv hl hl' k
theorem g_goto (X : Stand p l e R s m args below meth c T locs cells slots) (hx : p.tables.exec = Jvm.exec) {o : Int} {pc' : Nat} (hd : decode c.code pc = .ok (.goto o, 3)) (ho : 0 ≤ (pc : Int) + o) (hp : ((pc : Int) + o).toNat = pc') (hr : Goes p.tables e below (T.setTop (mkF m pc' Ls st)) P) : Goes p.tables e below (T.setTop (mkF m pc Ls st)) P := hr.of fun _ k => XS.goto X.here hx rfl rfl hd ho hp k
theorem g_icmp_eq (X : Stand p l e R s m args below meth c T locs cells slots) (hx : p.tables.exec = Jvm.exec) {x y : Int32} {o : Int} {pc' : Nat} (hd : decode c.code pc = .ok (.if_icmp .eq o, 3)) (ho : 0 ≤ (pc : Int) + o) (hp : ((pc : Int) + o).toNat = pc') (hT : (x = y) → Goes p.tables e below (T.setTop (mkF m pc' Ls st)) P) (hF : (¬ x = y) → Goes p.tables e below (T.setTop (mkF m (pc + 3) Ls st)) P) : Goes p.tables e below (T.setTop (mkF m pc Ls (.int y :: .int x :: st))) P := by
  by_cases q : x = y
  · exact (hT q).of fun _ k => XS.icmpYes X.here hx rfl rfl hd rfl (XT.ii_eq_t q) ho hp k
  · exact (hF q).of fun _ k => XS.icmpNo X.here hx rfl hd rfl (XT.ii_eq_f q) k
theorem g_if_eq (X : Stand p l e R s m args below meth c T locs cells slots) (hx : p.tables.exec = Jvm.exec) {x : Int32} {o : Int} {pc' : Nat} (hd : decode c.code pc = .ok (.ifCond .eq o, 3)) (ho : 0 ≤ (pc : Int) + o) (hp : ((pc : Int) + o).toNat = pc') (hT : (x = 0) → Goes p.tables e below (T.setTop (mkF m pc' Ls st)) P) (hF : (¬ x = 0) → Goes p.tables e below (T.setTop (mkF m (pc + 3) Ls st)) P) : Goes p.tables e below (T.setTop (mkF m pc Ls (.int x :: st))) P := by
  by_cases q : x = 0
  · exact (hT q).of fun _ k => XS.ifYes X.here hx rfl rfl hd rfl (XT.i0_eq_t q) ho hp k
  · exact (hF q).of fun _ k => XS.ifNo X.here hx rfl hd rfl (XT.i0_eq_f q) k
theorem g_lif_eq (X : Stand p l e R s m args below meth c T locs cells slots) (hx : p.tables.exec = Jvm.exec) {x y : Int64} {o : Int} {pc' : Nat} (hd : decode c.code pc = .ok (.ifCond .eq o, 3)) (ho : 0 ≤ (pc : Int) + o) (hp : ((pc : Int) + o).toNat = pc') (hT : (x = y) → Goes p.tables e below (T.setTop (mkF m pc' Ls st)) P) (hF : (¬ x = y) → Goes p.tables e below (T.setTop (mkF m (pc + 3) Ls st)) P) : Goes p.tables e below (T.setTop (mkF m pc Ls (.int (XT.cmpL x y) :: st))) P := by
  by_cases q : x = y
  · exact (hT q).of fun _ k => XS.ifYes X.here hx rfl rfl hd rfl (XT.ll_eq_t q) ho hp k
  · exact (hF q).of fun _ k => XS.ifNo X.here hx rfl hd rfl (XT.ll_eq_f q) k
theorem g_icmp_ne (X : Stand p l e R s m args below meth c T locs cells slots) (hx : p.tables.exec = Jvm.exec) {x y : Int32} {o : Int} {pc' : Nat} (hd : decode c.code pc = .ok (.if_icmp .ne o, 3)) (ho : 0 ≤ (pc : Int) + o) (hp : ((pc : Int) + o).toNat = pc') (hT : (¬ x = y) → Goes p.tables e below (T.setTop (mkF m pc' Ls st)) P) (hF : (x = y) → Goes p.tables e below (T.setTop (mkF m (pc + 3) Ls st)) P) : Goes p.tables e below (T.setTop (mkF m pc Ls (.int y :: .int x :: st))) P := by
  by_cases q : x = y
  · exact (hF q).of fun _ k => XS.icmpNo X.here hx rfl hd rfl (XT.ii_ne_f q) k
  · exact (hT q).of fun _ k => XS.icmpYes X.here hx rfl rfl hd rfl (XT.ii_ne_t q) ho hp k
theorem g_if_ne (X : Stand p l e R s m args below meth c T locs cells slots) (hx : p.tables.exec = Jvm.exec) {x : Int32} {o : Int} {pc' : Nat} (hd : decode c.code pc = .ok (.ifCond .ne o, 3)) (ho : 0 ≤ (pc : Int) + o) (hp : ((pc : Int) + o).toNat = pc') (hT : (¬ x = 0) → Goes p.tables e below (T.setTop (mkF m pc' Ls st)) P) (hF : (x = 0) → Goes p.tables e below (T.setTop (mkF m (pc + 3) Ls st)) P) : Goes p.tables e below (T.setTop (mkF m pc Ls (.int x :: st))) P := by
  by_cases q : x = 0
  · exact (hF q).of fun _ k => XS.ifNo X.here hx rfl hd rfl (XT.i0_ne_f q) k
  · exact (hT q).of fun _ k => XS.ifYes X.here hx rfl rfl hd rfl (XT.i0_ne_t q) ho hp k
theorem g_lif_ne (X : Stand p l e R s m args below meth c T locs cells slots) (hx : p.tables.exec = Jvm.exec) {x y : Int64} {o : Int} {pc' : Nat} (hd : decode c.code pc = .ok (.ifCond .ne o, 3)) (ho : 0 ≤ (pc : Int) + o) (hp : ((pc : Int) + o).toNat = pc') (hT : (¬ x = y) → Goes p.tables e below (T.setTop (mkF m pc' Ls st)) P) (hF : (x = y) → Goes p.tables e below (T.setTop (mkF m (pc + 3) Ls st)) P) : Goes p.tables e below (T.setTop (mkF m pc Ls (.int (XT.cmpL x y) :: st))) P := by
  by_cases q : x = y
  · exact (hF q).of fun _ k => XS.ifNo X.here hx rfl hd rfl (XT.ll_ne_f q) k
  · exact (hT q).of fun _ k => XS.ifYes X.here hx rfl rfl hd rfl (XT.ll_ne_t q) ho hp k
theorem g_icmp_lt (X : Stand p l e R s m args below meth c T locs cells slots) (hx : p.tables.exec = Jvm.exec) {x y : Int32} {o : Int} {pc' : Nat} (hd : decode c.code pc = .ok (.if_icmp .lt o, 3)) (ho : 0 ≤ (pc : Int) + o) (hp : ((pc : Int) + o).toNat = pc') (hT : (x < y) → Goes p.tables e below (T.setTop (mkF m pc' Ls st)) P) (hF : (¬ x < y) → Goes p.tables e below (T.setTop (mkF m (pc + 3) Ls st)) P) : Goes p.tables e below (T.setTop (mkF m pc Ls (.int y :: .int x :: st))) P := by
  by_cases q : x < y
  · exact (hT q).of fun _ k => XS.icmpYes X.here hx rfl rfl hd rfl (XT.ii_lt_t q) ho hp k
  · exact (hF q).of fun _ k => XS.icmpNo X.here hx rfl hd rfl (XT.ii_lt_f q) k
theorem g_if_lt (X : Stand p l e R s m args below meth c T locs cells slots) (hx : p.tables.exec = Jvm.exec) {x : Int32} {o : Int} {pc' : Nat} (hd : decode c.code pc = .ok (.ifCond .lt o, 3)) (ho : 0 ≤ (pc : Int) + o) (hp : ((pc : Int) + o).toNat = pc') (hT : (x < 0) → Goes p.tables e below (T.setTop (mkF m pc' Ls st)) P) (hF : (¬ x < 0) → Goes p.tables e below (T.setTop (mkF m (pc + 3) Ls st)) P) : Goes p.tables e below (T.setTop (mkF m pc Ls (.int x :: st))) P := by
  by_cases q : x < 0
  · exact (hT q).of fun _ k => XS.ifYes X.here hx rfl rfl hd rfl (XT.i0_lt_t q) ho hp k
  · exact (hF q).of fun _ k => XS.ifNo X.here hx rfl hd rfl (XT.i0_lt_f q) k
theorem g_lif_lt (X : Stand p l e R s m args below meth c T locs cells slots) (hx : p.tables.exec = Jvm.exec) {x y : Int64} {o : Int} {pc' : Nat} (hd : decode c.code pc = .ok (.ifCond .lt o, 3)) (ho : 0 ≤ (pc : Int) + o) (hp : ((pc : Int) + o).toNat = pc') (hT : (x < y) → Goes p.tables e below (T.setTop (mkF m pc' Ls st)) P) (hF : (¬ x < y) → Goes p.tables e below (T.setTop (mkF m (pc + 3) Ls st)) P) : Goes p.tables e below (T.setTop (mkF m pc Ls (.int (XT.cmpL x y) :: st))) P := by
  by_cases q : x < y
  · exact (hT q).of fun _ k => XS.ifYes X.here hx rfl rfl hd rfl (XT.ll_lt_t q) ho hp k
  · exact (hF q).of fun _ k => XS.ifNo X.here hx rfl hd rfl (XT.ll_lt_f q) k
theorem g_icmp_ge (X : Stand p l e R s m args below meth c T locs cells slots) (hx : p.tables.exec = Jvm.exec) {x y : Int32} {o : Int} {pc' : Nat} (hd : decode c.code pc = .ok (.if_icmp .ge o, 3)) (ho : 0 ≤ (pc : Int) + o) (hp : ((pc : Int) + o).toNat = pc') (hT : (¬ x < y) → Goes p.tables e below (T.setTop (mkF m pc' Ls st)) P) (hF : (x < y) → Goes p.tables e below (T.setTop (mkF m (pc + 3) Ls st)) P) : Goes p.tables e below (T.setTop (mkF m pc Ls (.int y :: .int x :: st))) P := by
  by_cases q : x < y
  · exact (hF q).of fun _ k => XS.icmpNo X.here hx rfl hd rfl (XT.ii_ge_f q) k
  · exact (hT q).of fun _ k => XS.icmpYes X.here hx rfl rfl hd rfl (XT.ii_ge_t q) ho hp k
theorem g_if_ge (X : Stand p l e R s m args below meth c T locs cells slots) (hx : p.tables.exec = Jvm.exec) {x : Int32} {o : Int} {pc' : Nat} (hd : decode c.code pc = .ok (.ifCond .ge o, 3)) (ho : 0 ≤ (pc : Int) + o) (hp : ((pc : Int) + o).toNat = pc') (hT : (¬ x < 0) → Goes p.tables e below (T.setTop (mkF m pc' Ls st)) P) (hF : (x < 0) → Goes p.tables e below (T.setTop (mkF m (pc + 3) Ls st)) P) : Goes p.tables e below (T.setTop (mkF m pc Ls (.int x :: st))) P := by
  by_cases q : x < 0
  · exact (hF q).of fun _ k => XS.ifNo X.here hx rfl hd rfl (XT.i0_ge_f q) k
  · exact (hT q).of fun _ k => XS.ifYes X.here hx rfl rfl hd rfl (XT.i0_ge_t q) ho hp k
theorem g_lif_ge (X : Stand p l e R s m args below meth c T locs cells slots) (hx : p.tables.exec = Jvm.exec) {x y : Int64} {o : Int} {pc' : Nat} (hd : decode c.code pc = .ok (.ifCond .ge o, 3)) (ho : 0 ≤ (pc : Int) + o) (hp : ((pc : Int) + o).toNat = pc') (hT : (¬ x < y) → Goes p.tables e below (T.setTop (mkF m pc' Ls st)) P) (hF : (x < y) → Goes p.tables e below (T.setTop (mkF m (pc + 3) Ls st)) P) : Goes p.tables e below (T.setTop (mkF m pc Ls (.int (XT.cmpL x y) :: st))) P := by
  by_cases q : x < y
  · exact (hF q).of fun _ k => XS.ifNo X.here hx rfl hd rfl (XT.ll_ge_f q) k
  · exact (hT q).of fun _ k => XS.ifYes X.here hx rfl rfl hd rfl (XT.ll_ge_t q) ho hp k
theorem g_icmp_gt (X : Stand p l e R s m args below meth c T locs cells slots) (hx : p.tables.exec = Jvm.exec) {x y : Int32} {o : Int} {pc' : Nat} (hd : decode c.code pc = .ok (.if_icmp .gt o, 3)) (ho : 0 ≤ (pc : Int) + o) (hp : ((pc : Int) + o).toNat = pc') (hT : (y < x) → Goes p.tables e below (T.setTop (mkF m pc' Ls st)) P) (hF : (¬ y < x) → Goes p.tables e below (T.setTop (mkF m (pc + 3) Ls st)) P) : Goes p.tables e below (T.setTop (mkF m pc Ls (.int y :: .int x :: st))) P := by
  by_cases q : y < x
  · exact (hT q).of fun _ k => XS.icmpYes X.here hx rfl rfl hd rfl (XT.ii_gt_t q) ho hp k
  · exact (hF q).of fun _ k => XS.icmpNo X.here hx rfl hd rfl (XT.ii_gt_f q) k
theorem g_if_gt (X : Stand p l e R s m args below meth c T locs cells slots) (hx : p.tables.exec = Jvm.exec) {x : Int32} {o : Int} {pc' : Nat} (hd : decode c.code pc = .ok (.ifCond .gt o, 3)) (ho : 0 ≤ (pc : Int) + o) (hp : ((pc : Int) + o).toNat = pc') (hT : (0 < x) → Goes p.tables e below (T.setTop (mkF m pc' Ls st)) P) (hF : (¬ 0 < x) → Goes p.tables e below (T.setTop (mkF m (pc + 3) Ls st)) P) : Goes p.tables e below (T.setTop (mkF m pc Ls (.int x :: st))) P := by
  by_cases q : 0 < x
  · exact (hT q).of fun _ k => XS.ifYes X.here hx rfl rfl hd rfl (XT.i0_gt_t q) ho hp k
  · exact (hF q).of fun _ k => XS.ifNo X.here hx rfl hd rfl (XT.i0_gt_f q) k
theorem g_lif_gt (X : Stand p l e R s m args below meth c T locs cells slots) (hx : p.tables.exec = Jvm.exec) {x y : Int64} {o : Int} {pc' : Nat} (hd : decode c.code pc = .ok (.ifCond .gt o, 3)) (ho : 0 ≤ (pc : Int) + o) (hp : ((pc : Int) + o).toNat = pc') (hT : (y < x) → Goes p.tables e below (T.setTop (mkF m pc' Ls st)) P) (hF : (¬ y < x) → Goes p.tables e below (T.setTop (mkF m (pc + 3) Ls st)) P) : Goes p.tables e below (T.setTop (mkF m pc Ls (.int (XT.cmpL x y) :: st))) P := by
  by_cases q : y < x
  · exact (hT q).of fun _ k => XS.ifYes X.here hx rfl rfl hd rfl (XT.ll_gt_t q) ho hp k
  · exact (hF q).of fun _ k => XS.ifNo X.here hx rfl hd rfl (XT.ll_gt_f q) k
theorem g_icmp_le (X : Stand p l e R s m args below meth c T locs cells slots) (hx : p.tables.exec = Jvm.exec) {x y : Int32} {o : Int} {pc' : Nat} (hd : decode c.code pc = .ok (.if_icmp .le o, 3)) (ho : 0 ≤ (pc : Int) + o) (hp : ((pc : Int) + o).toNat = pc') (hT : (¬ y < x) → Goes p.tables e below (T.setTop (mkF m pc' Ls st)) P) (hF : (y < x) → Goes p.tables e below (T.setTop (mkF m (pc + 3) Ls st)) P) : Goes p.tables e below (T.setTop (mkF m pc Ls (.int y :: .int x :: st))) P := by
  by_cases q : y < x
  · exact (hF q).of fun _ k => XS.icmpNo X.here hx rfl hd rfl (XT.ii_le_f q) k
  · exact (hT q).of fun _ k => XS.icmpYes X.here hx rfl rfl hd rfl (XT.ii_le_t q) ho hp k
theorem g_if_le (X : Stand p l e R s m args below meth c T locs cells slots) (hx : p.tables.exec = Jvm.exec) {x : Int32} {o : Int} {pc' : Nat} (hd : decode c.code pc = .ok (.ifCond .le o, 3)) (ho : 0 ≤ (pc : Int) + o) (hp : ((pc : Int) + o).toNat = pc') (hT : (¬ 0 < x) → Goes p.tables e below (T.setTop (mkF m pc' Ls st)) P) (hF : (0 < x) → Goes p.tables e below (T.setTop (mkF m (pc + 3) Ls st)) P) : Goes p.tables e below (T.setTop (mkF m pc Ls (.int x :: st))) P := by
  by_cases q : 0 < x
  · exact (hF q).of fun _ k => XS.ifNo X.here hx rfl hd rfl (XT.i0_le_f q) k
  · exact (hT q).of fun _ k => XS.ifYes X.here hx rfl rfl hd rfl (XT.i0_le_t q) ho hp k
theorem g_lif_le (X : Stand p l e R s m args below meth c T locs cells slots) (hx : p.tables.exec = Jvm.exec) {x y : Int64} {o : Int} {pc' : Nat} (hd : decode c.code pc = .ok (.ifCond .le o, 3)) (ho : 0 ≤ (pc : Int) + o) (hp : ((pc : Int) + o).toNat = pc') (hT : (¬ y < x) → Goes p.tables e below (T.setTop (mkF m pc' Ls st)) P) (hF : (y < x) → Goes p.tables e below (T.setTop (mkF m (pc + 3) Ls st)) P) : Goes p.tables e below (T.setTop (mkF m pc Ls (.int (XT.cmpL x y) :: st))) P := by
  by_cases q : y < x
  · exact (hF q).of fun _ k => XS.ifNo X.here hx rfl hd rfl (XT.ll_le_f q) k
  · exact (hT q).of fun _ k => XS.ifYes X.here hx rfl rfl hd rfl (XT.ll_le_t q) ho hp k
theorem g_ifnull_ref (X : Stand p l e R s m args below meth c T locs cells slots) (hx : p.tables.exec = Jvm.exec) {b : Addr} {o : Int} (hd : decode c.code pc = .ok (.ifnull o, 3)) (hr : Goes p.tables e below (T.setTop (mkF m (pc + 3) Ls st)) P) : Goes p.tables e below (T.setTop (mkF m pc Ls (.ref b :: st))) P := hr.of fun _ k => XS.ifnullNo X.here hx rfl hd rfl k
theorem g_ifnull_null (X : Stand p l e R s m args below meth c T locs cells slots) (hx : p.tables.exec = Jvm.exec)  {o : Int} {pc' : Nat} (hd : decode c.code pc = .ok (.ifnull o, 3)) (ho : 0 ≤ (pc : Int) + o) (hp : ((pc : Int) + o).toNat = pc') (hr : Goes p.tables e below (T.setTop (mkF m pc' Ls st)) P) : Goes p.tables e below (T.setTop (mkF m pc Ls (.null :: st))) P := hr.of fun _ k => XS.ifnullYes X.here hx rfl rfl hd rfl ho hp k
theorem g_ifnonnull_ref (X : Stand p l e R s m args below meth c T locs cells slots) (hx : p.tables.exec = Jvm.exec) {b : Addr} {o : Int} {pc' : Nat} (hd : decode c.code pc = .ok (.ifnonnull o, 3)) (ho : 0 ≤ (pc : Int) + o) (hp : ((pc : Int) + o).toNat = pc') (hr : Goes p.tables e below (T.setTop (mkF m pc' Ls st)) P) : Goes p.tables e below (T.setTop (mkF m pc Ls (.ref b :: st))) P := hr.of fun _ k => XT.ifnonnullYes X.here hx rfl rfl hd rfl ho hp k
theorem g_ifnonnull_null (X : Stand p l e R s m args below meth c T locs cells slots) (hx : p.tables.exec = Jvm.exec)  {o : Int} (hd : decode c.code pc = .ok (.ifnonnull o, 3)) (hr : Goes p.tables e below (T.setTop (mkF m (pc + 3) Ls st)) P) : Goes p.tables e below (T.setTop (mkF m pc Ls (.null :: st))) P := hr.of fun _ k => XT.ifnonnullNo X.here hx rfl hd rfl k
theorem g_acmp_eq (X : Stand p l e R s m args below meth c T locs cells slots) (hx : p.tables.exec = Jvm.exec) {x y : Value} (hx' : x.isRef = true) (hy' : y.isRef = true) {o : Int} {pc' : Nat} (hd : decode c.code pc = .ok (.if_acmp .eq o, 3)) (ho : 0 ≤ (pc : Int) + o) (hp : ((pc : Int) + o).toNat = pc') (hT : (x = y) → Goes p.tables e below (T.setTop (mkF m pc' Ls st)) P) (hF : (¬ x = y) → Goes p.tables e below (T.setTop (mkF m (pc + 3) Ls st)) P) : Goes p.tables e below (T.setTop (mkF m pc Ls (y :: x :: st))) P := by
  by_cases q : x = y
  · exact (hT q).of fun _ k => XT.acmpYes X.here hx rfl rfl hd rfl hx' hy' (by simp [XT.acmp, q]) ho hp k
  · exact (hF q).of fun _ k => XT.acmpNo X.here hx rfl hd rfl hx' hy' (by simp [XT.acmp, q]) k
theorem g_acmp_ne (X : Stand p l e R s m args below meth c T locs cells slots) (hx : p.tables.exec = Jvm.exec) {x y : Value} (hx' : x.isRef = true) (hy' : y.isRef = true) {o : Int} {pc' : Nat} (hd : decode c.code pc = .ok (.if_acmp .ne o, 3)) (ho : 0 ≤ (pc : Int) + o) (hp : ((pc : Int) + o).toNat = pc') (hT : (¬ x = y) → Goes p.tables e below (T.setTop (mkF m pc' Ls st)) P) (hF : (x = y) → Goes p.tables e below (T.setTop (mkF m (pc + 3) Ls st)) P) : Goes p.tables e below (T.setTop (mkF m pc Ls (y :: x :: st))) P := by
  by_cases q : x = y
  · exact (hF q).of fun _ k => XT.acmpNo X.here hx rfl hd rfl hx' hy' (by simp [XT.acmp, q]) k
  · exact (hT q).of fun _ k => XT.acmpYes X.here hx rfl rfl hd rfl hx' hy' (by simp [XT.acmp, q]) ho hp k
/-- what a body owes at its end: it returned v, Q holds of it, the heap and the places written, within C cells and N slots -/
abbrev Fin (s : State) (C N : Nat) (Q : Option Value → Heap → List Loc → Prop) : State → Outcome → Prop := fun s₂ o => ∃ v L, o = .returned v ∧ Q v s₂.heap L ∧ FrameEnd s o s₂ L C N
variable {C N : Nat} {Q : Option Value → Heap → List Loc → Prop}
theorem g_ret (X : Stand p l e R s m args below meth c T locs cells slots) (hx : p.tables.exec = Jvm.exec) {w : Value} {t : FieldType} {i : Instr} (hret : meth.sig.returnType = some t) (hk : meth.locks = false) (hn : narrow t w = w)
    (hi : (i = .ireturn ∧ (t = .int ∨ t = .boolean ∨ t = .byte ∨ t = .char ∨ t = .short) ∧ ∃ z, w = .int z) ∨ (i = .lreturn ∧ t = .long ∧ ∃ z, w = .long z) ∨ (i = .dreturn ∧ t = .double ∧ ∃ z, w = .double z) ∨ (i = .freturn ∧ t = .float ∧ ∃ z, w = .float z) ∨ (i = .areturn ∧ t.isReference = true ∧ w.isRef = true))
    (hd : decode c.code pc = .ok (i, 1)) (hc : cells ≤ C) (hs : slots ≤ N) (hQ : Q (some w) T.heap locs) : Goes p.tables e below (T.setTop (mkF m pc Ls (w :: st))) (Fin s C N Q) := by
  obtain ⟨fs, hr, hrun, hended, hW, hsame⟩ := X.leave (v := some w) (fun h => by rw [hret] at h; cases h) hk
  exact ⟨_, _, retOut X hx hret hn hi hd hr, hrun, hended, _, _, rfl, hQ, ⟨_, rfl⟩, hW, hsame.mono hc hs⟩
theorem g_retI (X : Stand p l e R s m args below meth c T locs cells slots) (hx : p.tables.exec = Jvm.exec) {z : Int32} (hret : meth.sig.returnType = some .int) (hk : meth.locks = false) (hd : decode c.code pc = .ok (.ireturn, 1)) (hc : cells ≤ C) (hs : slots ≤ N) (hQ : Q (some (.int z)) T.heap locs) :
    Goes p.tables e below (T.setTop (mkF m pc Ls (.int z :: st))) (Fin s C N Q) := g_ret X hx hret hk rfl (Or.inl ⟨rfl, Or.inl rfl, _, rfl⟩) hd hc hs hQ
theorem g_retL (X : Stand p l e R s m args below meth c T locs cells slots) (hx : p.tables.exec = Jvm.exec) {z : Int64} (hret : meth.sig.returnType = some .long) (hk : meth.locks = false) (hd : decode c.code pc = .ok (.lreturn, 1)) (hc : cells ≤ C) (hs : slots ≤ N) (hQ : Q (some (.long z)) T.heap locs) :
    Goes p.tables e below (T.setTop (mkF m pc Ls (.long z :: st))) (Fin s C N Q) := g_ret X hx hret hk rfl (Or.inr (Or.inl ⟨rfl, rfl, _, rfl⟩)) hd hc hs hQ
theorem g_retA (X : Stand p l e R s m args below meth c T locs cells slots) (hx : p.tables.exec = Jvm.exec) {w : Value} {t : FieldType} (hret : meth.sig.returnType = some t) (hk : meth.locks = false) (ht : t.isReference = true) (hw : w.isRef = true) (hd : decode c.code pc = .ok (.areturn, 1)) (hc : cells ≤ C) (hs : slots ≤ N) (hQ : Q (some w) T.heap locs) :
    Goes p.tables e below (T.setTop (mkF m pc Ls (w :: st))) (Fin s C N Q) := g_ret X hx hret hk (by cases t <;> simp [FieldType.isReference] at ht <;> cases w <;> simp [Value.isRef] at hw <;> rfl) (Or.inr (Or.inr (Or.inr (Or.inr ⟨rfl, ht, hw⟩)))) hd hc hs hQ
theorem g_retZ (X : Stand p l e R s m args below meth c T locs cells slots) (hx : p.tables.exec = Jvm.exec) {z : Int32} (hz : z = 0 ∨ z = 1) (hret : meth.sig.returnType = some .boolean) (hk : meth.locks = false) (hd : decode c.code pc = .ok (.ireturn, 1)) (hc : cells ≤ C) (hs : slots ≤ N) (hQ : Q (some (.int z)) T.heap locs) :
    Goes p.tables e below (T.setTop (mkF m pc Ls (.int z :: st))) (Fin s C N Q) := g_ret X hx hret hk (by rcases hz with rfl | rfl <;> rfl) (Or.inl ⟨rfl, Or.inr (Or.inl rfl), _, rfl⟩) hd hc hs hQ
theorem g_retB (X : Stand p l e R s m args below meth c T locs cells slots) (hx : p.tables.exec = Jvm.exec) {z : Int32} (hz : z.toInt8.toInt32 = z) (hret : meth.sig.returnType = some .byte) (hk : meth.locks = false) (hd : decode c.code pc = .ok (.ireturn, 1)) (hc : cells ≤ C) (hs : slots ≤ N) (hQ : Q (some (.int z)) T.heap locs) :
    Goes p.tables e below (T.setTop (mkF m pc Ls (.int z :: st))) (Fin s C N Q) := g_ret X hx hret hk (by show Value.int z.toInt8.toInt32 = _; rw [hz]) (Or.inl ⟨rfl, Or.inr (Or.inr (Or.inl rfl)), _, rfl⟩) hd hc hs hQ
theorem g_ret0 (X : Stand p l e R s m args below meth c T locs cells slots) (hx : p.tables.exec = Jvm.exec) (hret : meth.sig.returnType = none) (hk : meth.locks = false) (hd : decode c.code pc = .ok (.return_, 1)) (hc : cells ≤ C) (hs : slots ≤ N) (hQ : Q none T.heap locs) :
    Goes p.tables e below (T.setTop (mkF m pc Ls [])) (Fin s C N Q) := by
  obtain ⟨fs, hr, hrun, hended, hW, hsame⟩ := X.leave (v := none) (fun _ => rfl) hk
  exact ⟨_, _, X.returnOut hx hret hd hr, hrun, hended, _, _, rfl, hQ, ⟨_, rfl⟩, hW, hsame.mono hc hs⟩
/-- the contract of a body, at these arguments and this heap -/
def Con (l : Launch) (Z : State) (y : MethodName) (bytes : ByteArray) (maxL : Nat) (ret : Option FieldType) (ws : List Jvm.Cond) (rm : Room) (C N : Nat) (as' : Array Value) (h : Heap) (Q : Option Value → Heap → List Loc → Prop) : Prop :=
  MetFree l y (head1 (Jvm.Cond.code y bytes maxL ret :: ws) rm) (fun a U => a = as' ∧ Z.Warmed39 U.vm ∧ U.heap = h) (fun _ _ _ _ _ => True) (fun _ U o U' => ∃ v L, o = .returned v ∧ Q v U'.heap L ∧ FrameEnd U o U' L C N)
theorem Con.body {y : MethodName} {bytes : ByteArray} {maxL : Nat} {ret : Option FieldType} {ws : List Jvm.Cond} {rm : Room} {as' : Array Value} (hp : plainFor y = true)
    (body : ∀ (p : Program) (e : Env) (s : State) (m : MethodId) (below : List Frame) (meth : Method) (c : Code) (T : State), p.tables.exec = Jvm.exec → c.code = bytes → c.maxLocals = maxL → s.vm.findClass y.cls = some m.cls → meth.name = y.name → Z.Warmed39 s.vm → meth.sig.returnType = ret → meth.locks = false →
      Stand p l e rm s m as' below meth c T [] 0 0 → T.heap = h → Goes p.tables e below (T.setTop (entryFrame m as' maxL)) (Fin s C N Q)) : Con l Z y bytes maxL ret ws rm C N as' h Q := by
  refine MetFree.of_bodySF hp hisR ?_
  intro p e s m args below meth c s₁ Bd hml hP hK
  obtain ⟨rfl, hZ, hh⟩ := hP
  exact body p e s m below meth c s₁ Bd.exec Bd.bytes hml (findClass_of_methodNamed Bd.named) (name_of_methodNamed Bd.named Bd.method).1 hZ Bd.returns (BodyLoose.notSynchronized Bd) (Stand.of_body Bd) (by rw [← hh, Bd.state]; rfl)
variable {y : MethodName} {bytes : ByteArray} {maxL : Nat} {ret : Option FieldType} {rm : Room} {as' : Array Value} {own : String} {index W : Nat} {argsL : List Value}
/-- a static call by the callee's contract -/
theorem g_callS (X : Stand p l e R s m args below meth c T locs cells slots) (hx : p.tables.exec = Jvm.exec) (hZ : Z.Warmed39 s.vm) (hown : s.vm.findClass own = some m.cls) (hml : Ls.size = c.maxLocals) (eT : T.heap = h)
    (wl : (Jvm.Cond.methodLink own index y).before a0 Z = true) (wt : (Jvm.Cond.static y).before a0 Z = true) (wz : (Jvm.Cond.initialized y.cls).before a0 Z = true) (wc : (Jvm.Cond.code y bytes maxL ret).before a0 Z = true)
    (hM : Con l Z y bytes maxL ret [] rm rm.cells rm.slots as' h Q) (argsL : List Value) (has : argsL.toArray = as') {S : List Value} (st : List Value) (hS : S = argsL.reverse ++ st) (hlen : ∀ sig, parseMethodDescriptor y.desc = some sig → argsL.length = sig.parameters.length)
    (hd : decode c.code pc = .ok (.invokestatic index, 3)) (hy : y.cls ≠ "java/lang/invoke/MethodHandle" ∧ y.cls ≠ "java/lang/invoke/VarHandle") (W : Nat) (hf : rm.frames + 1 ≤ R.frames) (hl : W + (maxL + 11) + rm.locals ≤ R.locals) (hW : (st.map fun v => v.category).sum ≤ W) (hc : cells + rm.cells ≤ R.cells) (hs : slots + rm.slots ≤ R.slots)
    (k : ∀ v T' L, Stand p l e R s m args below meth c T' (locs ++ L) (cells + rm.cells) (slots + rm.slots) → Q v T'.heap L → Goes p.tables e below (T'.setTop (mkF m (pc + 3) Ls (v.toList ++ st))) P) :
    Goes p.tables e below (T.setTop (mkF m pc Ls S)) P := by
  subst hS
  obtain ⟨v, vm₁, ⟨T', L', k', n'⟩, -, X', ⟨L, hQ, e1, e2, e3⟩, st'⟩ := Jvm.LawKit.callS X hx (y := y) hown (mvT hZ wl) (mvT hZ wt) (mvT hZ wz) (mvT hZ wc) hy (backOf (W := W) hM hZ wc wz hf hl) (g := mkF m pc Ls (argsL.reverse ++ st)) rfl hml (argsL := argsL) (rest := st) hlen rfl (by show 2 * 0 + _ ≤ _; omega) hd (fun _ _ => ⟨has, eT, hc, hs⟩)
  dsimp only [Pt.U, Pt.locs, Pt.cells, Pt.slots] at X' e1 e2 e3 st' hQ
  subst e1 e2 e3
  exact (k v T' L X' hQ).of st'
/-- a constructor by its contract -/
theorem g_callI (X : Stand p l e R s m args below meth c T locs cells slots) (hx : p.tables.exec = Jvm.exec) (hZ : Z.Warmed39 s.vm) (hown : s.vm.findClass own = some m.cls) (hml : Ls.size = c.maxLocals) (eT : T.heap = h) (hn : y.name = "<init>")
    (wl : (Jvm.Cond.methodLink own index y).before a0 Z = true) (wt : (Jvm.Cond.instanceMethod y).before a0 Z = true) (wz : (Jvm.Cond.initialized y.cls).before a0 Z = true) (wc : (Jvm.Cond.code y bytes maxL none).before a0 Z = true)
    (hM : Con l Z y bytes maxL none [] rm rm.cells rm.slots as' h Q) (a : Addr) (argsL : List Value) (has : (.ref a :: argsL).toArray = as') {S : List Value} (st : List Value) (hS : S = argsL.reverse ++ .ref a :: st) (hlen : ∀ sig, parseMethodDescriptor y.desc = some sig → argsL.length = sig.parameters.length)
    (hd : decode c.code pc = .ok (.invokespecial index, 3)) (hy : y.cls ≠ "java/lang/invoke/MethodHandle" ∧ y.cls ≠ "java/lang/invoke/VarHandle") (W : Nat) (hf : rm.frames + 1 ≤ R.frames) (hl : W + (maxL + 11) + rm.locals ≤ R.locals) (hW : (st.map fun v => v.category).sum ≤ W) (hc : cells + rm.cells ≤ R.cells) (hs : slots + rm.slots ≤ R.slots)
    (k : ∀ v T' L, Stand p l e R s m args below meth c T' (locs ++ L) (cells + rm.cells) (slots + rm.slots) → Q v T'.heap L → Goes p.tables e below (T'.setTop (mkF m (pc + 3) Ls (v.toList ++ st))) P) :
    Goes p.tables e below (T.setTop (mkF m pc Ls S)) P := by
  subst hS
  obtain ⟨v, vm₁, ⟨T', L', k', n'⟩, -, X', ⟨L, hQ, e1, e2, e3⟩, st'⟩ := X.specialBack hx (y := y) hn hown (mvT hZ wl) (mvT hZ wt) (mvT hZ wc) hy (backOf (W := W) hM hZ wc wz hf hl) (g := mkF m pc Ls (argsL.reverse ++ .ref a :: st)) rfl hml (Steps.refl _) (a := a) (argsL := argsL) (rest := st) hlen rfl (by show 2 * 0 + _ ≤ _; omega) hd (fun _ _ => ⟨has, eT, hc, hs⟩)
  dsimp only [Pt.U, Pt.locs, Pt.cells, Pt.slots] at X' e1 e2 e3 st' hQ
  subst e1 e2 e3
  exact (k v T' L X' hQ).tr st'
/-- an instance method by its contract -/
theorem g_callV (X : Stand p l e R s m args below meth c T locs cells slots) (hx : p.tables.exec = Jvm.exec) (hZ : Z.Warmed39 s.vm) (hown : s.vm.findClass own = some m.cls) (hml : Ls.size = c.maxLocals) (eT : T.heap = h) {K : String}
    (wl : (Jvm.Cond.methodLink own index y).before a0 Z = true) (wd : (Jvm.Cond.declares y).before a0 Z = true) (wv : (Jvm.Cond.selects K y y).before a0 Z = true) (wt : (Jvm.Cond.instanceMethod y).before a0 Z = true) (wz : (Jvm.Cond.initialized y.cls).before a0 Z = true) (wc : (Jvm.Cond.code y bytes maxL ret).before a0 Z = true)
    {a : Addr} (E : Exa Z h a K) (hM : Con l Z y bytes maxL ret [] rm rm.cells rm.slots as' h Q) (argsL : List Value) (has : (.ref a :: argsL).toArray = as') {S : List Value} (st : List Value) (hS : S = argsL.reverse ++ .ref a :: st) (hlen : ∀ sig, parseMethodDescriptor y.desc = some sig → argsL.length = sig.parameters.length)
    (hd : decode c.code pc = .ok (.invokevirtual index, 3)) (hy : y.cls ≠ "java/lang/invoke/MethodHandle" ∧ y.cls ≠ "java/lang/invoke/VarHandle") (W : Nat) (hf : rm.frames + 1 ≤ R.frames) (hl : W + (maxL + 11) + rm.locals ≤ R.locals) (hW : (st.map fun v => v.category).sum ≤ W) (hc : cells + rm.cells ≤ R.cells) (hs : slots + rm.slots ≤ R.slots)
    (k : ∀ v T' L, Stand p l e R s m args below meth c T' (locs ++ L) (cells + rm.cells) (slots + rm.slots) → Q v T'.heap L → Goes p.tables e below (T'.setTop (mkF m (pc + 3) Ls (v.toList ++ st))) P) :
    Goes p.tables e below (T.setTop (mkF m pc Ls S)) P := by
  subst hS
  obtain ⟨cq, kq, qa, qb, qc⟩ := isOf hZ eT E
  obtain ⟨v, vm₁, ⟨T', L', k', n'⟩, -, X', ⟨L, hQ, e1, e2, e3⟩, st'⟩ := X.virtualBack hx (y := y) (z := y) hown (mvT hZ wl) (mvT hZ wd) (notFace_of_selects (args := #[]) (mvT hZ wv)) (mvT hZ wv) (mvT hZ wt) hy (backOf (W := W) hM hZ wc wz hf hl) qa qc (g := mkF m pc Ls (argsL.reverse ++ .ref a :: st)) rfl hml (Steps.refl _) (argsL := argsL) (rest := st) hlen rfl (by show 2 * 0 + _ ≤ _; omega) hd (fun _ _ => ⟨has, eT, hc, hs⟩)
  dsimp only [Pt.U, Pt.locs, Pt.cells, Pt.slots] at X' e1 e2 e3 st' hQ
  subst e1 e2 e3
  exact (k v T' L X' hQ).tr st'
/-! objects -/
section Objects
variable {own K O R0 nm d host : String} {index kk : Nat} {a : Addr}
theorem g_new (X : Stand p l e R s m args below meth c T locs cells slots) (hx : p.tables.exec = Jvm.exec) (hZ : Z.Warmed39 s.vm) (hown : s.vm.findClass own = some m.cls) (eT : T.heap = h) (w : (Jvm.Cond.classLink own index K).before a0 Z = true) (wi : (Jvm.Cond.instantiable K kk).before a0 Z = true) (wz : (Jvm.Cond.initialized K).before a0 Z = true)
    (hd : decode c.code pc = .ok (.new index, 3)) (hc : cells + 1 ≤ R.cells) (hl : slots + kk ≤ R.slots)
    (k : ∀ T' h' a, a = h.size → Stand p l e R s m args below meth c T' locs (cells + 1) (slots + kk) → T'.heap = h' → Ext h h' → Exa Z h' a K → (∀ {O nm d : String} {ty : FieldType}, Laid Z a0 K O nm d → parseFieldDescriptor d = some ty → Fld Z h' a O nm d (defaultValue ty)) → Goes p.tables e below (T'.setTop (mkF m (pc + 3) Ls (.ref a :: st))) P) :
    Goes p.tables e below (T.setTop (mkF m pc Ls st)) P := by
  obtain ⟨T', h', X', e', E, A, D, -, st'⟩ := newO X hx hZ hown w wi wz eT (g := mkF m pc Ls st) rfl hd hc hl
  exact (k T' h' _ rfl X' e' E A D).of st'
theorem g_init0 (X : Stand p l e R s m args below meth c T locs cells slots) (hx : p.tables.exec = Jvm.exec) (hZ : Z.Warmed39 s.vm) (hown : s.vm.findClass own = some m.cls) (hml : Ls.size = c.maxLocals) (eT : T.heap = h) (w1 : (Jvm.Cond.methodLink own index Lib.objectInit).before a0 Z = true) (w2 : (Jvm.Cond.instanceMethod Lib.objectInit).before a0 Z = true)
    (w3 : (Jvm.Cond.code Lib.objectInit ⟨#[0xb1]⟩ 1 none).before a0 Z = true) (hd : decode c.code pc = .ok (.invokespecial index, 3)) (W : Nat) (hf : 1 ≤ R.frames) (hW : (st.map fun v => v.category).sum ≤ W) (hl : W + 12 ≤ R.locals)
    (k : ∀ T', Stand p l e R s m args below meth c T' locs cells slots → T'.heap = h → Goes p.tables e below (T'.setTop (mkF m (pc + 3) Ls st)) P) : Goes p.tables e below (T.setTop (mkF m pc Ls (.ref a :: st))) P := by
  obtain ⟨T', X', e', st'⟩ := initO X hx hZ hown w1 w2 w3 eT (g := mkF m pc Ls (.ref a :: st)) rfl hml rfl hd hf (W := W) (by show 2 * 0 + _ ≤ _; omega) hl
  exact (k T' X' e').of st'
theorem g_getF (X : Stand p l e R s m args below meth c T locs cells slots) (hx : p.tables.exec = Jvm.exec) (hZ : Z.Warmed39 s.vm) (hown : s.vm.findClass own = some m.cls) (eT : T.heap = h) (w : (Jvm.Cond.fieldLink own index R0 nm d).before a0 Z = true ∨ (Jvm.Cond.fieldLinkNest own index R0 nm d host).before a0 Z = true) (via : Via Z R0 O nm d)
    {v : Value} (F : Fld Z h a O nm d v) (hd : decode c.code pc = .ok (.getfield index, 3))
    (k : ∀ T', Stand p l e R s m args below meth c T' locs cells slots → T'.heap = h → Goes p.tables e below (T'.setTop (mkF m (pc + 3) Ls (v :: st))) P) : Goes p.tables e below (T.setTop (mkF m pc Ls (.ref a :: st))) P := by
  obtain ⟨T', X', e', st'⟩ := getF X hx hZ hown w via eT F (g := mkF m pc Ls (.ref a :: st)) rfl rfl hd
  exact (k T' X' e').of st'
theorem g_getS (X : Stand p l e R s m args below meth c T locs cells slots) (hx : p.tables.exec = Jvm.exec) (hZ : Z.Warmed39 s.vm) (hown : s.vm.findClass own = some m.cls) (eT : T.heap = h) (w : (Jvm.Cond.fieldLink own index O nm d).before a0 Z = true ∨ (Jvm.Cond.fieldLinkNest own index O nm d host).before a0 Z = true)
    {v : Value} (F : Sta Z h O nm d v) (hd : decode c.code pc = .ok (.getstatic index, 3))
    (k : ∀ T', Stand p l e R s m args below meth c T' locs cells slots → T'.heap = h → Goes p.tables e below (T'.setTop (mkF m (pc + 3) Ls (v :: st))) P) : Goes p.tables e below (T.setTop (mkF m pc Ls st)) P := by
  obtain ⟨T', X', e', st'⟩ := getS2 X hx hZ hown w Via.refl eT F (g := mkF m pc Ls st) rfl hd
  exact (k T' X' e').of st'
/-- a field's store; v': what the field then holds -/
theorem g_putF (X : Stand p l e R s m args below meth c T locs cells slots) (hx : p.tables.exec = Jvm.exec) (hZ : Z.Warmed39 s.vm) (hown : s.vm.findClass own = some m.cls) (eT : T.heap = h) (w : (Jvm.Cond.fieldLink own index R0 nm d).before a0 Z = true) (via : Via Z R0 O nm d)
    {v v' old : Value} (F : Fld Z h a O nm d old) (E : Exa Z h a K) (L : (Jvm.Cond.lays K O nm d).before a0 Z = true ∨ ((Jvm.Cond.laysFinal K O nm d).before a0 Z = true ∧ own = O ∧ meth.name = "<init>")) (wi : (Jvm.Cond.instantiable K kk).before a0 Z = true) {ty : FieldType} (hty : parseFieldDescriptor d = some ty) (hn : narrow ty v = v') (hf : fits ty v' = true)
    (hd : decode c.code pc = .ok (.putfield index, 3))
    (k : ∀ T' h', Stand p l e R s m args below meth c T' (locs ++ [⟨a, Jvm.RoadKit.slotOf Z O nm d⟩]) cells slots → T'.heap = h' → Wr h h' a (Jvm.RoadKit.slotOf Z O nm d) v' → Goes p.tables e below (T'.setTop (mkF m (pc + 3) Ls st)) P) : Goes p.tables e below (T.setTop (mkF m pc Ls (v :: .ref a :: st))) P := by
  obtain ⟨T', h', X', e', W', st'⟩ := putFN X hx hZ hown w via eT F E L wi hty hn hf (g := mkF m pc Ls (v :: .ref a :: st)) rfl rfl hd
  exact (k T' h' X' e' W').of st'
end Objects
/-! arrays: the components as a list -/
def Ar (Z : State) (h : Heap) (a : Addr) (ty : FieldType) (vs : List Value) : Prop := ∃ c : Cell, Arr Z h a c ty ∧ c.slots.toList = vs ∧ vs.length < 2 ^ 31 ∧ ∀ v ∈ vs, fits ty v = true
section Arrays
variable {a b : Addr} {ty : FieldType} {vs : List Value} {h' : Heap} {ws : List Addr}
theorem Ar.lt (F : Ar Z h a ty vs) : a < h.size := by obtain ⟨c, A, -⟩ := F; exact A.lt
theorem Ar.ext (F : Ar Z h a ty vs) (E : Ext h h') : Ar Z h' a ty vs := by obtain ⟨c, A, r⟩ := F; exact ⟨c, A.ext E, r⟩
theorem Ar.other (F : Ar Z h b ty vs) {sl : Nat} {v : Value} (W : Wr h h' a sl v) (q : b ≠ a) : Ar Z h' b ty vs := by obtain ⟨c, A, r⟩ := F; exact ⟨c, A.other W q, r⟩
theorem Ar.keep (F : Ar Z h a ty vs) (K : Keep h h' ws) (q : a ∉ ws) : Ar Z h' a ty vs := by obtain ⟨c, A, r⟩ := F; exact ⟨c, ⟨K.2.1 a c A.1 q, A.2⟩, r⟩
theorem own_nat {j : Int32} {i : Nat} (hj : j.toInt = i) : j.toNatClampNeg = i ∧ ¬ j < 0 := by
  have q : ¬ j < 0 := fun q => by have := Int32.lt_iff_toInt_lt.mp q; rw [show (0 : Int32).toInt = 0 from rfl] at this; omega
  have e := nat_of q
  exact ⟨by omega, q⟩
theorem own_in {j : Int32} {i : Nat} (hj : j.toInt = i) {c : Cell} (hs : c.slots.toList = vs) (hi : i < vs.length) : ¬ (j < 0 ∨ c.slots.size ≤ j.toNatClampNeg) := by
  obtain ⟨e, q⟩ := own_nat hj
  rintro (r | r)
  · exact q r
  · rw [← Array.length_toList, hs] at r; omega
theorem own_at {j : Int32} {i : Nat} (hj : j.toInt = i) {c : Cell} (hs : c.slots.toList = vs) {v : Value} (hv : vs[i]? = some v) : c.slots[j.toNatClampNeg]? = some v := by
  rw [(own_nat hj).1, ← Array.getElem?_toList, hs]; exact hv
theorem own_lt {i : Nat} {v : Value} (hv : vs[i]? = some v) : i < vs.length := (List.getElem?_eq_some_iff.mp hv).1
theorem Ar.set {j : Nat} {v : Value} (F : Ar Z h a ty vs) (W : Wr h h' a j v) (hf : fits ty v = true) : Ar Z h' a ty (vs.set j v) := by
  obtain ⟨c, A, hs, hl, hv⟩ := F
  refine ⟨c.setSlot j v, A.same W, by rw [← hs]; simp [Cell.setSlot], by rw [List.length_set]; exact hl, fun w hw => ?_⟩
  rcases List.mem_or_eq_of_mem_set hw with q | q
  · exact hv w q
  · rw [q]; exact hf
theorem g_iaload (X : Stand p l e R s m args below meth c T locs cells slots) (hx : p.tables.exec = Jvm.exec) (hZ : Z.Warmed39 s.vm) (eT : T.heap = h) (A : Ar Z h a .int vs) {j : Int32} {i : Nat} {v : Value} (hj : j.toInt = i) (hv : vs[i]? = some v) (hd : decode c.code pc = .ok (.iaload, 1))
    (hr : Goes p.tables e below (T.setTop (mkF m (pc + 1) Ls (v :: st))) P) : Goes p.tables e below (T.setTop (mkF m pc Ls (.int j :: .ref a :: st))) P := by
  obtain ⟨cl, A, hs, hl, -⟩ := A
  exact hr.of fun _ k => X.iaload hx (by rw [eT]; exact A.1) (State.isArrayOf_alike hZ.alike A.2.1) A.2.2 (own_in hj hs (own_lt hv)) (own_at hj hs hv) (g := mkF m pc Ls (.int j :: .ref a :: st)) rfl rfl hd _ k
theorem g_laload (X : Stand p l e R s m args below meth c T locs cells slots) (hx : p.tables.exec = Jvm.exec) (hZ : Z.Warmed39 s.vm) (eT : T.heap = h) (A : Ar Z h a .long vs) {j : Int32} {i : Nat} {v : Value} (hj : j.toInt = i) (hv : vs[i]? = some v) (hd : decode c.code pc = .ok (.laload, 1))
    (hr : Goes p.tables e below (T.setTop (mkF m (pc + 1) Ls (v :: st))) P) : Goes p.tables e below (T.setTop (mkF m pc Ls (.int j :: .ref a :: st))) P := by
  obtain ⟨cl, A, hs, hl, -⟩ := A
  exact hr.of fun _ k => X.laload hx (by rw [eT]; exact A.1) (State.isArrayOf_alike hZ.alike A.2.1) A.2.2 (own_in hj hs (own_lt hv)) (own_at hj hs hv) (g := mkF m pc Ls (.int j :: .ref a :: st)) rfl rfl hd _ k
theorem g_caload (X : Stand p l e R s m args below meth c T locs cells slots) (hx : p.tables.exec = Jvm.exec) (hZ : Z.Warmed39 s.vm) (eT : T.heap = h) (A : Ar Z h a .char vs) {j : Int32} {i : Nat} {v : Value} (hj : j.toInt = i) (hv : vs[i]? = some v) (hd : decode c.code pc = .ok (.caload, 1))
    (hr : Goes p.tables e below (T.setTop (mkF m (pc + 1) Ls (v :: st))) P) : Goes p.tables e below (T.setTop (mkF m pc Ls (.int j :: .ref a :: st))) P := by
  obtain ⟨cl, A, hs, hl, -⟩ := A
  exact hr.of fun _ k => X.caload hx (by rw [eT]; exact A.1) (State.isArrayOf_alike hZ.alike A.2.1) A.2.2 (own_in hj hs (own_lt hv)) (own_at hj hs hv) (g := mkF m pc Ls (.int j :: .ref a :: st)) rfl rfl hd _ k
theorem g_saload (X : Stand p l e R s m args below meth c T locs cells slots) (hx : p.tables.exec = Jvm.exec) (hZ : Z.Warmed39 s.vm) (eT : T.heap = h) (A : Ar Z h a .short vs) {j : Int32} {i : Nat} {v : Value} (hj : j.toInt = i) (hv : vs[i]? = some v) (hd : decode c.code pc = .ok (.saload, 1))
    (hr : Goes p.tables e below (T.setTop (mkF m (pc + 1) Ls (v :: st))) P) : Goes p.tables e below (T.setTop (mkF m pc Ls (.int j :: .ref a :: st))) P := by
  obtain ⟨cl, A, hs, hl, -⟩ := A
  exact hr.of fun _ k => X.saload hx (by rw [eT]; exact A.1) (State.isArrayOf_alike hZ.alike A.2.1) A.2.2 (own_in hj hs (own_lt hv)) (own_at hj hs hv) (g := mkF m pc Ls (.int j :: .ref a :: st)) rfl rfl hd _ k
theorem g_baload (X : Stand p l e R s m args below meth c T locs cells slots) (hx : p.tables.exec = Jvm.exec) (hZ : Z.Warmed39 s.vm) (eT : T.heap = h) (A : Ar Z h a .byte vs) {j : Int32} {i : Nat} {v : Value} (hj : j.toInt = i) (hv : vs[i]? = some v) (hd : decode c.code pc = .ok (.baload, 1))
    (hr : Goes p.tables e below (T.setTop (mkF m (pc + 1) Ls (v :: st))) P) : Goes p.tables e below (T.setTop (mkF m pc Ls (.int j :: .ref a :: st))) P := by
  obtain ⟨cl, A, hs, hl, -⟩ := A
  exact hr.of fun _ k => X.baloadBytes hx (by rw [eT]; exact A.1) (State.isArrayOf_alike hZ.alike A.2.1) A.2.2 (own_in hj hs (own_lt hv)) (own_at hj hs hv) (g := mkF m pc Ls (.int j :: .ref a :: st)) rfl rfl hd _ k
theorem g_zaload (X : Stand p l e R s m args below meth c T locs cells slots) (hx : p.tables.exec = Jvm.exec) (hZ : Z.Warmed39 s.vm) (eT : T.heap = h) (A : Ar Z h a .boolean vs) {j : Int32} {i : Nat} {v : Value} (hj : j.toInt = i) (hv : vs[i]? = some v) (hd : decode c.code pc = .ok (.baload, 1))
    (hr : Goes p.tables e below (T.setTop (mkF m (pc + 1) Ls (v :: st))) P) : Goes p.tables e below (T.setTop (mkF m pc Ls (.int j :: .ref a :: st))) P := by
  obtain ⟨cl, A, hs, hl, -⟩ := A
  exact hr.of fun _ k => X.baloadBooleans hx (by rw [eT]; exact A.1) (State.isArrayOf_alike hZ.alike A.2.1) A.2.2 (own_in hj hs (own_lt hv)) (own_at hj hs hv) (g := mkF m pc Ls (.int j :: .ref a :: st)) rfl rfl hd _ k
theorem g_aaload (X : Stand p l e R s m args below meth c T locs cells slots) (hx : p.tables.exec = Jvm.exec) (hZ : Z.Warmed39 s.vm) (eT : T.heap = h) (A : Ar Z h a ty vs) (hty : ty.isReference = true) {j : Int32} {i : Nat} {v : Value} (hj : j.toInt = i) (hv : vs[i]? = some v) (hd : decode c.code pc = .ok (.aaload, 1))
    (hr : Goes p.tables e below (T.setTop (mkF m (pc + 1) Ls (v :: st))) P) : Goes p.tables e below (T.setTop (mkF m pc Ls (.int j :: .ref a :: st))) P := by
  obtain ⟨cl, A, hs, hl, -⟩ := A
  exact hr.of fun _ k => X.aaload hx (by rw [eT]; exact A.1) (State.isArrayOf_alike hZ.alike A.2.1) hty A.2.2 (own_in hj hs (own_lt hv)) (own_at hj hs hv) (g := mkF m pc Ls (.int j :: .ref a :: st)) rfl rfl hd _ k
theorem g_alen (X : Stand p l e R s m args below meth c T locs cells slots) (hx : p.tables.exec = Jvm.exec) (hZ : Z.Warmed39 s.vm) (eT : T.heap = h) (A : Ar Z h a ty vs) (z : Int32) (hz : z.toInt = vs.length) (hd : decode c.code pc = .ok (.arraylength, 1))
    (hr : Goes p.tables e below (T.setTop (mkF m (pc + 1) Ls (.int z :: st))) P) : Goes p.tables e below (T.setTop (mkF m pc Ls (.ref a :: st))) P := by
  obtain ⟨cl, A, hs, hl, -⟩ := A
  have q : cl.slots.size.toInt32 = z := by
    have e1 : cl.slots.size = vs.length := by rw [← hs, Array.length_toList]
    exact Int32.toInt_inj.mp (by rw [len_toInt (by rw [e1]; exact hl), hz, e1])
  subst q
  exact hr.of fun _ k => X.arraylength hx (cell := cl) (by rw [eT]; exact A.1) (State.isArrayOf_alike hZ.alike A.2.1) (g := mkF m pc Ls (.ref a :: st)) rfl (rest := st) rfl hd _ k
theorem g_newarr (X : Stand p l e R s m args below meth c T locs cells slots) (hx : p.tables.exec = Jvm.exec) (hZ : Z.Warmed39 s.vm) (eT : T.heap = h) {aty : ArrayType} (w : (Jvm.Cond.arrayClass (newarray.typeOf aty)).before a0 Z = true) (hd : decode c.code pc = .ok (.newarray aty, 2)) {z : Int32} {n : Nat} (hz : z.toInt = n) (cap : Nat) (hcap : n ≤ cap) (hb : cap * 8 ≤ 536870912) (hc : cells + 1 ≤ R.cells) (hl : slots + cap ≤ R.slots) {ad : String} (had : "[" ++ (newarray.typeOf aty).toString = ad) (hfit : fits (newarray.typeOf aty) (defaultValue (newarray.typeOf aty)) = true)
    (k : ∀ T' h' a, a = h.size → Stand p l e R s m args below meth c T' locs (cells + 1) (slots + cap) → T'.heap = h' → Ext h h' → Ar Z h' a (newarray.typeOf aty) (List.replicate n (defaultValue (newarray.typeOf aty))) → Exa Z h' a ad → Goes p.tables e below (T'.setTop (mkF m (pc + 2) Ls (.ref a :: st))) P) :
    Goes p.tables e below (T.setTop (mkF m pc Ls (.int z :: st))) P := by
  obtain ⟨e1, q⟩ := own_nat hz
  obtain ⟨T', h', cA, X', e', E, A, F, st'⟩ := newPE X hx hZ w eT (g := mkF m pc Ls (.int z :: st)) rfl hd rfl q (cap := cap) (by rw [e1]; exact hcap) hb hc hl had
  refine (k T' h' _ rfl X' e' E ⟨_, A, ?_, ?_, ?_⟩ F).of st'
  · simp [newA, e1]
  · rw [List.length_replicate]; have := rng32 z; omega
  · intro v hv; rw [(List.mem_replicate.mp hv).2]; exact hfit
theorem g_iastore (X : Stand p l e R s m args below meth c T locs cells slots) (hx : p.tables.exec = Jvm.exec) (hZ : Z.Warmed39 s.vm) (eT : T.heap = h) (A : Ar Z h a .int vs) {j : Int32} {x : Int32} (i : Nat) (hj : j.toInt = i) (hi : i < vs.length) (hd : decode c.code pc = .ok (.iastore, 1))
    (k : ∀ T' h', Stand p l e R s m args below meth c T' (locs ++ [⟨a, i⟩]) cells slots → T'.heap = h' → Wr h h' a i (.int x) → Ar Z h' a .int (vs.set i (.int x)) → Goes p.tables e below (T'.setTop (mkF m (pc + 1) Ls st)) P) : Goes p.tables e below (T.setTop (mkF m pc Ls (.int x :: .int j :: .ref a :: st))) P := by
  have A' := A
  obtain ⟨cl, A, hs, hl, -⟩ := A
  obtain ⟨T', h', X', e', W', st'⟩ := stI X hx hZ eT A (own_in hj hs hi) (g := mkF m pc Ls (.int x :: .int j :: .ref a :: st)) rfl rfl hd
  rw [(own_nat hj).1] at X' W'
  exact (k T' h' X' e' W' (A'.set W' rfl)).of st'
theorem g_lastore (X : Stand p l e R s m args below meth c T locs cells slots) (hx : p.tables.exec = Jvm.exec) (hZ : Z.Warmed39 s.vm) (eT : T.heap = h) (A : Ar Z h a .long vs) {j : Int32} {x : Int64} (i : Nat) (hj : j.toInt = i) (hi : i < vs.length) (hd : decode c.code pc = .ok (.lastore, 1))
    (k : ∀ T' h', Stand p l e R s m args below meth c T' (locs ++ [⟨a, i⟩]) cells slots → T'.heap = h' → Wr h h' a i (.long x) → Ar Z h' a .long (vs.set i (.long x)) → Goes p.tables e below (T'.setTop (mkF m (pc + 1) Ls st)) P) : Goes p.tables e below (T.setTop (mkF m pc Ls (.long x :: .int j :: .ref a :: st))) P := by
  have A' := A
  obtain ⟨cl, A, hs, hl, -⟩ := A
  obtain ⟨T', h', X', e', W', st'⟩ := stJ X hx hZ eT A (own_in hj hs hi) (g := mkF m pc Ls (.long x :: .int j :: .ref a :: st)) rfl rfl hd
  rw [(own_nat hj).1] at X' W'
  exact (k T' h' X' e' W' (A'.set W' rfl)).of st'
theorem g_castore (X : Stand p l e R s m args below meth c T locs cells slots) (hx : p.tables.exec = Jvm.exec) (hZ : Z.Warmed39 s.vm) (eT : T.heap = h) (A : Ar Z h a .char vs) {j x : Int32} (i : Nat) (hj : j.toInt = i) (hi : i < vs.length) (x' : Int32) (hn : nar .char x = x') (hd : decode c.code pc = .ok (.castore, 1))
    (k : ∀ T' h', Stand p l e R s m args below meth c T' (locs ++ [⟨a, i⟩]) cells slots → T'.heap = h' → Wr h h' a i (.int x') → Ar Z h' a .char (vs.set i (.int x')) → Goes p.tables e below (T'.setTop (mkF m (pc + 1) Ls st)) P) : Goes p.tables e below (T.setTop (mkF m pc Ls (.int x :: .int j :: .ref a :: st))) P := by
  have A' := A
  obtain ⟨cl, A, hs, hl, -⟩ := A
  obtain ⟨T', h', X', e', W', st'⟩ := stC X hx hZ eT A (own_in hj hs hi) (g := mkF m pc Ls (.int x :: .int j :: .ref a :: st)) rfl rfl hd
  rw [(own_nat hj).1, hn] at W'
  rw [(own_nat hj).1] at X'
  exact (k T' h' X' e' W' (A'.set W' (by rw [← hn]; exact fits_nar_char x))).of st'
theorem g_bastore (X : Stand p l e R s m args below meth c T locs cells slots) (hx : p.tables.exec = Jvm.exec) (hZ : Z.Warmed39 s.vm) (eT : T.heap = h) (A : Ar Z h a .byte vs) {j x : Int32} (i : Nat) (hj : j.toInt = i) (hi : i < vs.length) (x' : Int32) (hn : nar .byte x = x') (hd : decode c.code pc = .ok (.bastore, 1))
    (k : ∀ T' h', Stand p l e R s m args below meth c T' (locs ++ [⟨a, i⟩]) cells slots → T'.heap = h' → Wr h h' a i (.int x') → Ar Z h' a .byte (vs.set i (.int x')) → Goes p.tables e below (T'.setTop (mkF m (pc + 1) Ls st)) P) : Goes p.tables e below (T.setTop (mkF m pc Ls (.int x :: .int j :: .ref a :: st))) P := by
  have A' := A
  obtain ⟨cl, A, hs, hl, -⟩ := A
  obtain ⟨T', h', X', e', W', st'⟩ := stB X hx hZ eT A (own_in hj hs hi) (g := mkF m pc Ls (.int x :: .int j :: .ref a :: st)) rfl rfl hd
  rw [(own_nat hj).1, hn] at W'
  rw [(own_nat hj).1] at X'
  exact (k T' h' X' e' W' (A'.set W' (by rw [← hn]; exact fits_nar_byte x))).of st'
theorem g_zastore (X : Stand p l e R s m args below meth c T locs cells slots) (hx : p.tables.exec = Jvm.exec) (hZ : Z.Warmed39 s.vm) (eT : T.heap = h) (A : Ar Z h a .boolean vs) {j x : Int32} (i : Nat) (hj : j.toInt = i) (hi : i < vs.length) (x' : Int32) (hn : nar .boolean x = x') (hd : decode c.code pc = .ok (.bastore, 1))
    (k : ∀ T' h', Stand p l e R s m args below meth c T' (locs ++ [⟨a, i⟩]) cells slots → T'.heap = h' → Wr h h' a i (.int x') → Ar Z h' a .boolean (vs.set i (.int x')) → Goes p.tables e below (T'.setTop (mkF m (pc + 1) Ls st)) P) : Goes p.tables e below (T.setTop (mkF m pc Ls (.int x :: .int j :: .ref a :: st))) P := by
  have A' := A
  obtain ⟨cl, A, hs, hl, -⟩ := A
  obtain ⟨T', h', X', e', W', st'⟩ := stZ X hx hZ eT A (own_in hj hs hi) (g := mkF m pc Ls (.int x :: .int j :: .ref a :: st)) rfl rfl hd
  rw [(own_nat hj).1, hn] at W'
  rw [(own_nat hj).1] at X'
  exact (k T' h' X' e' W' (A'.set W' (by rw [← hn]; exact fits_nar_bool x))).of st'
theorem g_clone (X : Stand p l e R s m args below meth c T locs cells slots) (hx : p.tables.exec = Jvm.exec) (hZ : Z.Warmed39 s.vm) {own ad : String} {index : Nat} (hown : s.vm.findClass own = some m.cls) (hml : Ls.size = c.maxLocals) (eT : T.heap = h)
    (w1 : (Jvm.Cond.methodLink own index ⟨ad, "clone", "()Ljava/lang/Object;"⟩).before a0 Z = true) (w2 : (Jvm.Cond.sameMethod ad "java/lang/Object" "clone" "()Ljava/lang/Object;").before a0 Z = true) (w3 : (Jvm.Cond.native ⟨"java/lang/Object", "clone", "()Ljava/lang/Object;"⟩).before a0 Z = true)
    (w4 : (Jvm.Cond.instanceMethod ⟨"java/lang/Object", "clone", "()Ljava/lang/Object;"⟩).before a0 Z = true) (w5 : (Jvm.Cond.selects ad ⟨ad, "clone", "()Ljava/lang/Object;"⟩ ⟨"java/lang/Object", "clone", "()Ljava/lang/Object;"⟩).before a0 Z = true) (w6 : (Jvm.Cond.castable ad "java/lang/Cloneable").before a0 Z = true)
    (A : Ar Z h a ty vs) (E : Exa Z h a ad) (hd : decode c.code pc = .ok (.invokevirtual index, 3)) (W cap : Nat) (hf : 1 ≤ R.frames) (hW : (st.map fun v => v.category).sum ≤ W) (hl : W + 14 ≤ R.locals) (hcap : vs.length ≤ cap) (hc : cells + 1 ≤ R.cells) (hsl : slots + cap ≤ R.slots)
    (k : ∀ T' h' b, b = h.size → Stand p l e R s m args below meth c T' locs (cells + 1) (slots + cap) → T'.heap = h' → Ext h h' → Ar Z h' b ty vs → Exa Z h' b ad → Goes p.tables e below (T'.setTop (mkF m (pc + 3) Ls (.ref b :: st))) P) :
    Goes p.tables e below (T.setTop (mkF m pc Ls (.ref a :: st))) P := by
  obtain ⟨cl, A, hs, hln, hft⟩ := A
  have hsz : cl.slots.size = vs.length := by rw [← hs, Array.length_toList]
  obtain ⟨T', h', X', e', Ex, A', E', st'⟩ := cloneA X hx hZ hown w1 w2 w3 w4 w5 w6 eT A E (fitC_of A (fun i hi v hv => hft v (by rw [← hs]; exact Array.mem_toList_iff.mpr (Array.mem_of_getElem? hv)))) (g := mkF m pc Ls (.ref a :: st)) rfl hml rfl hd hf (W := W) (cap := cap) (by show 2 * 0 + _ ≤ _; omega) hl (by rw [hsz]; exact hcap) hc hsl
  exact (k T' h' _ rfl X' e' Ex ⟨_, A', hs, hln, hft⟩ E').of st'
theorem g_cast (X : Stand p l e R s m args below meth c T locs cells slots) (hx : p.tables.exec = Jvm.exec) (hZ : Z.Warmed39 s.vm) {own K : String} {index : Nat} (hown : s.vm.findClass own = some m.cls) (eT : T.heap = h) (w : (Jvm.Cond.classLink own index K).before a0 Z = true) (F : Ins Z h a K true) (hd : decode c.code pc = .ok (.checkcast index, 3))
    (k : ∀ T', Stand p l e R s m args below meth c T' locs cells slots → T'.heap = h → Goes p.tables e below (T'.setTop (mkF m (pc + 3) Ls (.ref a :: st))) P) : Goes p.tables e below (T.setTop (mkF m pc Ls (.ref a :: st))) P := by
  obtain ⟨T', X', e', st'⟩ := castY X hx hZ hown w eT F (g := mkF m pc Ls (.ref a :: st)) rfl rfl hd
  exact (k T' X' e').of st'
theorem Ar.toV (F : Ar Z h a ty vs) (d : Value) : ∃ k, Arv Z h a k ty (Int32.ofNat vs.length) vs d := by
  obtain ⟨cl, A, hs, hl, hf⟩ := F
  have e1 : cl.slots.size = vs.length := by rw [← hs, Array.length_toList]
  obtain ⟨e2, q⟩ := own_nat (j := Int32.ofNat vs.length) (i := vs.length) (Int32.toInt_ofNat_of_lt (by omega))
  refine ⟨cl.cls, cl, A, rfl, by rw [e2, e1], q, fun i hi => ?_, fun i hi => ?_⟩
  · rw [← Array.getElem?_toList, hs, List.getD_eq_getElem?_getD, List.getElem?_eq_getElem (by omega)]; rfl
  · rw [List.getD_eq_getElem?_getD, List.getElem?_eq_getElem (by omega)]; exact hf _ (List.getElem_mem _)
theorem Ar.ofV {k : ClassId} {z : Int32} {d : Value} (F : Arv Z h a k ty z vs d) (hl : vs.length = z.toNatClampNeg) (hb : vs.length < 2 ^ 31) : Ar Z h a ty vs := by
  obtain ⟨cl, A, -, hs, -, H, G⟩ := F
  have e : cl.slots.toList = vs := by
    apply List.ext_getElem?
    intro i
    by_cases hi : i < cl.slots.size
    · rw [Array.getElem?_toList, H i hi, List.getD_eq_getElem?_getD, List.getElem?_eq_getElem (by omega)]; rfl
    · rw [List.getElem?_eq_none (by rw [Array.length_toList]; omega), List.getElem?_eq_none (by omega)]
  refine ⟨cl, A, e, hb, fun v hv => ?_⟩
  obtain ⟨i, hi, rfl⟩ := List.getElem_of_mem hv
  have q := G i (by omega)
  rwa [List.getD_eq_getElem?_getD, List.getElem?_eq_getElem hi] at q
theorem own_rangeTake (vs : List Value) (d : Value) (n : Nat) (hn : n ≤ vs.length) : (List.range n).map (fun i => vs.getD (0 + i) d) = vs.take n := by
  apply List.ext_getElem
  · simp; omega
  · intro i h1 h2
    simp at h1 h2
    simp [List.getElem?_eq_getElem (show i < vs.length by omega)]
theorem g_acopy (X : Stand p l e R s m args below meth c T locs cells slots) (hx : p.tables.exec = Jvm.exec) (hZ : Z.Warmed39 s.vm) {own : String} {index : Nat} (hown : s.vm.findClass own = some m.cls) (hml : Ls.size = c.maxLocals) (eT : T.heap = h)
    (w1 : (Jvm.Cond.methodLink own index Jvm.Stand.acN).before a0 Z = true) (w2 : (Jvm.Cond.native Jvm.Stand.acN).before a0 Z = true) (w3 : (Jvm.Cond.static Jvm.Stand.acN).before a0 Z = true) (w4 : (Jvm.Cond.initialized "java/lang/System").before a0 Z = true)
    {vd : List Value} (A : Ar Z h a ty vs) (B : Ar Z h b ty vd) (hp : refKind ty = false) {nn : Int32} {n : Nat} (hn : nn.toInt = n) (h1 : n ≤ vs.length) (h2 : n ≤ vd.length) {n0 : Nat} (N : Fr n0 locs) (ge : n0 ≤ b) (hd : decode c.code pc = .ok (.invokestatic index, 3))
    (W : Nat) (hf : 1 ≤ R.frames) (hW : (st.map fun v => v.category).sum ≤ W) (hlo : W + (nativeFrameWords "java/lang/System" "arraycopy" 5 + 11) ≤ R.locals)
    (k : ∀ T' h' L, Stand p l e R s m args below meth c T' L cells slots → T'.heap = h' → Fr n0 L → Keep h h' [b] → Ar Z h' b ty (vs.take n ++ vd.drop n) → Goes p.tables e below (T'.setTop (mkF m (pc + 3) Ls st)) P) :
    Goes p.tables e below (T.setTop (mkF m pc Ls (.int nn :: .int 0 :: .ref b :: .int 0 :: .ref a :: st))) P := by
  obtain ⟨k1, A1⟩ := A.toV .null
  obtain ⟨k2, B1⟩ := B.toV .null
  obtain ⟨en, qn⟩ := own_nat hn
  have lv : vs.length < 2 ^ 31 := by obtain ⟨_, _, _, q, _⟩ := A; exact q
  have ld : vd.length < 2 ^ 31 := by obtain ⟨_, _, _, q, _⟩ := B; exact q
  have ev : (Int32.ofNat vs.length).toNatClampNeg = vs.length := (own_nat (Int32.toInt_ofNat_of_lt (by omega))).1
  have ed : (Int32.ofNat vd.length).toNatClampNeg = vd.length := (own_nat (Int32.toInt_ofNat_of_lt (by omega))).1
  have e0 : (0 : Int32).toNatClampNeg = 0 := rfl
  obtain ⟨T', h', L, X', e', N', K', B', st'⟩ := cpA X hx hZ hown w1 w2 w3 w4 eT A1 B1 (sp := 0) (dp := 0) (nn := nn) (Or.inl ⟨rfl, hp⟩) (by decide) (by decide) qn (by rw [e0, en, ev]; omega) (by rw [e0, en, ed]; omega) rfl (by rw [e0, en]; omega) N ge (g := mkF m pc Ls (.int nn :: .int 0 :: .ref b :: .int 0 :: .ref a :: st)) rfl hml rfl hd hf (W := W) (by show 2 * 0 + _ ≤ _; omega) hlo
  rw [e0, en, own_rangeTake vs _ n h1, List.take_zero, List.nil_append, Nat.zero_add] at B'
  have hlen : (vs.take n ++ vd.drop n).length = vd.length := by rw [List.length_append, List.length_take, List.length_drop]; omega
  exact (k T' h' L X' e' N' K' (Ar.ofV B' (by rw [hlen, ed]) (by rw [hlen]; exact ld))).of st'
end Arrays
theorem own_nst {a : Addr} {K : String} (E : Exa Z h a K) : ∀ c : Cell, h[a]? = some c → c.vm.isStatics = false := fun c hc => by
  obtain ⟨cell, k, h1, -, -, h4, -⟩ := E
  cases h1.symm.trans hc
  exact h4
theorem own_stakeep {h' : Heap} {K n d : String} {v : Value} {ws : List Addr} (F : Sta Z h K n d v) (hK : Keep h h' ws) (q : ∀ x ∈ ws, ∀ c : Cell, h[x]? = some c → c.vm.isStatics = false) : Sta Z h' K n d v := by
  obtain ⟨cf, i, k, f, sa, cell, h1, h2, h3, h4, h5, h6, h7⟩ := F
  exact ⟨cf, i, k, f, sa, cell, h1, h2, h3, h4, hK.2.1 sa cell h5 (fun hm => by rw [q sa hm cell h5] at h6; cases h6), h6, h7⟩
/-! words on statics -/
section Words
variable {first : State} {o : Option Outcome} {idx : List Nat} {ta tb : Term}
theorem own_eqR {y : Addr} (h : (Jvm.Cond.eq ta tb).value args first o s idx = some true) (hb : tb.eval args first o idx s = some (.ref y)) : ta.eval args first o idx s = some (.ref y) := by
  obtain ⟨x, z, ha, hb', k1, k2⟩ := cmp_v (Or.inl h)
  cases hb.symm.trans hb'
  have e := gotT (eq_R ha hb k2.2 rfl) h
  rw [ha, e]
theorem own_eqI {y : Int32} (h : (Jvm.Cond.eq ta tb).value args first o s idx = some true) (hb : tb.eval args first o idx s = some (.int y)) : ta.eval args first o idx s = some (.int y) := by
  obtain ⟨x, z, ha, hb', k1, k2⟩ := cmp_v (Or.inl h)
  cases hb.symm.trans hb'
  obtain ⟨w, rfl⟩ := k2
  simp [Jvm.Cond.value, ha, hb] at h
  rw [ha, h]
end Words
end Walk
end Jvm.OwnW
namespace Jvm.OwnW
open Sem ClassFile Op Lib Jvm.Stand Jvm.Free Jvm.LawKit Jvm.RoadKit
/-- the array class cA holds components of the class C -/
def OvG (Z : State) (cA : ClassId) (C : String) : Prop := ∃ (k : Class) (comp : ClassId) (t : FieldType), Z.vm.classes[cA]? = some k ∧ k.kind = .array comp t ∧ Z.vm.findClass C = some comp
theorem own_gO {Z : State} {cA : ClassId} {C : String} (O : Ovr Z cA C) : OvG Z cA C := by
  obtain ⟨k, comp, o1, o2, o3⟩ := O
  exact ⟨k, comp, _, o1, o2, o3⟩
theorem own_gA {Z : State} {cA : ClassId} {ty : FieldType} {C : String} (O : OvrA Z cA ty C) : OvG Z cA C := by
  obtain ⟨k, comp, o1, o2, o3⟩ := O
  exact ⟨k, comp, _, o1, o2, o3⟩
theorem own_stoG {Z : State} {h : Heap} {a y : Addr} {cl : Cell} {t0 : FieldType} {C : String} (A : Arr Z h a cl t0) (O : OvG Z cl.cls C) (I : Ins Z h y C true) : Sto Z h a (.ref y) := by
  obtain ⟨k, comp, t, o1, o2, o3⟩ := O
  obtain ⟨cv, cT, i1, i2, i3⟩ := I
  cases o3.symm.trans i2
  simp only [Bool.and_eq_true, Bool.not_eq_true'] at i3
  obtain ⟨kc, q⟩ := Vm.classAt_of_findClass o3
  obtain ⟨kv, q2⟩ := Vm.classAt_of_assignable i3.2 ⟨kc, q⟩
  exact Or.inr ⟨cl, cv, k, kv, kc, _, _, y, A.1, o1, o2, q, rfl, i1, i3.1, q2, i3.2⟩
end Jvm.OwnW
namespace Jvm.OwnW
open Sem ClassFile Op Lib Jvm.Stand Jvm.Free Jvm.LawKit Jvm.RoadKit
section Refs
variable {p : Program} {l : Launch} {e : Env} {R : Room} {s : State} {m : MethodId} {args : Array Value} {below : List Frame} {meth : Method} {c : Code} {T : State} {locs : List Loc} {cells slots : Nat} {P : State → Outcome → Prop} {pc : Nat} {Ls : Array Slot} {st : List Value} {Z : State} {a0 : Array Value} {h h' : Heap}
variable {Q : Option Value → Heap → List Loc → Prop} {y : MethodName} {bytes : ByteArray} {maxL : Nat} {ret : Option FieldType} {rm : Room} {as' : Array Value} {own K : String} {index W : Nat} {a b : Addr} {ty : FieldType} {vs : List Value} {ws : List Addr}
/-- the array's class is that of arrays over C -/
def Ovc (Z : State) (h : Heap) (a : Addr) (C : String) : Prop := ∃ c : Cell, h[a]? = some c ∧ OvG Z c.cls C
theorem Ovc.ext {C : String} (F : Ovc Z h a C) (E : Ext h h') : Ovc Z h' a C := by obtain ⟨c, h1, h2⟩ := F; exact ⟨c, E.2 _ _ h1, h2⟩
theorem Ovc.wr {C : String} {sl : Nat} {v : Value} (F : Ovc Z h a C) (W : Wr h h' b sl v) : Ovc Z h' a C := by
  obtain ⟨c, h1, h2⟩ := F
  obtain ⟨c', e1, e2, -⟩ := wr_at W h1
  exact ⟨c', e1, by rw [e2]; exact h2⟩
theorem Ovc.keep {C : String} (F : Ovc Z h a C) (K : Keep h h' ws) : Ovc Z h' a C := by
  obtain ⟨c, h1, h2⟩ := F
  obtain ⟨c', e1, e2, -⟩ := K.2.2 _ _ h1
  exact ⟨c', e1, by rw [e2]; exact h2⟩
theorem Ovc.sto {C : String} {x : Addr} (F : Ovc Z h a C) (A : Ar Z h a ty vs) (I : Ins Z h x C true) : Sto Z h a (.ref x) := by
  obtain ⟨c, h1, h2⟩ := F
  obtain ⟨c', A, -⟩ := A
  cases h1.symm.trans A.1
  exact own_stoG A h2 I
theorem own_stoL {us : List Value} (H : ∀ v ∈ us, Sto Z h a v) : StoL Z h a us := by
  induction us with
  | nil => trivial
  | cons v r ih => exact ⟨H v (List.mem_cons_self ..), ih fun w hw => H w (List.mem_cons_of_mem _ hw)⟩
theorem Ins.keep' {x : Addr} {C : String} {bo : Bool} (F : Ins Z h x C bo) (K : Keep h h' ws) : Ins Z h' x C bo := by
  obtain ⟨cell, cT, h1, h2, h3⟩ := F
  obtain ⟨c', e1, e2, e3, -⟩ := K.2.2 _ _ h1
  exact ⟨c', cT, e1, h2, by rw [e2, e3]; exact h3⟩
theorem g_newref (X : Stand p l e R s m args below meth c T locs cells slots) (hx : p.tables.exec = Jvm.exec) (hZ : Z.Warmed39 s.vm) (hown : s.vm.findClass own = some m.cls) (eT : T.heap = h) {C : String} (w1 : (Jvm.Cond.classLink own index C).before a0 Z = true) (w2 : (Jvm.Cond.arrayOver (.object C)).before a0 Z = true) (hd : decode c.code pc = .ok (.anewarray index, 3)) {z : Int32} {n : Nat} (hz : z.toInt = n) (cap : Nat) (hcap : n ≤ cap) (hb : cap * 8 ≤ 536870912) (hc : cells + 1 ≤ R.cells) (hl : slots + cap ≤ R.slots) {ad : String} (had : "[" ++ (FieldType.object C).toString = ad)
    (k : ∀ T' h' a, a = h.size → Stand p l e R s m args below meth c T' locs (cells + 1) (slots + cap) → T'.heap = h' → Ext h h' → Ar Z h' a (.object C) (List.replicate n .null) → Exa Z h' a ad → Ovc Z h' a C → Goes p.tables e below (T'.setTop (mkF m (pc + 3) Ls (.ref a :: st))) P) :
    Goes p.tables e below (T.setTop (mkF m pc Ls (.int z :: st))) P := by
  obtain ⟨e1, q⟩ := own_nat hz
  obtain ⟨T', h', cA, X', e', E, A, F, O, st'⟩ := newRE X hx hZ hown w1 w2 eT (g := mkF m pc Ls (.int z :: st)) rfl hd rfl q (cap := cap) (by rw [e1]; exact hcap) hb hc hl had
  refine (k T' h' _ rfl X' e' E ⟨_, A, ?_, ?_, ?_⟩ F ⟨_, A.1, own_gO O⟩).of st'
  · simp [newA, e1, defaultValue]
  · rw [List.length_replicate]; have := rng32 z; omega
  · intro v hv; rw [(List.mem_replicate.mp hv).2]; rfl
theorem g_aastore (X : Stand p l e R s m args below meth c T locs cells slots) (hx : p.tables.exec = Jvm.exec) (hZ : Z.Warmed39 s.vm) (eT : T.heap = h) (A : Ar Z h a ty vs) (hty : ty.isReference = true) {j : Int32} {v : Value} (hf : fits ty v = true) (S : Sto Z h a v) (i : Nat) (hj : j.toInt = i) (hi : i < vs.length) (hd : decode c.code pc = .ok (.aastore, 1))
    (k : ∀ T' h', Stand p l e R s m args below meth c T' (locs ++ [⟨a, i⟩]) cells slots → T'.heap = h' → Wr h h' a i v → Ar Z h' a ty (vs.set i v) → Goes p.tables e below (T'.setTop (mkF m (pc + 1) Ls st)) P) : Goes p.tables e below (T.setTop (mkF m pc Ls (v :: .int j :: .ref a :: st))) P := by
  have A' := A
  obtain ⟨cl, A, hs, hl, -⟩ := A
  obtain ⟨T', h', X', e', W', st'⟩ := stR X hx hZ eT A (own_in hj hs hi) hty S (g := mkF m pc Ls (v :: .int j :: .ref a :: st)) rfl rfl hd
  rw [(own_nat hj).1] at X' W'
  exact (k T' h' X' e' W' (A'.set W' hf)).of st'
theorem g_acopyR (X : Stand p l e R s m args below meth c T locs cells slots) (hx : p.tables.exec = Jvm.exec) (hZ : Z.Warmed39 s.vm) (hown : s.vm.findClass own = some m.cls) (hml : Ls.size = c.maxLocals) (eT : T.heap = h)
    (w1 : (Jvm.Cond.methodLink own index Jvm.Stand.acN).before a0 Z = true) (w2 : (Jvm.Cond.native Jvm.Stand.acN).before a0 Z = true) (w3 : (Jvm.Cond.static Jvm.Stand.acN).before a0 Z = true) (w4 : (Jvm.Cond.initialized "java/lang/System").before a0 Z = true)
    {vd : List Value} (A : Ar Z h a ty vs) (B : Ar Z h b ty vd) (hp : refKind ty = true) {nn : Int32} {n : Nat} (hn : nn.toInt = n) (h1 : n ≤ vs.length) (h2 : n ≤ vd.length) (hS : ∀ v ∈ vs.take n, Sto Z h b v) {n0 : Nat} (N : Fr n0 locs) (ge : n0 ≤ b) (hd : decode c.code pc = .ok (.invokestatic index, 3))
    (W : Nat) (hf : 1 ≤ R.frames) (hW : (st.map fun v => v.category).sum ≤ W) (hlo : W + (nativeFrameWords "java/lang/System" "arraycopy" 5 + 11) ≤ R.locals)
    (k : ∀ T' h' L, Stand p l e R s m args below meth c T' L cells slots → T'.heap = h' → Fr n0 L → Keep h h' [b] → Ar Z h' b ty (vs.take n ++ vd.drop n) → Goes p.tables e below (T'.setTop (mkF m (pc + 3) Ls st)) P) :
    Goes p.tables e below (T.setTop (mkF m pc Ls (.int nn :: .int 0 :: .ref b :: .int 0 :: .ref a :: st))) P := by
  obtain ⟨k1, A1⟩ := A.toV .null
  obtain ⟨k2, B1⟩ := B.toV .null
  obtain ⟨en, qn⟩ := own_nat hn
  have lv : vs.length < 2 ^ 31 := by obtain ⟨_, _, _, q, _⟩ := A; exact q
  have ld : vd.length < 2 ^ 31 := by obtain ⟨_, _, _, q, _⟩ := B; exact q
  have ev : (Int32.ofNat vs.length).toNatClampNeg = vs.length := (own_nat (Int32.toInt_ofNat_of_lt (by omega))).1
  have ed : (Int32.ofNat vd.length).toNatClampNeg = vd.length := (own_nat (Int32.toInt_ofNat_of_lt (by omega))).1
  have e0 : (0 : Int32).toNatClampNeg = 0 := rfl
  have us : (List.range nn.toNatClampNeg).map (fun i => vs.getD ((0 : Int32).toNatClampNeg + i) .null) = vs.take n := by rw [e0, en]; exact own_rangeTake vs _ n h1
  obtain ⟨T', h', L, X', e', N', K', B', st'⟩ := cpA X hx hZ hown w1 w2 w3 w4 eT A1 B1 (sp := 0) (dp := 0) (nn := nn) (us := vs.take n) (Or.inr ⟨hp, hp, own_stoL hS⟩) (by decide) (by decide) qn (by rw [e0, en, ev]; omega) (by rw [e0, en, ed]; omega) us.symm (by rw [e0, en]; omega) N ge (g := mkF m pc Ls (.int nn :: .int 0 :: .ref b :: .int 0 :: .ref a :: st)) rfl hml rfl hd hf (W := W) (by show 2 * 0 + _ ≤ _; omega) hlo
  rw [e0, en, List.take_zero, List.nil_append, Nat.zero_add] at B'
  have hlen : (vs.take n ++ vd.drop n).length = vd.length := by rw [List.length_append, List.length_take, List.length_drop]; omega
  exact (k T' h' L X' e' N' K' (Ar.ofV B' (by rw [hlen, ed]) (by rw [hlen]; exact ld))).of st'
/-- a private instance method by its contract (invokevirtual) -/
theorem g_callP (X : Stand p l e R s m args below meth c T locs cells slots) (hx : p.tables.exec = Jvm.exec) (hZ : Z.Warmed39 s.vm) (hown : s.vm.findClass own = some m.cls) (hml : Ls.size = c.maxLocals) (eT : T.heap = h)
    (wl : (Jvm.Cond.methodLink own index y).before a0 Z = true) (wt : (Jvm.Cond.instanceMethod y).before a0 Z = true) (wv : (Jvm.Cond.selects y.cls y y).before a0 Z = true) (wp : (Jvm.Cond.privateMethod y).before a0 Z = true) (wz : (Jvm.Cond.initialized y.cls).before a0 Z = true) (wc : (Jvm.Cond.code y bytes maxL ret).before a0 Z = true)
    (E : Exa Z h a K) (hM : Con l Z y bytes maxL ret [] rm rm.cells rm.slots as' h Q) (argsL : List Value) (has : (.ref a :: argsL).toArray = as') {S : List Value} (st : List Value) (hS : S = argsL.reverse ++ .ref a :: st) (hlen : ∀ sig, parseMethodDescriptor y.desc = some sig → argsL.length = sig.parameters.length)
    (hd : decode c.code pc = .ok (.invokevirtual index, 3)) (hy : y.cls ≠ "java/lang/invoke/MethodHandle" ∧ y.cls ≠ "java/lang/invoke/VarHandle") (W : Nat) (hf : rm.frames + 1 ≤ R.frames) (hl : W + (maxL + 11) + rm.locals ≤ R.locals) (hW : (st.map fun v => v.category).sum ≤ W) (hc : cells + rm.cells ≤ R.cells) (hs : slots + rm.slots ≤ R.slots)
    (k : ∀ v T' L, Stand p l e R s m args below meth c T' (locs ++ L) (cells + rm.cells) (slots + rm.slots) → Q v T'.heap L → Goes p.tables e below (T'.setTop (mkF m (pc + 3) Ls (v.toList ++ st))) P) :
    Goes p.tables e below (T.setTop (mkF m pc Ls S)) P := by
  subst hS
  obtain ⟨cell, hc1, hc2⟩ := Exa.cell E
  obtain ⟨v, vm₁, ⟨T', L', k', n'⟩, -, X', ⟨L, hQ, e1, e2, e3⟩, st'⟩ := X.privateBack hx (y := y) hown (mvT hZ wl) (mvT hZ wt) (mvT hZ wv) (Cond.privateMethod_at (args := #[]) (mvP hZ wp)) (mvT hZ wc) hy (backOf (W := W) hM hZ wc wz hf hl) (g := mkF m pc Ls (argsL.reverse ++ .ref a :: st)) rfl hml (Steps.refl _) (a := a) (cell := cell) (by rw [eT]; exact hc1) hc2 (argsL := argsL) (rest := st) hlen rfl (by show 2 * 0 + _ ≤ _; omega) hd (fun _ _ => ⟨has, eT, hc, hs⟩)
  dsimp only [Pt.U, Pt.locs, Pt.cells, Pt.slots] at X' e1 e2 e3 st' hQ
  subst e1 e2 e3
  exact (k v T' L X' hQ).tr st'
/-- an interface's method by the contract of what it selects -/
theorem g_callF (X : Stand p l e R s m args below meth c T locs cells slots) (hx : p.tables.exec = Jvm.exec) (hZ : Z.Warmed39 s.vm) (hown : s.vm.findClass own = some m.cls) (hml : Ls.size = c.maxLocals) (eT : T.heap = h) {x : MethodName} {count : Nat}
    (wl : (Jvm.Cond.methodLink own index x).before a0 Z = true) (wd : (Jvm.Cond.declares x).before a0 Z = true) (wi : (Jvm.Cond.interfaceMethod x.cls x.cls x.name x.desc).before a0 Z = true) (wv : (Jvm.Cond.selects K x y).before a0 Z = true) (wt : (Jvm.Cond.instanceMethod y).before a0 Z = true) (wu : (Jvm.Cond.publicMethod y).before a0 Z = true) (wh : (Jvm.Cond.unhidden K x.name x.desc).before a0 Z = true) (wk : (Jvm.Cond.castable K x.cls).before a0 Z = true) (wz : (Jvm.Cond.initialized y.cls).before a0 Z = true) (wc : (Jvm.Cond.code y bytes maxL ret).before a0 Z = true)
    (E : Exa Z h a K) (hM : Con l Z y bytes maxL ret [] rm rm.cells rm.slots as' h Q) (argsL : List Value) (has : (.ref a :: argsL).toArray = as') {S : List Value} (st : List Value) (hS : S = argsL.reverse ++ .ref a :: st) (hlen : ∀ sig, parseMethodDescriptor x.desc = some sig → argsL.length = sig.parameters.length)
    (hd : decode c.code pc = .ok (.invokeinterface index count, 5)) (hy : x.cls ≠ "java/lang/invoke/MethodHandle" ∧ x.cls ≠ "java/lang/invoke/VarHandle") (W : Nat) (hf : rm.frames + 1 ≤ R.frames) (hl : W + (maxL + 11) + rm.locals ≤ R.locals) (hW : (st.map fun v => v.category).sum ≤ W) (hc : cells + rm.cells ≤ R.cells) (hs : slots + rm.slots ≤ R.slots)
    (k : ∀ v T' L, Stand p l e R s m args below meth c T' (locs ++ L) (cells + rm.cells) (slots + rm.slots) → Q v T'.heap L → Goes p.tables e below (T'.setTop (mkF m (pc + 5) Ls (v.toList ++ st))) P) :
    Goes p.tables e below (T.setTop (mkF m pc Ls S)) P := by
  subst hS
  obtain ⟨cq, kq, qa, qb, qc⟩ := isOf hZ eT E
  obtain ⟨v, vm₁, ⟨T', L', k', n'⟩, -, X', ⟨L, hQ, e1, e2, e3⟩, st'⟩ := X.interfaceBack hx (xi := x) (y := y) hown (mvT hZ wl) (mvT hZ wd) (mvT hZ wi (by simp [Cond.onTables, Cond.keepsFace, Cond.keeps, Cond.steady, Cond.faceAtom, hy.1, hy.2])) (mvT hZ wv) (mvT hZ wt) (mvT hZ wu) (mvT hZ wh) (mvT hZ wk) hy (backOf (W := W) hM hZ wc wz hf hl) qa qb qc (g := mkF m pc Ls (argsL.reverse ++ .ref a :: st)) rfl hml (Steps.refl _) (argsL := argsL) (rest := st) hlen rfl (by show 2 * 0 + _ ≤ _; omega) hd (fun _ _ => ⟨has, eT, hc, hs⟩)
  dsimp only [Pt.U, Pt.locs, Pt.cells, Pt.slots] at X' e1 e2 e3 st' hQ
  subst e1 e2 e3
  exact (k v T' L X' hQ).tr st'
theorem own_mvM {Z s : State} {a0 args : Array Value} {own host : String} {index : Nat} {y : MethodName} (hZ : Z.Warmed39 s.vm) (w : (Jvm.Cond.methodLinkNest own index y host).before a0 Z = true) : (Jvm.Cond.methodLinkNest own index y host).before args s = true := (Cond.methodLinkNest_wide hZ w :)
/-- a constructor by its contract, linked through the nest -/
theorem g_callIN (X : Stand p l e R s m args below meth c T locs cells slots) (hx : p.tables.exec = Jvm.exec) (hZ : Z.Warmed39 s.vm) (hown : s.vm.findClass own = some m.cls) (hml : Ls.size = c.maxLocals) (eT : T.heap = h) {host : String} (hn : y.name = "<init>")
    (wl : (Jvm.Cond.methodLinkNest own index y host).before a0 Z = true) (wt : (Jvm.Cond.instanceMethod y).before a0 Z = true) (wz : (Jvm.Cond.initialized y.cls).before a0 Z = true) (wc : (Jvm.Cond.code y bytes maxL none).before a0 Z = true)
    (hM : Con l Z y bytes maxL none [] rm rm.cells rm.slots as' h Q) (a : Addr) (argsL : List Value) (has : (.ref a :: argsL).toArray = as') {S : List Value} (st : List Value) (hS : S = argsL.reverse ++ .ref a :: st) (hlen : ∀ sig, parseMethodDescriptor y.desc = some sig → argsL.length = sig.parameters.length)
    (hd : decode c.code pc = .ok (.invokespecial index, 3)) (hy : y.cls ≠ "java/lang/invoke/MethodHandle" ∧ y.cls ≠ "java/lang/invoke/VarHandle") (W : Nat) (hf : rm.frames + 1 ≤ R.frames) (hl : W + (maxL + 11) + rm.locals ≤ R.locals) (hW : (st.map fun v => v.category).sum ≤ W) (hc : cells + rm.cells ≤ R.cells) (hs : slots + rm.slots ≤ R.slots)
    (k : ∀ v T' L, Stand p l e R s m args below meth c T' (locs ++ L) (cells + rm.cells) (slots + rm.slots) → Q v T'.heap L → Goes p.tables e below (T'.setTop (mkF m (pc + 3) Ls (v.toList ++ st))) P) :
    Goes p.tables e below (T.setTop (mkF m pc Ls S)) P := by
  subst hS
  obtain ⟨v, vm₁, ⟨T', L', k', n'⟩, -, X', ⟨L, hQ, e1, e2, e3⟩, st'⟩ := X.specialBackNest hx (y := y) hn hown (own_mvM hZ wl) (mvT hZ wt) (mvT hZ wc) hy (backOf (W := W) hM hZ wc wz hf hl) (g := mkF m pc Ls (argsL.reverse ++ .ref a :: st)) rfl hml (Steps.refl _) (a := a) (argsL := argsL) (rest := st) hlen rfl (by show 2 * 0 + _ ≤ _; omega) hd (fun _ _ => ⟨has, eT, hc, hs⟩)
  dsimp only [Pt.U, Pt.locs, Pt.cells, Pt.slots] at X' e1 e2 e3 st' hQ
  subst e1 e2 e3
  exact (k v T' L X' hQ).tr st'
/-- the class object of the class C is mr -/
def Mirr (Z : State) (C : String) (mr : Addr) : Prop := ∃ (c : ClassId) (k : Class), Z.vm.findClass C = some c ∧ Z.vm.classes[c]? = some k ∧ k.mirror = some mr
theorem g_ldcM (X : Stand p l e R s m args below meth c T locs cells slots) (hx : p.tables.exec = Jvm.exec) (hZ : Z.Warmed39 s.vm) (hown : s.vm.findClass own = some m.cls) (eT : T.heap = h) {C : String} (w : (Jvm.Cond.classLink own index C).before a0 Z = true) {mr : Addr} (M : Mirr Z C mr) (hd : decode c.code pc = .ok (.ldc index, 2))
    (k : ∀ T', Stand p l e R s m args below meth c T' locs cells slots → T'.heap = h → Goes p.tables e below (T'.setTop (mkF m (pc + 2) Ls (.ref mr :: st))) P) : Goes p.tables e below (T.setTop (mkF m pc Ls st)) P := by
  obtain ⟨cc, kc, m1, m2, m3⟩ := M
  obtain ⟨k', q, ek⟩ := hZ.alike.2.2 _ _ m2
  have hev : (Term.mirror C).eval args s none [] s = some (.ref mr) := by
    have f1 : s.vm.findClass C = some cc := by rw [hZ.alike.findClass]; exact m1
    have f3 : k'.mirror = some mr := by rw [ek]; exact m3
    simp [Term.eval, f1, q, f3]
  obtain ⟨vm', X', st'⟩ := X.ldcMirror hx hown (mvT hZ w) hev (g := mkF m pc Ls st) rfl hd
  exact (k _ X' eT).of st'
theorem g_gcls (X : Stand p l e R s m args below meth c T locs cells slots) (hx : p.tables.exec = Jvm.exec) (hZ : Z.Warmed39 s.vm) (hown : s.vm.findClass own = some m.cls) (hml : Ls.size = c.maxLocals) (eT : T.heap = h) {C : String}
    (w1 : (Jvm.Cond.methodLink own index ⟨"java/lang/Object", "getClass", "()Ljava/lang/Class;"⟩).before a0 Z = true) (w2 : (Jvm.Cond.declares ⟨"java/lang/Object", "getClass", "()Ljava/lang/Class;"⟩).before a0 Z = true) (w3 : (Jvm.Cond.noSuperclass "java/lang/Object").before a0 Z = true) (w4 : (Jvm.Cond.selects C ⟨"java/lang/Object", "getClass", "()Ljava/lang/Class;"⟩ ⟨"java/lang/Object", "getClass", "()Ljava/lang/Class;"⟩).before a0 Z = true)
    (w5 : (Jvm.Cond.instanceMethod ⟨"java/lang/Object", "getClass", "()Ljava/lang/Class;"⟩).before a0 Z = true) (w6 : (Jvm.Cond.native ⟨"java/lang/Object", "getClass", "()Ljava/lang/Class;"⟩).before a0 Z = true) (E : Exa Z h a C) {mr : Addr} (M : Mirr Z C mr)
    (hd : decode c.code pc = .ok (.invokevirtual index, 3)) (W : Nat) (hf : 1 ≤ R.frames) (hW : (st.map fun v => v.category).sum ≤ W) (hl : W + (nativeFrameWords "java/lang/Object" "getClass" 1 + 11) ≤ R.locals)
    (k : ∀ T', Stand p l e R s m args below meth c T' locs cells slots → T'.heap = h → Goes p.tables e below (T'.setTop (mkF m (pc + 3) Ls (.ref mr :: st))) P) : Goes p.tables e below (T.setTop (mkF m pc Ls (.ref a :: st))) P := by
  obtain ⟨cB, kB, i1, i2, i3⟩ := isOf hZ eT E
  obtain ⟨cc, kc, m1, m2, m3⟩ := M
  rw [hZ.alike.findClass] at i1
  cases i1.symm.trans m1
  obtain ⟨k', q, ek⟩ := hZ.alike.2.2 _ _ m2
  obtain ⟨vm', X', st'⟩ := X.getClassOf hx hown (mvT hZ w1) (mvT hZ w2) (nf_top (args := #[]) (mvT hZ w3)) (mvT hZ w4) (mvT hZ w5) (mvT hZ w6) (by rw [hZ.alike.findClass]; exact m1) i3 q (by rw [ek]; exact m3) (g := mkF m pc Ls (.ref a :: st)) rfl hml rfl hd hf (by show 2 * 0 + _ + _ ≤ _; omega)
  exact (k _ X' eT).of st'
theorem g_instNo (X : Stand p l e R s m args below meth c T locs cells slots) (hx : p.tables.exec = Jvm.exec) (hZ : Z.Warmed39 s.vm) (hown : s.vm.findClass own = some m.cls) (eT : T.heap = h) {C : String} (w : (Jvm.Cond.classLink own index K).before a0 Z = true) (E : Exa Z h a C) (F : ∃ c t, Z.vm.findClass C = some c ∧ Z.vm.findClass K = some t ∧ Z.vm.assignable c t = false) (hd : decode c.code pc = .ok (.instanceof index, 3))
    (k : ∀ T', Stand p l e R s m args below meth c T' locs cells slots → T'.heap = h → Goes p.tables e below (T'.setTop (mkF m (pc + 3) Ls (.int 0 :: st))) P) : Goes p.tables e below (T.setTop (mkF m pc Ls (.ref a :: st))) P := by
  obtain ⟨T', X', e', st'⟩ := instNo X hx hZ hown w eT E F (g := mkF m pc Ls (.ref a :: st)) rfl rfl hd
  exact (k T' X' e').of st'
theorem g_tswIn (X : Stand p l e R s m args below meth c T locs cells slots) (hx : p.tables.exec = Jvm.exec) {dflt low high o : Int} {offs : Array Int} {len pc' : Nat} {i : Int32} (hd : decode c.code pc = .ok (.tableswitch dflt low high offs, len)) (hin : ¬ (i.toInt < low ∨ i.toInt > high)) (hoff : offs[(i.toInt - low).toNat]? = some o) (ho : 0 ≤ (pc : Int) + o) (hp : ((pc : Int) + o).toNat = pc')
    (hr : Goes p.tables e below (T.setTop (mkF m pc' Ls st)) P) : Goes p.tables e below (T.setTop (mkF m pc Ls (.int i :: st))) P := hr.of fun _ k => XS.tswIn X.here hx rfl rfl hd rfl hin hoff ho hp k
theorem g_tswOut (X : Stand p l e R s m args below meth c T locs cells slots) (hx : p.tables.exec = Jvm.exec) {dflt low high : Int} {offs : Array Int} {len pc' : Nat} {i : Int32} (hd : decode c.code pc = .ok (.tableswitch dflt low high offs, len)) (hout : i.toInt < low ∨ i.toInt > high) (ho : 0 ≤ (pc : Int) + dflt) (hp : ((pc : Int) + dflt).toNat = pc')
    (hr : Goes p.tables e below (T.setTop (mkF m pc' Ls st)) P) : Goes p.tables e below (T.setTop (mkF m pc Ls (.int i :: st))) P := hr.of fun _ k => XS.tswOut X.here hx rfl rfl hd rfl hout ho hp k
end Refs
end Jvm.OwnW
namespace Jvm.OwnW
open Sem ClassFile Op Lib Jvm.Stand Jvm.Free Jvm.LawKit Jvm.RoadKit Jvm.FP Jvm.Free.Fl
section Dbls
variable {p : Program} {l : Launch} {e : Env} {R : Room} {s : State} {m : MethodId} {args : Array Value} {below : List Frame} {meth : Method} {c : Code} {T : State} {locs : List Loc} {cells slots : Nat} {P : State → Outcome → Prop} {pc : Nat} {Ls : Array Slot} {st : List Value} {Z : State} {a0 : Array Value} {h h' : Heap} {own K : String} {index : Nat} {a : Addr} {vs : List Value} {ty : FieldType}
theorem g_dloadN (X : Stand p l e R s m args below meth c T locs cells slots) (hx : p.tables.exec = Jvm.exec) {k} {v : UInt64} (hd : decode c.code pc = .ok (.dload_n k, 1)) (hl : Ls[k.val]? = some (.val (.double v))) (hr : Goes p.tables e below (T.setTop (mkF m (pc + 1) Ls (.double v :: st))) P) : Goes p.tables e below (T.setTop (mkF m pc Ls st)) P := hr.of fun _ k => XS.dloadN X.here hx rfl hd hl k
theorem g_dload (X : Stand p l e R s m args below meth c T locs cells slots) (hx : p.tables.exec = Jvm.exec) {k : Nat} {v : UInt64} (hd : decode c.code pc = .ok (.dload k, 2)) (hl : Ls[k]? = some (.val (.double v))) (hr : Goes p.tables e below (T.setTop (mkF m (pc + 2) Ls (.double v :: st))) P) : Goes p.tables e below (T.setTop (mkF m pc Ls st)) P := hr.of fun _ k => XS.dload X.here hx rfl hd hl k
theorem g_dstoreN (X : Stand p l e R s m args below meth c T locs cells slots) (hx : p.tables.exec = Jvm.exec) {k} {x : UInt64} {l' : Array Slot} (hd : decode c.code pc = .ok (.dstore_n k, 1)) (hl : storeLocals Ls k.val (.double x) = some l') (hr : Goes p.tables e below (T.setTop (mkF m (pc + 1) l' st)) P) : Goes p.tables e below (T.setTop (mkF m pc Ls (.double x :: st))) P := hr.of fun _ k => XS.dstoreN X.here hx rfl hd rfl hl k
theorem g_dstore (X : Stand p l e R s m args below meth c T locs cells slots) (hx : p.tables.exec = Jvm.exec) {k : Nat} {x : UInt64} {l' : Array Slot} (hd : decode c.code pc = .ok (.dstore k, 2)) (hl : storeLocals Ls k (.double x) = some l') (hr : Goes p.tables e below (T.setTop (mkF m (pc + 2) l' st)) P) : Goes p.tables e below (T.setTop (mkF m pc Ls (.double x :: st))) P := hr.of fun _ k => XS.dstore X.here hx rfl hd rfl hl k
theorem g_l2d (X : Stand p l e R s m args below meth c T locs cells slots) (hx : p.tables.exec = Jvm.exec) {x : Int64} (hd : decode c.code pc = .ok (.l2d, 1)) (hr : Goes p.tables e below (T.setTop (mkF m (pc + 1) Ls (.double (FP.l2d x) :: st))) P) : Goes p.tables e below (T.setTop (mkF m pc Ls (.long x :: st))) P := hr.of fun _ k => XS.l2dS X.here hx rfl hd rfl rfl k
theorem g_dadd (X : Stand p l e R s m args below meth c T locs cells slots) (hx : p.tables.exec = Jvm.exec) {x y : UInt64} (v : UInt64) (hv : FP.dadd x y = v) (hn : NoNaN64 v) (hd : decode c.code pc = .ok (.dadd, 1)) (hr : Goes p.tables e below (T.setTop (mkF m (pc + 1) Ls (.double v :: st))) P) : Goes p.tables e below (T.setTop (mkF m pc Ls (.double y :: .double x :: st))) P := hr.of fun _ k => XS.daddS X.here hx rfl hd rfl (by rw [hv]; exact hn) hv k
theorem g_dsub (X : Stand p l e R s m args below meth c T locs cells slots) (hx : p.tables.exec = Jvm.exec) {x y : UInt64} (v : UInt64) (hv : FP.dsub x y = v) (hn : NoNaN64 v) (hd : decode c.code pc = .ok (.dsub, 1)) (hr : Goes p.tables e below (T.setTop (mkF m (pc + 1) Ls (.double v :: st))) P) : Goes p.tables e below (T.setTop (mkF m pc Ls (.double y :: .double x :: st))) P := hr.of fun _ k => XS.dsubS X.here hx rfl hd rfl (by rw [hv]; exact hn) hv k
theorem g_dmul (X : Stand p l e R s m args below meth c T locs cells slots) (hx : p.tables.exec = Jvm.exec) {x y : UInt64} (v : UInt64) (hv : FP.dmul x y = v) (hn : NoNaN64 v) (hd : decode c.code pc = .ok (.dmul, 1)) (hr : Goes p.tables e below (T.setTop (mkF m (pc + 1) Ls (.double v :: st))) P) : Goes p.tables e below (T.setTop (mkF m pc Ls (.double y :: .double x :: st))) P := hr.of fun _ k => XS.dmulS X.here hx rfl hd rfl (by rw [hv]; exact hn) hv k
theorem g_ddiv (X : Stand p l e R s m args below meth c T locs cells slots) (hx : p.tables.exec = Jvm.exec) {x y : UInt64} (v : UInt64) (hv : FP.ddiv x y = v) (hn : NoNaN64 v) (hd : decode c.code pc = .ok (.ddiv, 1)) (hr : Goes p.tables e below (T.setTop (mkF m (pc + 1) Ls (.double v :: st))) P) : Goes p.tables e below (T.setTop (mkF m pc Ls (.double y :: .double x :: st))) P := hr.of fun _ k => XS.ddivS X.here hx rfl hd rfl (by rw [hv]; exact hn) hv k
theorem g_dcmp (X : Stand p l e R s m args below meth c T locs cells slots) (hx : p.tables.exec = Jvm.exec) {o : CmpOp} {x y : UInt64} (v : Int32) (hv : cmpValue (FP.dcmp x y) o = v) (hd : decode c.code pc = .ok (.dcmp o, 1)) (hr : Goes p.tables e below (T.setTop (mkF m (pc + 1) Ls (.int v :: st))) P) : Goes p.tables e below (T.setTop (mkF m pc Ls (.double y :: .double x :: st))) P := hr.of fun _ k => XS.dcmpS X.here hx rfl hd rfl hv k
theorem g_daload (X : Stand p l e R s m args below meth c T locs cells slots) (hx : p.tables.exec = Jvm.exec) (hZ : Z.Warmed39 s.vm) (eT : T.heap = h) (A : Ar Z h a .double vs) {j : Int32} {i : Nat} {v : Value} (hj : j.toInt = i) (hv : vs[i]? = some v) (hd : decode c.code pc = .ok (.daload, 1))
    (hr : Goes p.tables e below (T.setTop (mkF m (pc + 1) Ls (v :: st))) P) : Goes p.tables e below (T.setTop (mkF m pc Ls (.int j :: .ref a :: st))) P := by
  obtain ⟨cl, A, hs, hl, -⟩ := A
  exact hr.of fun _ k => X.daload hx (by rw [eT]; exact A.1) (State.isArrayOf_alike hZ.alike A.2.1) A.2.2 (own_in hj hs (own_lt hv)) (own_at hj hs hv) (g := mkF m pc Ls (.int j :: .ref a :: st)) rfl rfl hd _ k
theorem g_dastore (X : Stand p l e R s m args below meth c T locs cells slots) (hx : p.tables.exec = Jvm.exec) (hZ : Z.Warmed39 s.vm) (eT : T.heap = h) (A : Ar Z h a .double vs) {j : Int32} {x : UInt64} (i : Nat) (hj : j.toInt = i) (hi : i < vs.length) (hd : decode c.code pc = .ok (.dastore, 1))
    (k : ∀ T' h', Stand p l e R s m args below meth c T' (locs ++ [⟨a, i⟩]) cells slots → T'.heap = h' → Wr h h' a i (.double x) → Ar Z h' a .double (vs.set i (.double x)) → Goes p.tables e below (T'.setTop (mkF m (pc + 1) Ls st)) P) : Goes p.tables e below (T.setTop (mkF m pc Ls (.double x :: .int j :: .ref a :: st))) P := by
  have A' := A
  obtain ⟨cl, A, hs, hl, -⟩ := A
  obtain ⟨T', h', X', e', W', st'⟩ := stD X hx hZ eT A (own_in hj hs hi) (g := mkF m pc Ls (.double x :: .int j :: .ref a :: st)) rfl rfl hd
  rw [(own_nat hj).1] at X' W'
  exact (k T' h' X' e' W' (A'.set W' rfl)).of st'
theorem g_newrefA (X : Stand p l e R s m args below meth c T locs cells slots) (hx : p.tables.exec = Jvm.exec) (hZ : Z.Warmed39 s.vm) (hown : s.vm.findClass own = some m.cls) (eT : T.heap = h) {C : String} (hC : (FieldType.array ty).toString = C) (w1 : (Jvm.Cond.classLink own index C).before a0 Z = true) (w2 : (Jvm.Cond.arrayOver (.array ty)).before a0 Z = true) (hd : decode c.code pc = .ok (.anewarray index, 3)) {z : Int32} {n : Nat} (hz : z.toInt = n) (cap : Nat) (hcap : n ≤ cap) (hb : cap * 8 ≤ 536870912) (hc : cells + 1 ≤ R.cells) (hl : slots + cap ≤ R.slots) {ad : String} (had : "[" ++ C = ad)
    (k : ∀ T' h' a, a = h.size → Stand p l e R s m args below meth c T' locs (cells + 1) (slots + cap) → T'.heap = h' → Ext h h' → Ar Z h' a (.array ty) (List.replicate n .null) → Exa Z h' a ad → Ovc Z h' a C → Goes p.tables e below (T'.setTop (mkF m (pc + 3) Ls (.ref a :: st))) P) :
    Goes p.tables e below (T.setTop (mkF m pc Ls (.int z :: st))) P := by
  obtain ⟨e1, q⟩ := own_nat hz
  obtain ⟨T', h', cA, X', e', E, A, F, O, st'⟩ := newRA X hx hZ hown hC w1 w2 eT (g := mkF m pc Ls (.int z :: st)) rfl hd rfl q (cap := cap) (by rw [e1]; exact hcap) hb hc hl had
  refine (k T' h' _ rfl X' e' E ⟨_, A, ?_, ?_, ?_⟩ F ⟨_, A.1, own_gA O⟩).of st'
  · simp [newA, e1, defaultValue]
  · rw [List.length_replicate]; have := rng32 z; omega
  · intro v hv; rw [(List.mem_replicate.mp hv).2]; rfl
theorem own_nstA (A : Ar Z h a ty vs) : ∀ c : Cell, h[a]? = some c → c.vm.isStatics = false := fun c hc => by
  obtain ⟨cl, A, -⟩ := A
  cases A.1.symm.trans hc
  exact A.plain
theorem own_selP {y : MethodName} {n : Nat} (hy : y.cls ≠ "java/lang/invoke/MethodHandle" ∧ y.cls ≠ "java/lang/invoke/VarHandle") (hins : (Jvm.Cond.instantiable y.cls n).before a0 Z = true) (hpriv : (Jvm.Cond.privateMethod y).before a0 Z = true) (hinst : (Jvm.Cond.instanceMethod y).before a0 Z = true) : (Jvm.Cond.selects y.cls y y).before a0 Z = true := by
  obtain ⟨c, k, hc, hk, -, hniab, -, -⟩ := Cond.instantiable_spec hins
  have hni : k.isInterface = false := (Bool.or_eq_false_iff.mp hniab).1
  obtain ⟨mk, methM, hnamed, hmethM, -, -⟩ := Cond.instanceMethod_spec hinst
  have hfound : Z.methodFound? y.cls y.name y.desc = some mk := State.methodFound?_of_named hnamed hy
  have hcls : mk.cls = c := Option.some.inj ((findClass_of_methodNamed hnamed).symm.trans hc)
  have hsel : selectMethod {} Z.vm c mk = .method mk := selectMethod_private hmethM (Cond.privateMethod_at hpriv mk methM hnamed hmethM)
  simp only [Cond.before, Cond.holds, Cond.value, hc, hfound, hnamed, hsel, hcls, hk]
  simp; exact hni
/-- the boxes' table as an array of mine -/
theorem own_bxsAr {d : String} {z : Int32} {val : Int32 → Value} {cl : Cell} (F : Bxs Z a cl K d z val) (hz : z.toInt = ((256 : Nat) : Int)) : Ar Z Z.heap a (.object K) cl.slots.toList := by
  obtain ⟨A, hs, hn, H⟩ := F
  have e1 : z.toNatClampNeg = 256 := (own_nat (i := 256) hz).1
  have hl : cl.slots.toList.length = 256 := by rw [Array.length_toList, hs, e1]
  refine ⟨cl, A, rfl, by rw [hl]; decide, fun v hv => ?_⟩
  obtain ⟨i, hi, rfl⟩ := List.getElem_of_mem hv
  have hi2 : i < 256 := by rw [hl] at hi; exact hi
  have e2 := own_nat (j := Int32.ofNat i) (i := i) (Int32.toInt_ofNat_of_lt (by omega))
  obtain ⟨b, q, -, -⟩ := H (Int32.ofNat i) (fun x => x.elim e2.2 fun y => by rw [hs, e1, e2.1] at y; omega)
  rw [e2.1, ← Array.getElem?_toList, List.getElem?_eq_getElem hi] at q
  rw [Option.some.inj q]; rfl
theorem own_bxsAt {d : String} {z : Int32} {val : Int32 → Value} {cl : Cell} (F : Bxs Z a cl K d z val) (hz : z.toInt = ((256 : Nat) : Int)) (i : Nat) (hi : i < 256) : ∃ b, cl.slots.toList[i]? = some (.ref b) ∧ Exa Z Z.heap b K ∧ Fld Z Z.heap b K "value" d (val (Int32.ofNat i)) := by
  obtain ⟨A, hs, hn, H⟩ := F
  have e1 : z.toNatClampNeg = 256 := (own_nat (i := 256) hz).1
  have e2 := own_nat (j := Int32.ofNat i) (i := i) (Int32.toInt_ofNat_of_lt (by omega))
  obtain ⟨b, q, E, G⟩ := H (Int32.ofNat i) (fun x => x.elim e2.2 fun y => by rw [hs, e1, e2.1] at y; omega)
  rw [e2.1] at q
  exact ⟨b, by rw [Array.getElem?_toList]; exact q, E, G⟩
end Dbls
/-! doubles that are whole numbers -/
section Whole
open Jvm.FP Jvm.Free.Fl
/-- bounded by K -/
def Bn (K : Int) (a : Int64) : Prop := -K ≤ a.toInt ∧ a.toInt ≤ K
theorem Bn.b53 {K : Int} {a : Int64} (h : Bn K a) (hK : K < 9007199254740992) : B53 a := ⟨by have := h.1; omega, by have := h.2; omega⟩
theorem Bn.zero {K : Int} (h : 0 ≤ K) : Bn K 0 := ⟨by show -K ≤ (0 : Int64).toInt; rw [show (0 : Int64).toInt = 0 from rfl]; omega, by show (0 : Int64).toInt ≤ K; rw [show (0 : Int64).toInt = 0 from rfl]; omega⟩
theorem Bn.mono {K M : Int} {a : Int64} (h : Bn K a) (hK : K ≤ M) : Bn M a := ⟨by have := h.1; omega, by have := h.2; omega⟩
theorem Bn.add {K M : Int} {a b : Int64} (h : Bn K a) (h' : Bn M b) (hK : K < 9007199254740992) (hM : M < 9007199254740992) : Bn (K + M) (a + b) := by
  have e := add64 (h.b53 hK) (h'.b53 hM)
  have := h.1; have := h.2; have := h'.1; have := h'.2
  exact ⟨by rw [e]; omega, by rw [e]; omega⟩
theorem Bn.sub {K M : Int} {a b : Int64} (h : Bn K a) (h' : Bn M b) (hK : K < 9007199254740992) (hM : M < 9007199254740992) : Bn (K + M) (a - b) := by
  have e := sub64 (h.b53 hK) (h'.b53 hM)
  have := h.1; have := h.2; have := h'.1; have := h'.2
  exact ⟨by rw [e]; omega, by rw [e]; omega⟩
theorem Bn.ite {K : Int} {c : Prop} [Decidable c] {a b : Int64} (h : Bn K a) (h' : Bn K b) : Bn K (if c then a else b) := by
  by_cases q : c
  · rw [if_pos q]; exact h
  · rw [if_neg q]; exact h'
theorem own_prod {a b : Int64} (h : Bn 8388608 a) (h' : Bn 8388608 b) : -70368744177664 ≤ a.toInt * b.toInt ∧ a.toInt * b.toInt ≤ 70368744177664 := by
  have hm : (a.toInt * b.toInt).natAbs ≤ 8388608 * 8388608 := by
    rw [Int.natAbs_mul]
    exact Nat.mul_le_mul (by have := h.1; have := h.2; omega) (by have := h'.1; have := h'.2; omega)
  omega
theorem Bn.mul {a b : Int64} (h : Bn 8388608 a) (h' : Bn 8388608 b) : Bn 70368744177664 (a * b) := by
  have q := own_prod h h'
  have e : (a * b).toInt = a.toInt * b.toInt := by
    rw [Int64.toInt_mul]; exact Int.bmod_eq_of_le (by omega) (by omega)
  exact ⟨by rw [e]; exact q.1, by rw [e]; exact q.2⟩
theorem own_mulNN {a b : Int64} (h : Bn 8388608 a) (h' : Bn 8388608 b) : NoNaN64 (FP.dmul (FP.l2d a) (FP.l2d b)) := by
  have ha := h.b53 (by decide)
  have hb := h'.b53 (by decide)
  have q := own_prod h h'
  by_cases z : a = 0 ∨ b = 0
  · rw [dmul_z ha hb z]
    split
    · show (9223372036854775808 : UInt64) &&& 0x7fffffffffffffff ≤ 0x7ff0000000000000
      decide
    · exact nn_w rfl
  · exact nn_w (dmul_w ha hb (fun x => z (Or.inl x)) (fun x => z (Or.inr x)) (by omega) (by omega))
theorem own_addmul {x a b : Int64} {K : Int} (hx : Bn K x) (hK : K < 9007199254740992) (h : Bn 8388608 a) (h' : Bn 8388608 b) : FP.dadd (FP.l2d x) (FP.dmul (FP.l2d a) (FP.l2d b)) = FP.l2d (x + a * b) := by
  have ha := h.b53 (by decide)
  have hb := h'.b53 (by decide)
  have q := own_prod h h'
  have hxx := hx.b53 hK
  by_cases z : a = 0 ∨ b = 0
  · have e0 : a * b = 0 := by rcases z with rfl | rfl <;> simp
    rw [e0, Int64.add_zero, dmul_z ha hb z]
    split
    · exact Core.dadd_zeroNeg (val64_no.mp (nn_w rfl))
    · rw [dadd_w hxx (Bn.b53 (K := 0) (Bn.zero (by decide)) (by decide)), Int64.add_zero]
  · rw [dmul_w ha hb (fun y => z (Or.inl y)) (fun y => z (Or.inr y)) (by omega) (by omega)]
    exact dadd_w hxx ((Bn.mul h h').b53 (by decide))
theorem l2d_one : FP.l2d 1 = 4607182418800017408 := by decide +kernel
theorem own_div1 (a : Int64) : FP.ddiv (FP.l2d a) (FP.l2d 1) = FP.l2d a := by
  rw [l2d_one]
  exact Core.ddiv_one (val64_no.mp (nn_w rfl))
theorem own_sub1 (a : Int64) {K : Int} (h : Bn K a) (hK : K < 9007199254740991) : FP.dsub (FP.l2d a) (FP.l2d (a - 1)) = FP.l2d 1 := by
  have h1 : Bn 1 (1 : Int64) := ⟨by decide, by decide⟩
  have hb : Bn (K + 1) (a - 1) := h.sub h1 (by omega) (by omega)
  rw [dsub_w (h.b53 (by omega)) (hb.b53 (by omega))]
  congr 1
  apply Int64.toInt_inj.mp
  rw [sub64 (h.b53 (by omega)) (hb.b53 (by omega)), sub64 (h.b53 (by omega)) (h1.b53 (by decide))]
  have : (1 : Int64).toInt = 1 := by decide
  omega
theorem own_p24 (x : Int32) : Bn 8388608 (Int32.toInt64 ((x <<< ((8 : Int32) &&& 31)) >>> ((8 : Int32) &&& 31))) := by
  have e := c_ishr (x <<< ((8 : Int32) &&& 31)) 8 8 (by decide)
  have r := rng32 (x <<< ((8 : Int32) &&& 31))
  have i := c_i2l ((x <<< ((8 : Int32) &&& 31)) >>> ((8 : Int32) &&& 31))
  try rw [show ((2 ^ 8 : Nat) : Int) = 256 from rfl] at e
  unfold Bn
  rw [i, e]
  omega
theorem own_m01 (x : Int32) : XT.ushr x 31 = 0 ∨ XT.ushr x 31 = 1 := by
  have e : (XT.ushr x 31).toInt = (x.toInt % 4294967296) / (2 ^ 31 : Nat) := c_iushr x 31 31 (by decide) (by decide)
  try rw [show ((2 ^ 31 : Nat) : Int) = 2147483648 from rfl] at e
  have z0 : (0 : Int32).toInt = 0 := rfl
  have z1 : (1 : Int32).toInt = 1 := by decide
  have hh : (XT.ushr x 31).toInt = 0 ∨ (XT.ushr x 31).toInt = 1 := by omega
  rcases hh with q | q
  · exact Or.inl (Int32.toInt_inj.mp (by rw [q, z0]))
  · exact Or.inr (Int32.toInt_inj.mp (by rw [q, z1]))
end Whole
end Jvm.OwnW
namespace Jvm.Pilot.@@N@@
open Jvm Jvm.ClassFile Sem Op Lib Jvm.Free Jvm.Stand Jvm.LawKit Jvm.RoadKit Bundle Jvm.OwnW Jvm.Pilot.@@N@@.Jvm.D
theorem d25_0 : decode jdk_35_method_42_code 0 = .ok (.lload_n 0, 1) := by decide +kernel
theorem d25_1 : decode jdk_35_method_42_code 1 = .ok (.lload_n 2, 1) := by decide +kernel
theorem d25_2 : decode jdk_35_method_42_code 2 = .ok (.lcmp, 1) := by decide +kernel
theorem d25_3 : decode jdk_35_method_42_code 3 = .ok (.ifCond .ge 7, 3) := by decide +kernel
theorem d25_10 : decode jdk_35_method_42_code 10 = .ok (.lload_n 0, 1) := by decide +kernel
theorem d25_11 : decode jdk_35_method_42_code 11 = .ok (.lload_n 2, 1) := by decide +kernel
theorem d25_12 : decode jdk_35_method_42_code 12 = .ok (.lcmp, 1) := by decide +kernel
theorem d25_13 : decode jdk_35_method_42_code 13 = .ok (.ifCond .ne 7, 3) := by decide +kernel
theorem d25_20 : decode jdk_35_method_42_code 20 = .ok (.iconst 1, 1) := by decide +kernel
theorem d25_21 : decode jdk_35_method_42_code 21 = .ok (.ireturn, 1) := by decide +kernel
theorem pd_25 : parseMethodDescriptor "(JJ)I" = some ⟨[.long, .long], some .int⟩ := by decide +kernel
theorem d24_0 : decode jdk_35_method_41_code 0 = .ok (.aload_n 0, 1) := by decide +kernel
theorem d24_1 : decode jdk_35_method_41_code 1 = .ok (.getfield 273, 3) := by decide +kernel
theorem d24_4 : decode jdk_35_method_41_code 4 = .ok (.aload_n 1, 1) := by decide +kernel
theorem d24_5 : decode jdk_35_method_41_code 5 = .ok (.getfield 273, 3) := by decide +kernel
theorem d24_8 : decode jdk_35_method_41_code 8 = .ok (.invokestatic 302, 3) := by decide +kernel
theorem d24_11 : decode jdk_35_method_41_code 11 = .ok (.ireturn, 1) := by decide +kernel
theorem pd_24 : parseMethodDescriptor "(Ljava/lang/Long;)I" = some ⟨[(.object "java/lang/Long")], some .int⟩ := by decide +kernel
theorem d23_0 : decode jdk_35_method_64_code 0 = .ok (.aload_n 0, 1) := by decide +kernel
theorem d23_1 : decode jdk_35_method_64_code 1 = .ok (.aload_n 1, 1) := by decide +kernel
theorem d23_2 : decode jdk_35_method_64_code 2 = .ok (.checkcast 1, 3) := by decide +kernel
theorem d23_5 : decode jdk_35_method_64_code 5 = .ok (.invokevirtual 343, 3) := by decide +kernel
theorem d23_8 : decode jdk_35_method_64_code 8 = .ok (.ireturn, 1) := by decide +kernel
theorem pd_23 : parseMethodDescriptor "(Ljava/lang/Object;)I" = some ⟨[(.object "java/lang/Object")], some .int⟩ := by decide +kernel
theorem d28_0 : decode jdk_35_method_31_code 0 = .ok (.aload_n 0, 1) := by decide +kernel
theorem d28_1 : decode jdk_35_method_31_code 1 = .ok (.getfield 273, 3) := by decide +kernel
theorem d28_4 : decode jdk_35_method_31_code 4 = .ok (.lreturn, 1) := by decide +kernel
theorem pd_28 : parseMethodDescriptor "()J" = some ⟨[], some .long⟩ := by decide +kernel
theorem d18_0 : decode jdk_35_method_24_code 0 = .ok (.sipush 128, 3) := by decide +kernel
theorem d18_3 : decode jdk_35_method_24_code 3 = .ok (.istore_n 2, 1) := by decide +kernel
theorem d18_4 : decode jdk_35_method_24_code 4 = .ok (.lload_n 0, 1) := by decide +kernel
theorem d18_5 : decode jdk_35_method_24_code 5 = .ok (.ldc2_w 230, 3) := by decide +kernel
theorem d18_8 : decode jdk_35_method_24_code 8 = .ok (.lcmp, 1) := by decide +kernel
theorem d18_9 : decode jdk_35_method_24_code 9 = .ok (.ifCond .lt 22, 3) := by decide +kernel
theorem d18_12 : decode jdk_35_method_24_code 12 = .ok (.lload_n 0, 1) := by decide +kernel
theorem d18_13 : decode jdk_35_method_24_code 13 = .ok (.ldc2_w 232, 3) := by decide +kernel
theorem d18_16 : decode jdk_35_method_24_code 16 = .ok (.lcmp, 1) := by decide +kernel
theorem d18_17 : decode jdk_35_method_24_code 17 = .ok (.ifCond .gt 14, 3) := by decide +kernel
theorem d18_20 : decode jdk_35_method_24_code 20 = .ok (.getstatic 234, 3) := by decide +kernel
theorem d18_23 : decode jdk_35_method_24_code 23 = .ok (.lload_n 0, 1) := by decide +kernel
theorem d18_24 : decode jdk_35_method_24_code 24 = .ok (.l2i, 1) := by decide +kernel
theorem d18_25 : decode jdk_35_method_24_code 25 = .ok (.sipush 128, 3) := by decide +kernel
theorem d18_28 : decode jdk_35_method_24_code 28 = .ok (.iadd, 1) := by decide +kernel
theorem d18_29 : decode jdk_35_method_24_code 29 = .ok (.aaload, 1) := by decide +kernel
theorem d18_30 : decode jdk_35_method_24_code 30 = .ok (.areturn, 1) := by decide +kernel
theorem pd_18 : parseMethodDescriptor "(J)Ljava/lang/Long;" = some ⟨[.long], some (.object "java/lang/Long")⟩ := by decide +kernel
theorem d17_0 : decode prog_35_method_12_code 0 = .ok (.iload_n 0, 1) := by decide +kernel
theorem d17_1 : decode prog_35_method_12_code 1 = .ok (.i2l, 1) := by decide +kernel
theorem d17_2 : decode prog_35_method_12_code 2 = .ok (.bipush 32, 2) := by decide +kernel
theorem d17_4 : decode prog_35_method_12_code 4 = .ok (.lshl, 1) := by decide +kernel
theorem d17_5 : decode prog_35_method_12_code 5 = .ok (.iload_n 1, 1) := by decide +kernel
theorem d17_6 : decode prog_35_method_12_code 6 = .ok (.i2l, 1) := by decide +kernel
theorem d17_7 : decode prog_35_method_12_code 7 = .ok (.lor, 1) := by decide +kernel
theorem d17_8 : decode prog_35_method_12_code 8 = .ok (.lreturn, 1) := by decide +kernel
theorem pd_17 : parseMethodDescriptor "(II)J" = some ⟨[.int, .int], some .long⟩ := by decide +kernel
theorem d22_0 : decode jdk_2655_method_28_code 0 = .ok (.aload_n 1, 1) := by decide +kernel
theorem d22_1 : decode jdk_2655_method_28_code 1 = .ok (.checkcast 144, 3) := by decide +kernel
theorem d22_4 : decode jdk_2655_method_28_code 4 = .ok (.astore_n 3, 1) := by decide +kernel
theorem d22_5 : decode jdk_2655_method_28_code 5 = .ok (.iload_n 0, 1) := by decide +kernel
theorem d22_6 : decode jdk_2655_method_28_code 6 = .ok (.ifCond .le 41, 3) := by decide +kernel
theorem d22_9 : decode jdk_2655_method_28_code 9 = .ok (.iload_n 0, 1) := by decide +kernel
theorem d22_10 : decode jdk_2655_method_28_code 10 = .ok (.iconst 1, 1) := by decide +kernel
theorem d22_11 : decode jdk_2655_method_28_code 11 = .ok (.isub, 1) := by decide +kernel
theorem d22_12 : decode jdk_2655_method_28_code 12 = .ok (.iconst 1, 1) := by decide +kernel
theorem d22_13 : decode jdk_2655_method_28_code 13 = .ok (.iushr, 1) := by decide +kernel
theorem d22_14 : decode jdk_2655_method_28_code 14 = .ok (.istore 4, 2) := by decide +kernel
theorem d22_16 : decode jdk_2655_method_28_code 16 = .ok (.aload_n 2, 1) := by decide +kernel
theorem d22_17 : decode jdk_2655_method_28_code 17 = .ok (.iload 4, 2) := by decide +kernel
theorem d22_19 : decode jdk_2655_method_28_code 19 = .ok (.aaload, 1) := by decide +kernel
theorem d22_20 : decode jdk_2655_method_28_code 20 = .ok (.astore 5, 2) := by decide +kernel
theorem d22_22 : decode jdk_2655_method_28_code 22 = .ok (.aload_n 3, 1) := by decide +kernel
theorem d22_23 : decode jdk_2655_method_28_code 23 = .ok (.aload 5, 2) := by decide +kernel
theorem d22_25 : decode jdk_2655_method_28_code 25 = .ok (.invokeinterface 146 2, 5) := by decide +kernel
theorem d22_30 : decode jdk_2655_method_28_code 30 = .ok (.ifCond .lt 6, 3) := by decide +kernel
theorem d22_33 : decode jdk_2655_method_28_code 33 = .ok (.goto 14, 3) := by decide +kernel
theorem d22_47 : decode jdk_2655_method_28_code 47 = .ok (.aload_n 2, 1) := by decide +kernel
theorem d22_48 : decode jdk_2655_method_28_code 48 = .ok (.iload_n 0, 1) := by decide +kernel
theorem d22_49 : decode jdk_2655_method_28_code 49 = .ok (.aload_n 3, 1) := by decide +kernel
theorem d22_50 : decode jdk_2655_method_28_code 50 = .ok (.aastore, 1) := by decide +kernel
theorem d22_51 : decode jdk_2655_method_28_code 51 = .ok (.return_, 1) := by decide +kernel
theorem pd_22 : parseMethodDescriptor "(ILjava/lang/Object;[Ljava/lang/Object;)V" = some ⟨[.int, (.object "java/lang/Object"), (.array (.object "java/lang/Object"))], none⟩ := by decide +kernel
theorem d21_0 : decode jdk_2655_method_27_code 0 = .ok (.aload_n 0, 1) := by decide +kernel
theorem d21_1 : decode jdk_2655_method_27_code 1 = .ok (.getfield 21, 3) := by decide +kernel
theorem d21_4 : decode jdk_2655_method_27_code 4 = .ok (.ifnull 19, 3) := by decide +kernel
theorem d21_23 : decode jdk_2655_method_27_code 23 = .ok (.iload_n 1, 1) := by decide +kernel
theorem d21_24 : decode jdk_2655_method_27_code 24 = .ok (.aload_n 2, 1) := by decide +kernel
theorem d21_25 : decode jdk_2655_method_27_code 25 = .ok (.aload_n 0, 1) := by decide +kernel
theorem d21_26 : decode jdk_2655_method_27_code 26 = .ok (.getfield 17, 3) := by decide +kernel
theorem d21_29 : decode jdk_2655_method_27_code 29 = .ok (.invokestatic 140, 3) := by decide +kernel
theorem d21_32 : decode jdk_2655_method_27_code 32 = .ok (.return_, 1) := by decide +kernel
theorem pd_21 : parseMethodDescriptor "(ILjava/lang/Object;)V" = some ⟨[.int, (.object "java/lang/Object")], none⟩ := by decide +kernel
theorem d20_0 : decode jdk_2655_method_14_code 0 = .ok (.aload_n 1, 1) := by decide +kernel
theorem d20_1 : decode jdk_2655_method_14_code 1 = .ok (.ifnonnull 11, 3) := by decide +kernel
theorem d20_12 : decode jdk_2655_method_14_code 12 = .ok (.aload_n 0, 1) := by decide +kernel
theorem d20_13 : decode jdk_2655_method_14_code 13 = .ok (.dup, 1) := by decide +kernel
theorem d20_14 : decode jdk_2655_method_14_code 14 = .ok (.getfield 93, 3) := by decide +kernel
theorem d20_17 : decode jdk_2655_method_14_code 17 = .ok (.iconst 1, 1) := by decide +kernel
theorem d20_18 : decode jdk_2655_method_14_code 18 = .ok (.iadd, 1) := by decide +kernel
theorem d20_19 : decode jdk_2655_method_14_code 19 = .ok (.putfield 93, 3) := by decide +kernel
theorem d20_22 : decode jdk_2655_method_14_code 22 = .ok (.aload_n 0, 1) := by decide +kernel
theorem d20_23 : decode jdk_2655_method_14_code 23 = .ok (.getfield 58, 3) := by decide +kernel
theorem d20_26 : decode jdk_2655_method_14_code 26 = .ok (.istore_n 2, 1) := by decide +kernel
theorem d20_27 : decode jdk_2655_method_14_code 27 = .ok (.iload_n 2, 1) := by decide +kernel
theorem d20_28 : decode jdk_2655_method_14_code 28 = .ok (.aload_n 0, 1) := by decide +kernel
theorem d20_29 : decode jdk_2655_method_14_code 29 = .ok (.getfield 17, 3) := by decide +kernel
theorem d20_32 : decode jdk_2655_method_14_code 32 = .ok (.arraylength, 1) := by decide +kernel
theorem d20_33 : decode jdk_2655_method_14_code 33 = .ok (.if_icmp .lt 10, 3) := by decide +kernel
theorem d20_43 : decode jdk_2655_method_14_code 43 = .ok (.aload_n 0, 1) := by decide +kernel
theorem d20_44 : decode jdk_2655_method_14_code 44 = .ok (.iload_n 2, 1) := by decide +kernel
theorem d20_45 : decode jdk_2655_method_14_code 45 = .ok (.aload_n 1, 1) := by decide +kernel
theorem d20_46 : decode jdk_2655_method_14_code 46 = .ok (.invokevirtual 100, 3) := by decide +kernel
theorem d20_49 : decode jdk_2655_method_14_code 49 = .ok (.aload_n 0, 1) := by decide +kernel
theorem d20_50 : decode jdk_2655_method_14_code 50 = .ok (.iload_n 2, 1) := by decide +kernel
theorem d20_51 : decode jdk_2655_method_14_code 51 = .ok (.iconst 1, 1) := by decide +kernel
theorem d20_52 : decode jdk_2655_method_14_code 52 = .ok (.iadd, 1) := by decide +kernel
theorem d20_53 : decode jdk_2655_method_14_code 53 = .ok (.putfield 58, 3) := by decide +kernel
theorem d20_56 : decode jdk_2655_method_14_code 56 = .ok (.iconst 1, 1) := by decide +kernel
theorem d20_57 : decode jdk_2655_method_14_code 57 = .ok (.ireturn, 1) := by decide +kernel
theorem pd_20 : parseMethodDescriptor "(Ljava/lang/Object;)Z" = some ⟨[(.object "java/lang/Object")], some .boolean⟩ := by decide +kernel
theorem d19_0 : decode jdk_2655_method_13_code 0 = .ok (.aload_n 0, 1) := by decide +kernel
theorem d19_1 : decode jdk_2655_method_13_code 1 = .ok (.aload_n 1, 1) := by decide +kernel
theorem d19_2 : decode jdk_2655_method_13_code 2 = .ok (.invokevirtual 89, 3) := by decide +kernel
theorem d19_5 : decode jdk_2655_method_13_code 5 = .ok (.ireturn, 1) := by decide +kernel
theorem pd_19 : parseMethodDescriptor "(Ljava/lang/Object;)Z" = some ⟨[(.object "java/lang/Object")], some .boolean⟩ := by decide +kernel
theorem d27_0 : decode jdk_2655_method_31_code 0 = .ok (.aload_n 1, 1) := by decide +kernel
theorem d27_1 : decode jdk_2655_method_31_code 1 = .ok (.checkcast 144, 3) := by decide +kernel
theorem d27_4 : decode jdk_2655_method_31_code 4 = .ok (.astore 4, 2) := by decide +kernel
theorem d27_6 : decode jdk_2655_method_31_code 6 = .ok (.iload_n 3, 1) := by decide +kernel
theorem d27_7 : decode jdk_2655_method_31_code 7 = .ok (.iconst 1, 1) := by decide +kernel
theorem d27_8 : decode jdk_2655_method_31_code 8 = .ok (.iushr, 1) := by decide +kernel
theorem d27_9 : decode jdk_2655_method_31_code 9 = .ok (.istore 5, 2) := by decide +kernel
theorem d27_11 : decode jdk_2655_method_31_code 11 = .ok (.iload_n 0, 1) := by decide +kernel
theorem d27_12 : decode jdk_2655_method_31_code 12 = .ok (.iload 5, 2) := by decide +kernel
theorem d27_14 : decode jdk_2655_method_31_code 14 = .ok (.if_icmp .ge 80, 3) := by decide +kernel
theorem d27_94 : decode jdk_2655_method_31_code 94 = .ok (.aload_n 2, 1) := by decide +kernel
theorem d27_95 : decode jdk_2655_method_31_code 95 = .ok (.iload_n 0, 1) := by decide +kernel
theorem d27_96 : decode jdk_2655_method_31_code 96 = .ok (.aload 4, 2) := by decide +kernel
theorem d27_98 : decode jdk_2655_method_31_code 98 = .ok (.aastore, 1) := by decide +kernel
theorem d27_99 : decode jdk_2655_method_31_code 99 = .ok (.return_, 1) := by decide +kernel
theorem pd_27 : parseMethodDescriptor "(ILjava/lang/Object;[Ljava/lang/Object;I)V" = some ⟨[.int, (.object "java/lang/Object"), (.array (.object "java/lang/Object")), .int], none⟩ := by decide +kernel
theorem d26_0 : decode jdk_2655_method_25_code 0 = .ok (.aload_n 0, 1) := by decide +kernel
theorem d26_1 : decode jdk_2655_method_25_code 1 = .ok (.getfield 17, 3) := by decide +kernel
theorem d26_4 : decode jdk_2655_method_25_code 4 = .ok (.dup, 1) := by decide +kernel
theorem d26_5 : decode jdk_2655_method_25_code 5 = .ok (.astore_n 1, 1) := by decide +kernel
theorem d26_6 : decode jdk_2655_method_25_code 6 = .ok (.iconst 0, 1) := by decide +kernel
theorem d26_7 : decode jdk_2655_method_25_code 7 = .ok (.aaload, 1) := by decide +kernel
theorem d26_8 : decode jdk_2655_method_25_code 8 = .ok (.dup, 1) := by decide +kernel
theorem d26_9 : decode jdk_2655_method_25_code 9 = .ok (.astore_n 2, 1) := by decide +kernel
theorem d26_10 : decode jdk_2655_method_25_code 10 = .ok (.ifnull 69, 3) := by decide +kernel
theorem d26_13 : decode jdk_2655_method_25_code 13 = .ok (.aload_n 0, 1) := by decide +kernel
theorem d26_14 : decode jdk_2655_method_25_code 14 = .ok (.dup, 1) := by decide +kernel
theorem d26_15 : decode jdk_2655_method_25_code 15 = .ok (.getfield 93, 3) := by decide +kernel
theorem d26_18 : decode jdk_2655_method_25_code 18 = .ok (.iconst 1, 1) := by decide +kernel
theorem d26_19 : decode jdk_2655_method_25_code 19 = .ok (.iadd, 1) := by decide +kernel
theorem d26_20 : decode jdk_2655_method_25_code 20 = .ok (.putfield 93, 3) := by decide +kernel
theorem d26_23 : decode jdk_2655_method_25_code 23 = .ok (.aload_n 1, 1) := by decide +kernel
theorem d26_24 : decode jdk_2655_method_25_code 24 = .ok (.aload_n 0, 1) := by decide +kernel
theorem d26_25 : decode jdk_2655_method_25_code 25 = .ok (.dup, 1) := by decide +kernel
theorem d26_26 : decode jdk_2655_method_25_code 26 = .ok (.getfield 58, 3) := by decide +kernel
theorem d26_29 : decode jdk_2655_method_25_code 29 = .ok (.iconst 1, 1) := by decide +kernel
theorem d26_30 : decode jdk_2655_method_25_code 30 = .ok (.isub, 1) := by decide +kernel
theorem d26_31 : decode jdk_2655_method_25_code 31 = .ok (.dup_x1, 1) := by decide +kernel
theorem d26_32 : decode jdk_2655_method_25_code 32 = .ok (.putfield 58, 3) := by decide +kernel
theorem d26_35 : decode jdk_2655_method_25_code 35 = .ok (.dup, 1) := by decide +kernel
theorem d26_36 : decode jdk_2655_method_25_code 36 = .ok (.istore_n 3, 1) := by decide +kernel
theorem d26_37 : decode jdk_2655_method_25_code 37 = .ok (.aaload, 1) := by decide +kernel
theorem d26_38 : decode jdk_2655_method_25_code 38 = .ok (.astore 4, 2) := by decide +kernel
theorem d26_40 : decode jdk_2655_method_25_code 40 = .ok (.aload_n 1, 1) := by decide +kernel
theorem d26_41 : decode jdk_2655_method_25_code 41 = .ok (.iload_n 3, 1) := by decide +kernel
theorem d26_42 : decode jdk_2655_method_25_code 42 = .ok (.aconst_null, 1) := by decide +kernel
theorem d26_43 : decode jdk_2655_method_25_code 43 = .ok (.aastore, 1) := by decide +kernel
theorem d26_44 : decode jdk_2655_method_25_code 44 = .ok (.iload_n 3, 1) := by decide +kernel
theorem d26_45 : decode jdk_2655_method_25_code 45 = .ok (.ifCond .le 34, 3) := by decide +kernel
theorem d26_48 : decode jdk_2655_method_25_code 48 = .ok (.aload_n 0, 1) := by decide +kernel
theorem d26_49 : decode jdk_2655_method_25_code 49 = .ok (.getfield 21, 3) := by decide +kernel
theorem d26_52 : decode jdk_2655_method_25_code 52 = .ok (.dup, 1) := by decide +kernel
theorem d26_53 : decode jdk_2655_method_25_code 53 = .ok (.astore 5, 2) := by decide +kernel
theorem d26_55 : decode jdk_2655_method_25_code 55 = .ok (.ifnonnull 14, 3) := by decide +kernel
theorem d26_58 : decode jdk_2655_method_25_code 58 = .ok (.iconst 0, 1) := by decide +kernel
theorem d26_59 : decode jdk_2655_method_25_code 59 = .ok (.aload 4, 2) := by decide +kernel
theorem d26_61 : decode jdk_2655_method_25_code 61 = .ok (.aload_n 1, 1) := by decide +kernel
theorem d26_62 : decode jdk_2655_method_25_code 62 = .ok (.iload_n 3, 1) := by decide +kernel
theorem d26_63 : decode jdk_2655_method_25_code 63 = .ok (.invokestatic 125, 3) := by decide +kernel
theorem d26_66 : decode jdk_2655_method_25_code 66 = .ok (.goto 13, 3) := by decide +kernel
theorem d26_79 : decode jdk_2655_method_25_code 79 = .ok (.aload_n 2, 1) := by decide +kernel
theorem d26_80 : decode jdk_2655_method_25_code 80 = .ok (.areturn, 1) := by decide +kernel
theorem pd_26 : parseMethodDescriptor "()Ljava/lang/Object;" = some ⟨[], some (.object "java/lang/Object")⟩ := by decide +kernel
theorem d14_0 : decode jdk_22_method_1_code 0 = .ok (.aload_n 0, 1) := by decide +kernel
theorem d14_1 : decode jdk_22_method_1_code 1 = .ok (.invokespecial 1, 3) := by decide +kernel
theorem d14_4 : decode jdk_22_method_1_code 4 = .ok (.return_, 1) := by decide +kernel
theorem pd_14 : parseMethodDescriptor "()V" = some ⟨[], none⟩ := by decide +kernel
theorem d13_0 : decode jdk_2435_method_1_code 0 = .ok (.aload_n 0, 1) := by decide +kernel
theorem d13_1 : decode jdk_2435_method_1_code 1 = .ok (.invokespecial 1, 3) := by decide +kernel
theorem d13_4 : decode jdk_2435_method_1_code 4 = .ok (.return_, 1) := by decide +kernel
theorem pd_13 : parseMethodDescriptor "()V" = some ⟨[], none⟩ := by decide +kernel
theorem d12_0 : decode jdk_2655_method_4_code 0 = .ok (.aload_n 0, 1) := by decide +kernel
theorem d12_1 : decode jdk_2655_method_4_code 1 = .ok (.invokespecial 7, 3) := by decide +kernel
theorem d12_4 : decode jdk_2655_method_4_code 4 = .ok (.iload_n 1, 1) := by decide +kernel
theorem d12_5 : decode jdk_2655_method_4_code 5 = .ok (.iconst 1, 1) := by decide +kernel
theorem d12_6 : decode jdk_2655_method_4_code 6 = .ok (.if_icmp .ge 11, 3) := by decide +kernel
theorem d12_17 : decode jdk_2655_method_4_code 17 = .ok (.aload_n 0, 1) := by decide +kernel
theorem d12_18 : decode jdk_2655_method_4_code 18 = .ok (.iload_n 1, 1) := by decide +kernel
theorem d12_19 : decode jdk_2655_method_4_code 19 = .ok (.anewarray 15, 3) := by decide +kernel
theorem d12_22 : decode jdk_2655_method_4_code 22 = .ok (.putfield 17, 3) := by decide +kernel
theorem d12_25 : decode jdk_2655_method_4_code 25 = .ok (.aload_n 0, 1) := by decide +kernel
theorem d12_26 : decode jdk_2655_method_4_code 26 = .ok (.aload_n 2, 1) := by decide +kernel
theorem d12_27 : decode jdk_2655_method_4_code 27 = .ok (.putfield 21, 3) := by decide +kernel
theorem d12_30 : decode jdk_2655_method_4_code 30 = .ok (.return_, 1) := by decide +kernel
theorem pd_12 : parseMethodDescriptor "(ILjava/util/Comparator;)V" = some ⟨[.int, (.object "java/util/Comparator")], none⟩ := by decide +kernel
theorem d11_0 : decode jdk_2655_method_1_code 0 = .ok (.aload_n 0, 1) := by decide +kernel
theorem d11_1 : decode jdk_2655_method_1_code 1 = .ok (.bipush 11, 2) := by decide +kernel
theorem d11_3 : decode jdk_2655_method_1_code 3 = .ok (.aconst_null, 1) := by decide +kernel
theorem d11_4 : decode jdk_2655_method_1_code 4 = .ok (.invokespecial 3, 3) := by decide +kernel
theorem d11_7 : decode jdk_2655_method_1_code 7 = .ok (.return_, 1) := by decide +kernel
theorem pd_11 : parseMethodDescriptor "()V" = some ⟨[], none⟩ := by decide +kernel
theorem d10_0 : decode jdk_2529_method_15_code 0 = .ok (.iload_n 1, 1) := by decide +kernel
theorem d10_1 : decode jdk_2529_method_15_code 1 = .ok (.istore 4, 2) := by decide +kernel
theorem d10_3 : decode jdk_2529_method_15_code 3 = .ok (.iinc 4 1, 3) := by decide +kernel
theorem d10_6 : decode jdk_2529_method_15_code 6 = .ok (.iload 4, 2) := by decide +kernel
theorem d10_8 : decode jdk_2529_method_15_code 8 = .ok (.iload_n 2, 1) := by decide +kernel
theorem d10_9 : decode jdk_2529_method_15_code 9 = .ok (.if_icmp .ge 60, 3) := by decide +kernel
theorem d10_69 : decode jdk_2529_method_15_code 69 = .ok (.return_, 1) := by decide +kernel
theorem pd_10 : parseMethodDescriptor "([JII)V" = some ⟨[(.array .long), .int, .int], none⟩ := by decide +kernel
theorem d9_0 : decode jdk_2529_method_13_code 0 = .ok (.iload 4, 2) := by decide +kernel
theorem d9_2 : decode jdk_2529_method_13_code 2 = .ok (.iconst 1, 1) := by decide +kernel
theorem d9_3 : decode jdk_2529_method_13_code 3 = .ok (.isub, 1) := by decide +kernel
theorem d9_4 : decode jdk_2529_method_13_code 4 = .ok (.istore 5, 2) := by decide +kernel
theorem d9_6 : decode jdk_2529_method_13_code 6 = .ok (.iload 4, 2) := by decide +kernel
theorem d9_8 : decode jdk_2529_method_13_code 8 = .ok (.iload_n 3, 1) := by decide +kernel
theorem d9_9 : decode jdk_2529_method_13_code 9 = .ok (.isub, 1) := by decide +kernel
theorem d9_10 : decode jdk_2529_method_13_code 10 = .ok (.istore 6, 2) := by decide +kernel
theorem d9_12 : decode jdk_2529_method_13_code 12 = .ok (.iload 6, 2) := by decide +kernel
theorem d9_14 : decode jdk_2529_method_13_code 14 = .ok (.bipush 65, 2) := by decide +kernel
theorem d9_16 : decode jdk_2529_method_13_code 16 = .ok (.iload_n 2, 1) := by decide +kernel
theorem d9_17 : decode jdk_2529_method_13_code 17 = .ok (.iadd, 1) := by decide +kernel
theorem d9_18 : decode jdk_2529_method_13_code 18 = .ok (.if_icmp .ge 28, 3) := by decide +kernel
theorem d9_21 : decode jdk_2529_method_13_code 21 = .ok (.iload_n 2, 1) := by decide +kernel
theorem d9_22 : decode jdk_2529_method_13_code 22 = .ok (.iconst 1, 1) := by decide +kernel
theorem d9_23 : decode jdk_2529_method_13_code 23 = .ok (.iand, 1) := by decide +kernel
theorem d9_24 : decode jdk_2529_method_13_code 24 = .ok (.ifCond .le 22, 3) := by decide +kernel
theorem d9_46 : decode jdk_2529_method_13_code 46 = .ok (.iload 6, 2) := by decide +kernel
theorem d9_48 : decode jdk_2529_method_13_code 48 = .ok (.bipush 44, 2) := by decide +kernel
theorem d9_50 : decode jdk_2529_method_13_code 50 = .ok (.if_icmp .ge 11, 3) := by decide +kernel
theorem d9_53 : decode jdk_2529_method_13_code 53 = .ok (.aload_n 1, 1) := by decide +kernel
theorem d9_54 : decode jdk_2529_method_13_code 54 = .ok (.iload_n 3, 1) := by decide +kernel
theorem d9_55 : decode jdk_2529_method_13_code 55 = .ok (.iload 4, 2) := by decide +kernel
theorem d9_57 : decode jdk_2529_method_13_code 57 = .ok (.invokestatic 105, 3) := by decide +kernel
theorem d9_60 : decode jdk_2529_method_13_code 60 = .ok (.return_, 1) := by decide +kernel
theorem pd_9 : parseMethodDescriptor "(Ljava/util/DualPivotQuicksort$Sorter;[JIII)V" = some ⟨[(.object "java/util/DualPivotQuicksort$Sorter"), (.array .long), .int, .int, .int], none⟩ := by decide +kernel
theorem d8_0 : decode jdk_2529_method_12_code 0 = .ok (.iload_n 3, 1) := by decide +kernel
theorem d8_1 : decode jdk_2529_method_12_code 1 = .ok (.iload_n 2, 1) := by decide +kernel
theorem d8_2 : decode jdk_2529_method_12_code 2 = .ok (.isub, 1) := by decide +kernel
theorem d8_3 : decode jdk_2529_method_12_code 3 = .ok (.istore 4, 2) := by decide +kernel
theorem d8_5 : decode jdk_2529_method_12_code 5 = .ok (.iload_n 1, 1) := by decide +kernel
theorem d8_6 : decode jdk_2529_method_12_code 6 = .ok (.iconst 1, 1) := by decide +kernel
theorem d8_7 : decode jdk_2529_method_12_code 7 = .ok (.if_icmp .le 61, 3) := by decide +kernel
theorem d8_68 : decode jdk_2529_method_12_code 68 = .ok (.aconst_null, 1) := by decide +kernel
theorem d8_69 : decode jdk_2529_method_12_code 69 = .ok (.aload_n 0, 1) := by decide +kernel
theorem d8_70 : decode jdk_2529_method_12_code 70 = .ok (.iconst 0, 1) := by decide +kernel
theorem d8_71 : decode jdk_2529_method_12_code 71 = .ok (.iload_n 2, 1) := by decide +kernel
theorem d8_72 : decode jdk_2529_method_12_code 72 = .ok (.iload_n 3, 1) := by decide +kernel
theorem d8_73 : decode jdk_2529_method_12_code 73 = .ok (.invokestatic 99, 3) := by decide +kernel
theorem d8_76 : decode jdk_2529_method_12_code 76 = .ok (.return_, 1) := by decide +kernel
theorem pd_8 : parseMethodDescriptor "([JIII)V" = some ⟨[(.array .long), .int, .int, .int], none⟩ := by decide +kernel
theorem d7_0 : decode jdk_65_method_4_code 0 = .ok (.aload_n 0, 1) := by decide +kernel
theorem d7_1 : decode jdk_65_method_4_code 1 = .ok (.iconst 0, 1) := by decide +kernel
theorem d7_2 : decode jdk_65_method_4_code 2 = .ok (.iconst 0, 1) := by decide +kernel
theorem d7_3 : decode jdk_65_method_4_code 3 = .ok (.aload_n 0, 1) := by decide +kernel
theorem d7_4 : decode jdk_65_method_4_code 4 = .ok (.arraylength, 1) := by decide +kernel
theorem d7_5 : decode jdk_65_method_4_code 5 = .ok (.invokestatic 19, 3) := by decide +kernel
theorem d7_8 : decode jdk_65_method_4_code 8 = .ok (.return_, 1) := by decide +kernel
theorem pd_7 : parseMethodDescriptor "([J)V" = some ⟨[(.array .long)], none⟩ := by decide +kernel
theorem d16_0 : decode jdk_29_method_70_code 0 = .ok (.lload_n 0, 1) := by decide +kernel
theorem d16_1 : decode jdk_29_method_70_code 1 = .ok (.lload_n 2, 1) := by decide +kernel
theorem d16_2 : decode jdk_29_method_70_code 2 = .ok (.lcmp, 1) := by decide +kernel
theorem d16_3 : decode jdk_29_method_70_code 3 = .ok (.ifCond .gt 7, 3) := by decide +kernel
theorem d16_10 : decode jdk_29_method_70_code 10 = .ok (.lload_n 2, 1) := by decide +kernel
theorem d16_11 : decode jdk_29_method_70_code 11 = .ok (.lreturn, 1) := by decide +kernel
theorem pd_16 : parseMethodDescriptor "(JJ)J" = some ⟨[.long, .long], some .long⟩ := by decide +kernel
theorem d1_0 : decode prog_35_method_1_code 0 = .ok (.aload_n 0, 1) := by decide +kernel
theorem d1_1 : decode prog_35_method_1_code 1 = .ok (.invokespecial 1, 3) := by decide +kernel
theorem d1_4 : decode prog_35_method_1_code 4 = .ok (.aload_n 0, 1) := by decide +kernel
theorem d1_5 : decode prog_35_method_1_code 5 = .ok (.iload_n 1, 1) := by decide +kernel
theorem d1_6 : decode prog_35_method_1_code 6 = .ok (.putfield 7, 3) := by decide +kernel
theorem d1_9 : decode prog_35_method_1_code 9 = .ok (.aload_n 0, 1) := by decide +kernel
theorem d1_10 : decode prog_35_method_1_code 10 = .ok (.iload_n 1, 1) := by decide +kernel
theorem d1_11 : decode prog_35_method_1_code 11 = .ok (.anewarray 13, 3) := by decide +kernel
theorem d1_14 : decode prog_35_method_1_code 14 = .ok (.putfield 15, 3) := by decide +kernel
theorem d1_17 : decode prog_35_method_1_code 17 = .ok (.aload_n 0, 1) := by decide +kernel
theorem d1_18 : decode prog_35_method_1_code 18 = .ok (.iload_n 1, 1) := by decide +kernel
theorem d1_19 : decode prog_35_method_1_code 19 = .ok (.anewarray 19, 3) := by decide +kernel
theorem d1_22 : decode prog_35_method_1_code 22 = .ok (.putfield 21, 3) := by decide +kernel
theorem d1_25 : decode prog_35_method_1_code 25 = .ok (.aload_n 0, 1) := by decide +kernel
theorem d1_26 : decode prog_35_method_1_code 26 = .ok (.iload_n 1, 1) := by decide +kernel
theorem d1_27 : decode prog_35_method_1_code 27 = .ok (.newarray .int, 2) := by decide +kernel
theorem d1_29 : decode prog_35_method_1_code 29 = .ok (.putfield 25, 3) := by decide +kernel
theorem d1_32 : decode prog_35_method_1_code 32 = .ok (.aload_n 0, 1) := by decide +kernel
theorem d1_33 : decode prog_35_method_1_code 33 = .ok (.iload_n 1, 1) := by decide +kernel
theorem d1_34 : decode prog_35_method_1_code 34 = .ok (.newarray .double, 2) := by decide +kernel
theorem d1_36 : decode prog_35_method_1_code 36 = .ok (.putfield 28, 3) := by decide +kernel
theorem d1_39 : decode prog_35_method_1_code 39 = .ok (.aload_n 0, 1) := by decide +kernel
theorem d1_40 : decode prog_35_method_1_code 40 = .ok (.iload_n 1, 1) := by decide +kernel
theorem d1_41 : decode prog_35_method_1_code 41 = .ok (.newarray .double, 2) := by decide +kernel
theorem d1_43 : decode prog_35_method_1_code 43 = .ok (.putfield 31, 3) := by decide +kernel
theorem d1_46 : decode prog_35_method_1_code 46 = .ok (.aload_n 0, 1) := by decide +kernel
theorem d1_47 : decode prog_35_method_1_code 47 = .ok (.iload_n 1, 1) := by decide +kernel
theorem d1_48 : decode prog_35_method_1_code 48 = .ok (.newarray .double, 2) := by decide +kernel
theorem d1_50 : decode prog_35_method_1_code 50 = .ok (.putfield 34, 3) := by decide +kernel
theorem d1_53 : decode prog_35_method_1_code 53 = .ok (.aload_n 0, 1) := by decide +kernel
theorem d1_54 : decode prog_35_method_1_code 54 = .ok (.iload_n 1, 1) := by decide +kernel
theorem d1_55 : decode prog_35_method_1_code 55 = .ok (.anewarray 13, 3) := by decide +kernel
theorem d1_58 : decode prog_35_method_1_code 58 = .ok (.putfield 37, 3) := by decide +kernel
theorem d1_61 : decode prog_35_method_1_code 61 = .ok (.aload_n 0, 1) := by decide +kernel
theorem d1_62 : decode prog_35_method_1_code 62 = .ok (.iload_n 1, 1) := by decide +kernel
theorem d1_63 : decode prog_35_method_1_code 63 = .ok (.newarray .int, 2) := by decide +kernel
theorem d1_65 : decode prog_35_method_1_code 65 = .ok (.putfield 40, 3) := by decide +kernel
theorem d1_68 : decode prog_35_method_1_code 68 = .ok (.aload_n 0, 1) := by decide +kernel
theorem d1_69 : decode prog_35_method_1_code 69 = .ok (.iload_n 1, 1) := by decide +kernel
theorem d1_70 : decode prog_35_method_1_code 70 = .ok (.newarray .int, 2) := by decide +kernel
theorem d1_72 : decode prog_35_method_1_code 72 = .ok (.putfield 43, 3) := by decide +kernel
theorem d1_75 : decode prog_35_method_1_code 75 = .ok (.iconst 0, 1) := by decide +kernel
theorem d1_76 : decode prog_35_method_1_code 76 = .ok (.istore_n 2, 1) := by decide +kernel
theorem d1_77 : decode prog_35_method_1_code 77 = .ok (.iload_n 2, 1) := by decide +kernel
theorem d1_78 : decode prog_35_method_1_code 78 = .ok (.iload_n 1, 1) := by decide +kernel
theorem d1_79 : decode prog_35_method_1_code 79 = .ok (.if_icmp .ge 36, 3) := by decide +kernel
theorem d1_82 : decode prog_35_method_1_code 82 = .ok (.aload_n 0, 1) := by decide +kernel
theorem d1_83 : decode prog_35_method_1_code 83 = .ok (.getfield 15, 3) := by decide +kernel
theorem d1_86 : decode prog_35_method_1_code 86 = .ok (.iload_n 2, 1) := by decide +kernel
theorem d1_87 : decode prog_35_method_1_code 87 = .ok (.iconst 2, 1) := by decide +kernel
theorem d1_88 : decode prog_35_method_1_code 88 = .ok (.newarray .int, 2) := by decide +kernel
theorem d1_90 : decode prog_35_method_1_code 90 = .ok (.aastore, 1) := by decide +kernel
theorem d1_91 : decode prog_35_method_1_code 91 = .ok (.aload_n 0, 1) := by decide +kernel
theorem d1_92 : decode prog_35_method_1_code 92 = .ok (.getfield 21, 3) := by decide +kernel
theorem d1_95 : decode prog_35_method_1_code 95 = .ok (.iload_n 2, 1) := by decide +kernel
theorem d1_96 : decode prog_35_method_1_code 96 = .ok (.iconst 2, 1) := by decide +kernel
theorem d1_97 : decode prog_35_method_1_code 97 = .ok (.newarray .double, 2) := by decide +kernel
theorem d1_99 : decode prog_35_method_1_code 99 = .ok (.aastore, 1) := by decide +kernel
theorem d1_100 : decode prog_35_method_1_code 100 = .ok (.aload_n 0, 1) := by decide +kernel
theorem d1_101 : decode prog_35_method_1_code 101 = .ok (.getfield 37, 3) := by decide +kernel
theorem d1_104 : decode prog_35_method_1_code 104 = .ok (.iload_n 2, 1) := by decide +kernel
theorem d1_105 : decode prog_35_method_1_code 105 = .ok (.iconst 2, 1) := by decide +kernel
theorem d1_106 : decode prog_35_method_1_code 106 = .ok (.newarray .int, 2) := by decide +kernel
theorem d1_108 : decode prog_35_method_1_code 108 = .ok (.aastore, 1) := by decide +kernel
theorem d1_109 : decode prog_35_method_1_code 109 = .ok (.iinc 2 1, 3) := by decide +kernel
theorem d1_112 : decode prog_35_method_1_code 112 = .ok (.goto (-35), 3) := by decide +kernel
theorem d1_115 : decode prog_35_method_1_code 115 = .ok (.return_, 1) := by decide +kernel
theorem pd_1 : parseMethodDescriptor "(I)V" = some ⟨[.int], none⟩ := by decide +kernel
theorem d3_0 : decode prog_35_method_4_code 0 = .ok (.aload_n 0, 1) := by decide +kernel
theorem d3_1 : decode prog_35_method_4_code 1 = .ok (.getfield 28, 3) := by decide +kernel
theorem d3_4 : decode prog_35_method_4_code 4 = .ok (.iload_n 1, 1) := by decide +kernel
theorem d3_5 : decode prog_35_method_4_code 5 = .ok (.dup2, 1) := by decide +kernel
theorem d3_6 : decode prog_35_method_4_code 6 = .ok (.daload, 1) := by decide +kernel
theorem d3_7 : decode prog_35_method_4_code 7 = .ok (.dload_n 2, 1) := by decide +kernel
theorem d3_8 : decode prog_35_method_4_code 8 = .ok (.dadd, 1) := by decide +kernel
theorem d3_9 : decode prog_35_method_4_code 9 = .ok (.dastore, 1) := by decide +kernel
theorem d3_10 : decode prog_35_method_4_code 10 = .ok (.aload_n 0, 1) := by decide +kernel
theorem d3_11 : decode prog_35_method_4_code 11 = .ok (.getfield 31, 3) := by decide +kernel
theorem d3_14 : decode prog_35_method_4_code 14 = .ok (.iload_n 1, 1) := by decide +kernel
theorem d3_15 : decode prog_35_method_4_code 15 = .ok (.dup2, 1) := by decide +kernel
theorem d3_16 : decode prog_35_method_4_code 16 = .ok (.daload, 1) := by decide +kernel
theorem d3_17 : decode prog_35_method_4_code 17 = .ok (.dload_n 2, 1) := by decide +kernel
theorem d3_18 : decode prog_35_method_4_code 18 = .ok (.dload 4, 2) := by decide +kernel
theorem d3_20 : decode prog_35_method_4_code 20 = .ok (.dmul, 1) := by decide +kernel
theorem d3_21 : decode prog_35_method_4_code 21 = .ok (.dadd, 1) := by decide +kernel
theorem d3_22 : decode prog_35_method_4_code 22 = .ok (.dastore, 1) := by decide +kernel
theorem d3_23 : decode prog_35_method_4_code 23 = .ok (.return_, 1) := by decide +kernel
theorem pd_3 : parseMethodDescriptor "(IDD)V" = some ⟨[.int, .double, .double], none⟩ := by decide +kernel
theorem d4_0 : decode prog_35_method_6_code 0 = .ok (.aload_n 0, 1) := by decide +kernel
theorem d4_1 : decode prog_35_method_6_code 1 = .ok (.getfield 34, 3) := by decide +kernel
theorem d4_4 : decode prog_35_method_6_code 4 = .ok (.iload_n 1, 1) := by decide +kernel
theorem d4_5 : decode prog_35_method_6_code 5 = .ok (.dup2, 1) := by decide +kernel
theorem d4_6 : decode prog_35_method_6_code 6 = .ok (.daload, 1) := by decide +kernel
theorem d4_7 : decode prog_35_method_6_code 7 = .ok (.dload_n 2, 1) := by decide +kernel
theorem d4_8 : decode prog_35_method_6_code 8 = .ok (.dadd, 1) := by decide +kernel
theorem d4_9 : decode prog_35_method_6_code 9 = .ok (.dastore, 1) := by decide +kernel
theorem d4_10 : decode prog_35_method_6_code 10 = .ok (.return_, 1) := by decide +kernel
theorem pd_4 : parseMethodDescriptor "(ID)V" = some ⟨[.int, .double], none⟩ := by decide +kernel
theorem d15_0 : decode prog_35_method_11_code 0 = .ok (.ldc2_w 152, 3) := by decide +kernel
theorem d15_3 : decode prog_35_method_11_code 3 = .ok (.aload_n 0, 1) := by decide +kernel
theorem d15_4 : decode prog_35_method_11_code 4 = .ok (.getfield 25, 3) := by decide +kernel
theorem d15_7 : decode prog_35_method_11_code 7 = .ok (.iload_n 1, 1) := by decide +kernel
theorem d15_8 : decode prog_35_method_11_code 8 = .ok (.iaload, 1) := by decide +kernel
theorem d15_9 : decode prog_35_method_11_code 9 = .ok (.i2l, 1) := by decide +kernel
theorem d15_10 : decode prog_35_method_11_code 10 = .ok (.aload_n 0, 1) := by decide +kernel
theorem d15_11 : decode prog_35_method_11_code 11 = .ok (.getfield 43, 3) := by decide +kernel
theorem d15_14 : decode prog_35_method_11_code 14 = .ok (.iload_n 1, 1) := by decide +kernel
theorem d15_15 : decode prog_35_method_11_code 15 = .ok (.iaload, 1) := by decide +kernel
theorem d15_16 : decode prog_35_method_11_code 16 = .ok (.i2l, 1) := by decide +kernel
theorem d15_17 : decode prog_35_method_11_code 17 = .ok (.lmul, 1) := by decide +kernel
theorem d15_18 : decode prog_35_method_11_code 18 = .ok (.invokestatic 154, 3) := by decide +kernel
theorem d15_21 : decode prog_35_method_11_code 21 = .ok (.l2i, 1) := by decide +kernel
theorem d15_22 : decode prog_35_method_11_code 22 = .ok (.ireturn, 1) := by decide +kernel
theorem pd_15 : parseMethodDescriptor "(I)I" = some ⟨[.int], some .int⟩ := by decide +kernel
theorem d6_0 : decode prog_35_method_13_code 0 = .ok (.aload_n 0, 1) := by decide +kernel
theorem d6_1 : decode prog_35_method_13_code 1 = .ok (.getfield 25, 3) := by decide +kernel
theorem d6_4 : decode prog_35_method_13_code 4 = .ok (.iload_n 1, 1) := by decide +kernel
theorem d6_5 : decode prog_35_method_13_code 5 = .ok (.iaload, 1) := by decide +kernel
theorem d6_6 : decode prog_35_method_13_code 6 = .ok (.newarray .long, 2) := by decide +kernel
theorem d6_8 : decode prog_35_method_13_code 8 = .ok (.astore_n 2, 1) := by decide +kernel
theorem d6_9 : decode prog_35_method_13_code 9 = .ok (.iconst 0, 1) := by decide +kernel
theorem d6_10 : decode prog_35_method_13_code 10 = .ok (.istore_n 3, 1) := by decide +kernel
theorem d6_11 : decode prog_35_method_13_code 11 = .ok (.iload_n 3, 1) := by decide +kernel
theorem d6_12 : decode prog_35_method_13_code 12 = .ok (.aload_n 0, 1) := by decide +kernel
theorem d6_13 : decode prog_35_method_13_code 13 = .ok (.getfield 25, 3) := by decide +kernel
theorem d6_16 : decode prog_35_method_13_code 16 = .ok (.iload_n 1, 1) := by decide +kernel
theorem d6_17 : decode prog_35_method_13_code 17 = .ok (.iaload, 1) := by decide +kernel
theorem d6_18 : decode prog_35_method_13_code 18 = .ok (.if_icmp .ge 27, 3) := by decide +kernel
theorem d6_45 : decode prog_35_method_13_code 45 = .ok (.aload_n 2, 1) := by decide +kernel
theorem d6_46 : decode prog_35_method_13_code 46 = .ok (.invokestatic 160, 3) := by decide +kernel
theorem d6_49 : decode prog_35_method_13_code 49 = .ok (.aload_n 2, 1) := by decide +kernel
theorem d6_50 : decode prog_35_method_13_code 50 = .ok (.arraylength, 1) := by decide +kernel
theorem d6_51 : decode prog_35_method_13_code 51 = .ok (.newarray .int, 2) := by decide +kernel
theorem d6_53 : decode prog_35_method_13_code 53 = .ok (.astore_n 3, 1) := by decide +kernel
theorem d6_54 : decode prog_35_method_13_code 54 = .ok (.aload_n 2, 1) := by decide +kernel
theorem d6_55 : decode prog_35_method_13_code 55 = .ok (.arraylength, 1) := by decide +kernel
theorem d6_56 : decode prog_35_method_13_code 56 = .ok (.newarray .double, 2) := by decide +kernel
theorem d6_58 : decode prog_35_method_13_code 58 = .ok (.astore 4, 2) := by decide +kernel
theorem d6_60 : decode prog_35_method_13_code 60 = .ok (.iconst 0, 1) := by decide +kernel
theorem d6_61 : decode prog_35_method_13_code 61 = .ok (.istore 5, 2) := by decide +kernel
theorem d6_63 : decode prog_35_method_13_code 63 = .ok (.aload_n 2, 1) := by decide +kernel
theorem d6_64 : decode prog_35_method_13_code 64 = .ok (.astore 6, 2) := by decide +kernel
theorem d6_66 : decode prog_35_method_13_code 66 = .ok (.aload 6, 2) := by decide +kernel
theorem d6_68 : decode prog_35_method_13_code 68 = .ok (.arraylength, 1) := by decide +kernel
theorem d6_69 : decode prog_35_method_13_code 69 = .ok (.istore 7, 2) := by decide +kernel
theorem d6_71 : decode prog_35_method_13_code 71 = .ok (.iconst 0, 1) := by decide +kernel
theorem d6_72 : decode prog_35_method_13_code 72 = .ok (.istore 8, 2) := by decide +kernel
theorem d6_74 : decode prog_35_method_13_code 74 = .ok (.iload 8, 2) := by decide +kernel
theorem d6_76 : decode prog_35_method_13_code 76 = .ok (.iload 7, 2) := by decide +kernel
theorem d6_78 : decode prog_35_method_13_code 78 = .ok (.if_icmp .ge 83, 3) := by decide +kernel
theorem d6_161 : decode prog_35_method_13_code 161 = .ok (.aload_n 0, 1) := by decide +kernel
theorem d6_162 : decode prog_35_method_13_code 162 = .ok (.getfield 15, 3) := by decide +kernel
theorem d6_165 : decode prog_35_method_13_code 165 = .ok (.iload_n 1, 1) := by decide +kernel
theorem d6_166 : decode prog_35_method_13_code 166 = .ok (.aload_n 3, 1) := by decide +kernel
theorem d6_167 : decode prog_35_method_13_code 167 = .ok (.aastore, 1) := by decide +kernel
theorem d6_168 : decode prog_35_method_13_code 168 = .ok (.aload_n 0, 1) := by decide +kernel
theorem d6_169 : decode prog_35_method_13_code 169 = .ok (.getfield 21, 3) := by decide +kernel
theorem d6_172 : decode prog_35_method_13_code 172 = .ok (.iload_n 1, 1) := by decide +kernel
theorem d6_173 : decode prog_35_method_13_code 173 = .ok (.aload 4, 2) := by decide +kernel
theorem d6_175 : decode prog_35_method_13_code 175 = .ok (.aastore, 1) := by decide +kernel
theorem d6_176 : decode prog_35_method_13_code 176 = .ok (.aload_n 0, 1) := by decide +kernel
theorem d6_177 : decode prog_35_method_13_code 177 = .ok (.getfield 25, 3) := by decide +kernel
theorem d6_180 : decode prog_35_method_13_code 180 = .ok (.iload_n 1, 1) := by decide +kernel
theorem d6_181 : decode prog_35_method_13_code 181 = .ok (.iload 5, 2) := by decide +kernel
theorem d6_183 : decode prog_35_method_13_code 183 = .ok (.iastore, 1) := by decide +kernel
theorem d6_184 : decode prog_35_method_13_code 184 = .ok (.return_, 1) := by decide +kernel
theorem pd_6 : parseMethodDescriptor "(I)V" = some ⟨[.int], none⟩ := by decide +kernel
theorem d5_0 : decode prog_35_method_7_code 0 = .ok (.iconst 0, 1) := by decide +kernel
theorem d5_1 : decode prog_35_method_7_code 1 = .ok (.istore_n 1, 1) := by decide +kernel
theorem d5_2 : decode prog_35_method_7_code 2 = .ok (.iload_n 1, 1) := by decide +kernel
theorem d5_3 : decode prog_35_method_7_code 3 = .ok (.aload_n 0, 1) := by decide +kernel
theorem d5_4 : decode prog_35_method_7_code 4 = .ok (.getfield 7, 3) := by decide +kernel
theorem d5_7 : decode prog_35_method_7_code 7 = .ok (.if_icmp .ge 45, 3) := by decide +kernel
theorem d5_10 : decode prog_35_method_7_code 10 = .ok (.aload_n 0, 1) := by decide +kernel
theorem d5_11 : decode prog_35_method_7_code 11 = .ok (.iload_n 1, 1) := by decide +kernel
theorem d5_12 : decode prog_35_method_7_code 12 = .ok (.invokevirtual 102, 3) := by decide +kernel
theorem d5_15 : decode prog_35_method_7_code 15 = .ok (.iconst 0, 1) := by decide +kernel
theorem d5_16 : decode prog_35_method_7_code 16 = .ok (.istore_n 2, 1) := by decide +kernel
theorem d5_17 : decode prog_35_method_7_code 17 = .ok (.iload_n 2, 1) := by decide +kernel
theorem d5_18 : decode prog_35_method_7_code 18 = .ok (.aload_n 0, 1) := by decide +kernel
theorem d5_19 : decode prog_35_method_7_code 19 = .ok (.getfield 25, 3) := by decide +kernel
theorem d5_22 : decode prog_35_method_7_code 22 = .ok (.iload_n 1, 1) := by decide +kernel
theorem d5_23 : decode prog_35_method_7_code 23 = .ok (.iaload, 1) := by decide +kernel
theorem d5_24 : decode prog_35_method_7_code 24 = .ok (.if_icmp .ge 22, 3) := by decide +kernel
theorem d5_46 : decode prog_35_method_7_code 46 = .ok (.iinc 1 1, 3) := by decide +kernel
theorem d5_49 : decode prog_35_method_7_code 49 = .ok (.goto (-47), 3) := by decide +kernel
theorem d5_52 : decode prog_35_method_7_code 52 = .ok (.aload_n 0, 1) := by decide +kernel
theorem d5_53 : decode prog_35_method_7_code 53 = .ok (.getfield 7, 3) := by decide +kernel
theorem d5_56 : decode prog_35_method_7_code 56 = .ok (.newarray .int, 2) := by decide +kernel
theorem d5_58 : decode prog_35_method_7_code 58 = .ok (.astore_n 1, 1) := by decide +kernel
theorem d5_59 : decode prog_35_method_7_code 59 = .ok (.new 109, 3) := by decide +kernel
theorem d5_62 : decode prog_35_method_7_code 62 = .ok (.dup, 1) := by decide +kernel
theorem d5_63 : decode prog_35_method_7_code 63 = .ok (.invokespecial 111, 3) := by decide +kernel
theorem d5_66 : decode prog_35_method_7_code 66 = .ok (.astore_n 2, 1) := by decide +kernel
theorem d5_67 : decode prog_35_method_7_code 67 = .ok (.iconst 0, 1) := by decide +kernel
theorem d5_68 : decode prog_35_method_7_code 68 = .ok (.istore_n 3, 1) := by decide +kernel
theorem d5_69 : decode prog_35_method_7_code 69 = .ok (.iload_n 3, 1) := by decide +kernel
theorem d5_70 : decode prog_35_method_7_code 70 = .ok (.aload_n 0, 1) := by decide +kernel
theorem d5_71 : decode prog_35_method_7_code 71 = .ok (.getfield 7, 3) := by decide +kernel
theorem d5_74 : decode prog_35_method_7_code 74 = .ok (.if_icmp .ge 32, 3) := by decide +kernel
theorem d5_77 : decode prog_35_method_7_code 77 = .ok (.aload_n 1, 1) := by decide +kernel
theorem d5_78 : decode prog_35_method_7_code 78 = .ok (.iload_n 3, 1) := by decide +kernel
theorem d5_79 : decode prog_35_method_7_code 79 = .ok (.aload_n 0, 1) := by decide +kernel
theorem d5_80 : decode prog_35_method_7_code 80 = .ok (.iload_n 3, 1) := by decide +kernel
theorem d5_81 : decode prog_35_method_7_code 81 = .ok (.invokevirtual 112, 3) := by decide +kernel
theorem d5_84 : decode prog_35_method_7_code 84 = .ok (.iastore, 1) := by decide +kernel
theorem d5_85 : decode prog_35_method_7_code 85 = .ok (.aload_n 2, 1) := by decide +kernel
theorem d5_86 : decode prog_35_method_7_code 86 = .ok (.aload_n 1, 1) := by decide +kernel
theorem d5_87 : decode prog_35_method_7_code 87 = .ok (.iload_n 3, 1) := by decide +kernel
theorem d5_88 : decode prog_35_method_7_code 88 = .ok (.iaload, 1) := by decide +kernel
theorem d5_89 : decode prog_35_method_7_code 89 = .ok (.iload_n 3, 1) := by decide +kernel
theorem d5_90 : decode prog_35_method_7_code 90 = .ok (.invokestatic 115, 3) := by decide +kernel
theorem d5_93 : decode prog_35_method_7_code 93 = .ok (.invokestatic 119, 3) := by decide +kernel
theorem d5_96 : decode prog_35_method_7_code 96 = .ok (.invokevirtual 125, 3) := by decide +kernel
theorem d5_99 : decode prog_35_method_7_code 99 = .ok (.pop, 1) := by decide +kernel
theorem d5_100 : decode prog_35_method_7_code 100 = .ok (.iinc 3 1, 3) := by decide +kernel
theorem d5_103 : decode prog_35_method_7_code 103 = .ok (.goto (-34), 3) := by decide +kernel
theorem d5_106 : decode prog_35_method_7_code 106 = .ok (.aload_n 0, 1) := by decide +kernel
theorem d5_107 : decode prog_35_method_7_code 107 = .ok (.getfield 7, 3) := by decide +kernel
theorem d5_110 : decode prog_35_method_7_code 110 = .ok (.newarray .boolean, 2) := by decide +kernel
theorem d5_112 : decode prog_35_method_7_code 112 = .ok (.astore_n 3, 1) := by decide +kernel
theorem d5_113 : decode prog_35_method_7_code 113 = .ok (.aload_n 0, 1) := by decide +kernel
theorem d5_114 : decode prog_35_method_7_code 114 = .ok (.getfield 7, 3) := by decide +kernel
theorem d5_117 : decode prog_35_method_7_code 117 = .ok (.newarray .int, 2) := by decide +kernel
theorem d5_119 : decode prog_35_method_7_code 119 = .ok (.astore 4, 2) := by decide +kernel
theorem d5_121 : decode prog_35_method_7_code 121 = .ok (.aload_n 0, 1) := by decide +kernel
theorem d5_122 : decode prog_35_method_7_code 122 = .ok (.getfield 7, 3) := by decide +kernel
theorem d5_125 : decode prog_35_method_7_code 125 = .ok (.newarray .double, 2) := by decide +kernel
theorem d5_127 : decode prog_35_method_7_code 127 = .ok (.astore 5, 2) := by decide +kernel
theorem d5_129 : decode prog_35_method_7_code 129 = .ok (.iconst 0, 1) := by decide +kernel
theorem d5_130 : decode prog_35_method_7_code 130 = .ok (.istore 6, 2) := by decide +kernel
theorem d5_132 : decode prog_35_method_7_code 132 = .ok (.iload 6, 2) := by decide +kernel
theorem d5_134 : decode prog_35_method_7_code 134 = .ok (.aload_n 0, 1) := by decide +kernel
theorem d5_135 : decode prog_35_method_7_code 135 = .ok (.getfield 7, 3) := by decide +kernel
theorem d5_138 : decode prog_35_method_7_code 138 = .ok (.if_icmp .ge 239, 3) := by decide +kernel
theorem d5_141 : decode prog_35_method_7_code 141 = .ok (.aload_n 2, 1) := by decide +kernel
theorem d5_142 : decode prog_35_method_7_code 142 = .ok (.invokevirtual 129, 3) := by decide +kernel
theorem d5_145 : decode prog_35_method_7_code 145 = .ok (.checkcast 120, 3) := by decide +kernel
theorem d5_148 : decode prog_35_method_7_code 148 = .ok (.invokevirtual 133, 3) := by decide +kernel
theorem d5_151 : decode prog_35_method_7_code 151 = .ok (.lstore 8, 2) := by decide +kernel
theorem d5_153 : decode prog_35_method_7_code 153 = .ok (.lload 8, 2) := by decide +kernel
theorem d5_155 : decode prog_35_method_7_code 155 = .ok (.l2i, 1) := by decide +kernel
theorem d5_156 : decode prog_35_method_7_code 156 = .ok (.istore 7, 2) := by decide +kernel
theorem d5_158 : decode prog_35_method_7_code 158 = .ok (.aload_n 3, 1) := by decide +kernel
theorem d5_159 : decode prog_35_method_7_code 159 = .ok (.iload 7, 2) := by decide +kernel
theorem d5_161 : decode prog_35_method_7_code 161 = .ok (.baload, 1) := by decide +kernel
theorem d5_162 : decode prog_35_method_7_code 162 = .ok (.ifCond .ne 16, 3) := by decide +kernel
theorem d5_165 : decode prog_35_method_7_code 165 = .ok (.lload 8, 2) := by decide +kernel
theorem d5_167 : decode prog_35_method_7_code 167 = .ok (.bipush 32, 2) := by decide +kernel
theorem d5_169 : decode prog_35_method_7_code 169 = .ok (.lushr, 1) := by decide +kernel
theorem d5_170 : decode prog_35_method_7_code 170 = .ok (.l2i, 1) := by decide +kernel
theorem d5_171 : decode prog_35_method_7_code 171 = .ok (.aload_n 1, 1) := by decide +kernel
theorem d5_172 : decode prog_35_method_7_code 172 = .ok (.iload 7, 2) := by decide +kernel
theorem d5_174 : decode prog_35_method_7_code 174 = .ok (.iaload, 1) := by decide +kernel
theorem d5_175 : decode prog_35_method_7_code 175 = .ok (.if_icmp .eq 6, 3) := by decide +kernel
theorem d5_181 : decode prog_35_method_7_code 181 = .ok (.iload 7, 2) := by decide +kernel
theorem d5_183 : decode prog_35_method_7_code 183 = .ok (.ifCond .lt (-42), 3) := by decide +kernel
theorem d5_186 : decode prog_35_method_7_code 186 = .ok (.aload_n 3, 1) := by decide +kernel
theorem d5_187 : decode prog_35_method_7_code 187 = .ok (.iload 7, 2) := by decide +kernel
theorem d5_189 : decode prog_35_method_7_code 189 = .ok (.iconst 1, 1) := by decide +kernel
theorem d5_190 : decode prog_35_method_7_code 190 = .ok (.bastore, 1) := by decide +kernel
theorem d5_191 : decode prog_35_method_7_code 191 = .ok (.aload 4, 2) := by decide +kernel
theorem d5_193 : decode prog_35_method_7_code 193 = .ok (.iload 6, 2) := by decide +kernel
theorem d5_195 : decode prog_35_method_7_code 195 = .ok (.iload 7, 2) := by decide +kernel
theorem d5_197 : decode prog_35_method_7_code 197 = .ok (.iastore, 1) := by decide +kernel
theorem d5_198 : decode prog_35_method_7_code 198 = .ok (.aload 5, 2) := by decide +kernel
theorem d5_200 : decode prog_35_method_7_code 200 = .ok (.iload 7, 2) := by decide +kernel
theorem d5_202 : decode prog_35_method_7_code 202 = .ok (.aload_n 0, 1) := by decide +kernel
theorem d5_203 : decode prog_35_method_7_code 203 = .ok (.getfield 28, 3) := by decide +kernel
theorem d5_206 : decode prog_35_method_7_code 206 = .ok (.iload 7, 2) := by decide +kernel
theorem d5_208 : decode prog_35_method_7_code 208 = .ok (.daload, 1) := by decide +kernel
theorem d5_209 : decode prog_35_method_7_code 209 = .ok (.dastore, 1) := by decide +kernel
theorem d5_210 : decode prog_35_method_7_code 210 = .ok (.iconst 0, 1) := by decide +kernel
theorem d5_211 : decode prog_35_method_7_code 211 = .ok (.istore 8, 2) := by decide +kernel
theorem d5_213 : decode prog_35_method_7_code 213 = .ok (.iload 8, 2) := by decide +kernel
theorem d5_215 : decode prog_35_method_7_code 215 = .ok (.aload_n 0, 1) := by decide +kernel
theorem d5_216 : decode prog_35_method_7_code 216 = .ok (.getfield 25, 3) := by decide +kernel
theorem d5_219 : decode prog_35_method_7_code 219 = .ok (.iload 7, 2) := by decide +kernel
theorem d5_221 : decode prog_35_method_7_code 221 = .ok (.iaload, 1) := by decide +kernel
theorem d5_222 : decode prog_35_method_7_code 222 = .ok (.if_icmp .ge 27, 3) := by decide +kernel
theorem d5_249 : decode prog_35_method_7_code 249 = .ok (.aload 5, 2) := by decide +kernel
theorem d5_251 : decode prog_35_method_7_code 251 = .ok (.iload 7, 2) := by decide +kernel
theorem d5_253 : decode prog_35_method_7_code 253 = .ok (.dup2, 1) := by decide +kernel
theorem d5_254 : decode prog_35_method_7_code 254 = .ok (.daload, 1) := by decide +kernel
theorem d5_255 : decode prog_35_method_7_code 255 = .ok (.aload_n 0, 1) := by decide +kernel
theorem d5_256 : decode prog_35_method_7_code 256 = .ok (.getfield 34, 3) := by decide +kernel
theorem d5_259 : decode prog_35_method_7_code 259 = .ok (.iload 7, 2) := by decide +kernel
theorem d5_261 : decode prog_35_method_7_code 261 = .ok (.daload, 1) := by decide +kernel
theorem d5_262 : decode prog_35_method_7_code 262 = .ok (.dsub, 1) := by decide +kernel
theorem d5_263 : decode prog_35_method_7_code 263 = .ok (.dastore, 1) := by decide +kernel
theorem d5_264 : decode prog_35_method_7_code 264 = .ok (.iconst 0, 1) := by decide +kernel
theorem d5_265 : decode prog_35_method_7_code 265 = .ok (.istore 8, 2) := by decide +kernel
theorem d5_267 : decode prog_35_method_7_code 267 = .ok (.iload 8, 2) := by decide +kernel
theorem d5_269 : decode prog_35_method_7_code 269 = .ok (.aload_n 0, 1) := by decide +kernel
theorem d5_270 : decode prog_35_method_7_code 270 = .ok (.getfield 40, 3) := by decide +kernel
theorem d5_273 : decode prog_35_method_7_code 273 = .ok (.iload 7, 2) := by decide +kernel
theorem d5_275 : decode prog_35_method_7_code 275 = .ok (.iaload, 1) := by decide +kernel
theorem d5_276 : decode prog_35_method_7_code 276 = .ok (.if_icmp .ge 43, 3) := by decide +kernel
theorem d5_319 : decode prog_35_method_7_code 319 = .ok (.iconst 0, 1) := by decide +kernel
theorem d5_320 : decode prog_35_method_7_code 320 = .ok (.istore 8, 2) := by decide +kernel
theorem d5_322 : decode prog_35_method_7_code 322 = .ok (.iload 8, 2) := by decide +kernel
theorem d5_324 : decode prog_35_method_7_code 324 = .ok (.aload_n 0, 1) := by decide +kernel
theorem d5_325 : decode prog_35_method_7_code 325 = .ok (.getfield 25, 3) := by decide +kernel
theorem d5_328 : decode prog_35_method_7_code 328 = .ok (.iload 7, 2) := by decide +kernel
theorem d5_330 : decode prog_35_method_7_code 330 = .ok (.iaload, 1) := by decide +kernel
theorem d5_331 : decode prog_35_method_7_code 331 = .ok (.if_icmp .ge 40, 3) := by decide +kernel
theorem d5_371 : decode prog_35_method_7_code 371 = .ok (.iinc 6 1, 3) := by decide +kernel
theorem d5_374 : decode prog_35_method_7_code 374 = .ok (.goto (-242), 3) := by decide +kernel
theorem d5_377 : decode prog_35_method_7_code 377 = .ok (.aload_n 0, 1) := by decide +kernel
theorem d5_378 : decode prog_35_method_7_code 378 = .ok (.getfield 7, 3) := by decide +kernel
theorem d5_381 : decode prog_35_method_7_code 381 = .ok (.newarray .double, 2) := by decide +kernel
theorem d5_383 : decode prog_35_method_7_code 383 = .ok (.astore 6, 2) := by decide +kernel
theorem d5_385 : decode prog_35_method_7_code 385 = .ok (.aload_n 0, 1) := by decide +kernel
theorem d5_386 : decode prog_35_method_7_code 386 = .ok (.getfield 7, 3) := by decide +kernel
theorem d5_389 : decode prog_35_method_7_code 389 = .ok (.iconst 1, 1) := by decide +kernel
theorem d5_390 : decode prog_35_method_7_code 390 = .ok (.isub, 1) := by decide +kernel
theorem d5_391 : decode prog_35_method_7_code 391 = .ok (.istore 7, 2) := by decide +kernel
theorem d5_393 : decode prog_35_method_7_code 393 = .ok (.iload 7, 2) := by decide +kernel
theorem d5_395 : decode prog_35_method_7_code 395 = .ok (.ifCond .lt 88, 3) := by decide +kernel
theorem d5_398 : decode prog_35_method_7_code 398 = .ok (.aload 4, 2) := by decide +kernel
theorem d5_400 : decode prog_35_method_7_code 400 = .ok (.iload 7, 2) := by decide +kernel
theorem d5_402 : decode prog_35_method_7_code 402 = .ok (.iaload, 1) := by decide +kernel
theorem d5_403 : decode prog_35_method_7_code 403 = .ok (.istore 8, 2) := by decide +kernel
theorem d5_405 : decode prog_35_method_7_code 405 = .ok (.aload_n 0, 1) := by decide +kernel
theorem d5_406 : decode prog_35_method_7_code 406 = .ok (.getfield 31, 3) := by decide +kernel
theorem d5_409 : decode prog_35_method_7_code 409 = .ok (.iload 8, 2) := by decide +kernel
theorem d5_411 : decode prog_35_method_7_code 411 = .ok (.daload, 1) := by decide +kernel
theorem d5_412 : decode prog_35_method_7_code 412 = .ok (.dstore 9, 2) := by decide +kernel
theorem d5_414 : decode prog_35_method_7_code 414 = .ok (.iconst 0, 1) := by decide +kernel
theorem d5_415 : decode prog_35_method_7_code 415 = .ok (.istore 11, 2) := by decide +kernel
theorem d5_417 : decode prog_35_method_7_code 417 = .ok (.iload 11, 2) := by decide +kernel
theorem d5_419 : decode prog_35_method_7_code 419 = .ok (.aload_n 0, 1) := by decide +kernel
theorem d5_420 : decode prog_35_method_7_code 420 = .ok (.getfield 25, 3) := by decide +kernel
theorem d5_423 : decode prog_35_method_7_code 423 = .ok (.iload 8, 2) := by decide +kernel
theorem d5_425 : decode prog_35_method_7_code 425 = .ok (.iaload, 1) := by decide +kernel
theorem d5_426 : decode prog_35_method_7_code 426 = .ok (.if_icmp .ge 38, 3) := by decide +kernel
theorem d5_464 : decode prog_35_method_7_code 464 = .ok (.aload 6, 2) := by decide +kernel
theorem d5_466 : decode prog_35_method_7_code 466 = .ok (.iload 8, 2) := by decide +kernel
theorem d5_468 : decode prog_35_method_7_code 468 = .ok (.dload 9, 2) := by decide +kernel
theorem d5_470 : decode prog_35_method_7_code 470 = .ok (.aload 5, 2) := by decide +kernel
theorem d5_472 : decode prog_35_method_7_code 472 = .ok (.iload 8, 2) := by decide +kernel
theorem d5_474 : decode prog_35_method_7_code 474 = .ok (.daload, 1) := by decide +kernel
theorem d5_475 : decode prog_35_method_7_code 475 = .ok (.ddiv, 1) := by decide +kernel
theorem d5_476 : decode prog_35_method_7_code 476 = .ok (.dastore, 1) := by decide +kernel
theorem d5_477 : decode prog_35_method_7_code 477 = .ok (.iinc 7 (-1), 3) := by decide +kernel
theorem d5_480 : decode prog_35_method_7_code 480 = .ok (.goto (-87), 3) := by decide +kernel
theorem d5_483 : decode prog_35_method_7_code 483 = .ok (.aload 6, 2) := by decide +kernel
theorem d5_485 : decode prog_35_method_7_code 485 = .ok (.areturn, 1) := by decide +kernel
theorem pd_5 : parseMethodDescriptor "()[D" = some ⟨[], some (.array .double)⟩ := by decide +kernel
/-- the solver at o with its arrays -/
def Sol (Z : State) (h : Heap) (o ca va la lv ex su rc cc : Addr) (xl yl zl : List Value) : Prop :=
  Exa Z h o "com/example/hold/hold/check/ComponentSolver" ∧ Fld Z h o "com/example/hold/hold/check/ComponentSolver" "size" "I" (.int (2 : Int32)) ∧ Fld Z h o "com/example/hold/hold/check/ComponentSolver" "columns" "[[I" (.ref ca) ∧ Fld Z h o "com/example/hold/hold/check/ComponentSolver" "values" "[[D" (.ref va) ∧ Fld Z h o "com/example/hold/hold/check/ComponentSolver" "length" "[I" (.ref la) ∧ Fld Z h o "com/example/hold/hold/check/ComponentSolver" "leaving" "[D" (.ref lv) ∧ Fld Z h o "com/example/hold/hold/check/ComponentSolver" "exits" "[D" (.ref ex) ∧ Fld Z h o "com/example/hold/hold/check/ComponentSolver" "surplus" "[D" (.ref su) ∧ Fld Z h o "com/example/hold/hold/check/ComponentSolver" "rowsUsingCount" "[I" (.ref rc) ∧ Fld Z h o "com/example/hold/hold/check/ComponentSolver" "columnCount" "[I" (.ref cc) ∧ (∃ l : List Value, l.length = 2 ∧ Ar Z h ca (.array .int) l) ∧ Ovc Z h ca "[I" ∧ (∃ l : List Value, l.length = 2 ∧ Ar Z h va (.array .double) l) ∧ Ovc Z h va "[D" ∧ Ar Z h la .int [(.int (0 : Int32)), (.int (0 : Int32))] ∧ Ar Z h lv .double xl ∧ Ar Z h ex .double yl ∧ Ar Z h su .double zl ∧ Ar Z h rc .int [(.int (0 : Int32)), (.int (0 : Int32))] ∧ Ar Z h cc .int [(.int (0 : Int32)), (.int (0 : Int32))]
/-- where they lie -/
def Chn (n0 o ca va la lv ex su rc cc : Nat) : Prop := n0 ≤ o ∧ o < ca ∧ ca < va ∧ va < la ∧ la < lv ∧ lv < ex ∧ ex < su ∧ su < rc ∧ rc < cc
theorem own_len256 {Z : State} {args : Array Value} {t : Term} {a : Addr} {ty : FieldType} {cl : Cell} (et : t.eval args Z none [] Z = some (.ref a)) (A : Arr Z Z.heap a cl ty) (h : (Jvm.Cond.eq (.length t) (.int (256 : Int32))).value args Z none Z [] = some true) : cl.slots.size < 2 ^ 31 ∧ cl.slots.size.toInt32 = (256 : Int32) := by
  have hlen := own_eqI h (Term.int_eval (256 : Int32))
  have ha := A.fin (Vm.Alike.refl _)
  have q := Jvm.Free.SBG.length_lt et ha hlen
  exact ⟨q, Value.int.inj (Option.some.inj ((len_f et ha q).symm.trans hlen))⟩
theorem own_idx128 {Z : State} {args : Array Value} {j : Int32} (hj : ¬ j < 0) : (Term.sub (.index 0) (.int (128 : Int32))).eval args Z none [j.toNatClampNeg] Z = some (.int (j - 128)) := Term.sub_int (idx_at hj) (Term.int_eval (128 : Int32))
theorem ef_rmCmp (m : MethodId)  : entryFrame m #[(.long (1 : Int64)), (.long (0 : Int64))] 4 = mkF m 0 #[.val (.long (1 : Int64)), .second, .val (.long (0 : Int64)), .second] [] := by first | (simp [entryFrame, mkF, argsToLocals, Value.category]; done) | rfl
set_option maxRecDepth 65536 in
set_option maxHeartbeats 40000000 in
theorem rmCmp (l : Launch) (Z : State) (a0 : Array Value) (hw : ∀ d ∈ tables_1, d.before a0 Z = true)  (h0 : Heap) (n0 : Nat) (Z0 : n0 ≤ h0.size)  :
    Con l Z (⟨"java/lang/Long", "compare", "(JJ)I"⟩ : MethodName) jdk_35_method_42_code 4 (some .int) [] ({ frames := 0, cells := 0, slots := 0, locals := 0 } : Room) 0 0 #[(.long (1 : Int64)), (.long (0 : Int64))] h0 (fun v h L => v = some (.int (1 : Int32)) ∧ h = h0 ∧ L = []) := by
  refine Con.body (plainFor_of_name (by first | (simp [plainName, overriddenIn]; done) | decide +kernel)) ?_
  intro p e s m below meth c T0 hx hby hml hown hnm hZ hret hlk X0 e0
  refine Goes.cast (ef_rmCmp m ) ?_
  have N0 := Fr.nil n0
  show Goes p.tables e below (T0.setTop (mkF m 0 #[.val (.long (1 : Int64)), .second, .val (.long (0 : Int64)), .second] [])) _
  refine g_lloadN X0 hx (hb hby d25_0) rfl ?_
  refine g_lloadN X0 hx (hb hby d25_1) rfl ?_
  refine g_lcmp X0 hx (hb hby d25_2) ?_
  refine g_lif_ge X0 hx (hb hby d25_3) (by decide) (pc' := 10) (by decide) (fun _ => ?_) (fun q => absurd q (by decide))
  show Goes p.tables e below (T0.setTop (mkF m 10 #[.val (.long (1 : Int64)), .second, .val (.long (0 : Int64)), .second] [])) _
  refine g_lloadN X0 hx (hb hby d25_10) rfl ?_
  refine g_lloadN X0 hx (hb hby d25_11) rfl ?_
  refine g_lcmp X0 hx (hb hby d25_12) ?_
  refine g_lif_ne X0 hx (hb hby d25_13) (by decide) (pc' := 20) (by decide) (fun _ => ?_) (fun q => absurd q (by decide))
  show Goes p.tables e below (T0.setTop (mkF m 20 #[.val (.long (1 : Int64)), .second, .val (.long (0 : Int64)), .second] [])) _
  refine g_iconst X0 hx (1 : Int32) (hb hby d25_20) rfl ?_
  exact g_retI X0 hx hret hlk (hb hby d25_21) (by decide) (by decide) ⟨rfl, e0, rfl⟩
theorem ef_rmCT (m : MethodId) (p0 : Addr) (p1 : Addr) : entryFrame m #[(.ref p0), (.ref p1)] 2 = mkF m 0 #[.val (.ref p0), .val (.ref p1)] [] := by first | (simp [entryFrame, mkF, argsToLocals, Value.category]; done) | rfl
set_option maxRecDepth 65536 in
set_option maxHeartbeats 40000000 in
theorem rmCT (l : Launch) (Z : State) (a0 : Array Value) (hw : ∀ d ∈ tables_1, d.before a0 Z = true) (p0 : Addr) (p1 : Addr) (h0 : Heap) (n0 : Nat) (Z0 : n0 ≤ h0.size) (fx : Fld Z h0 p0 "java/lang/Long" "value" "J" (.long (1 : Int64))) (fy : Fld Z h0 p1 "java/lang/Long" "value" "J" (.long (0 : Int64))) :
    Con l Z (⟨"java/lang/Long", "compareTo", "(Ljava/lang/Long;)I"⟩ : MethodName) jdk_35_method_41_code 2 (some .int) [] ({ frames := 1, cells := 0, slots := 0, locals := 15 } : Room) 0 0 #[(.ref p0), (.ref p1)] h0 (fun v h L => v = some (.int (1 : Int32)) ∧ h = h0 ∧ L = []) := by
  refine Con.body (plainFor_of_name (by first | (simp [plainName, overriddenIn]; done) | decide +kernel)) ?_
  intro p e s m below meth c T0 hx hby hml hown hnm hZ hret hlk X0 e0
  refine Goes.cast (ef_rmCT m p0 p1) ?_
  have N0 := Fr.nil n0
  show Goes p.tables e below (T0.setTop (mkF m 0 #[.val (.ref p0), .val (.ref p1)] [])) _
  refine g_aloadN X0 hx (hb hby d24_0) rfl rfl ?_
  refine g_getF X0 hx hZ hown e0 (host := "") (Or.inl (hw _ (List.mem_of_getElem? (i := 160) rfl))) Via.refl fx (hb hby d24_1) (fun T1 X1 e1 => ?_)
  show Goes p.tables e below (T1.setTop (mkF m 4 #[.val (.ref p0), .val (.ref p1)] [(.long (1 : Int64))])) _
  refine g_aloadN X1 hx (hb hby d24_4) rfl rfl ?_
  refine g_getF X1 hx hZ hown e1 (host := "") (Or.inl (hw _ (List.mem_of_getElem? (i := 160) rfl))) Via.refl fy (hb hby d24_5) (fun T2 X2 e2 => ?_)
  show Goes p.tables e below (T2.setTop (mkF m 8 #[.val (.ref p0), .val (.ref p1)] [(.long (0 : Int64)), (.long (1 : Int64))])) _
  refine g_callS X2 hx hZ hown (by rw [hml]; rfl) e2 (hw _ (List.mem_of_getElem? (i := 162) rfl)) (hw _ (List.mem_of_getElem? (i := 163) rfl)) (hw _ (List.mem_of_getElem? (i := 114) rfl)) (hw _ (List.mem_of_getElem? (i := 164) rfl)) (rmCmp l Z a0 hw h0 n0 Z0) [(.long (1 : Int64)), (.long (0 : Int64))] rfl [] rfl (lenOf pd_25 rfl) (hb hby d24_8) (by decide) 0 (by decide) (by decide) (by first | decide | exact Nat.le_refl _) (by decide) (by decide) (fun v T3 L3 X3 hQ3 => ?_)
  obtain ⟨rfl, e3, rfl⟩ := hQ3
  have N4 := Fr.app N0 (Fr.nil n0)
  show Goes p.tables e below (T3.setTop (mkF m 11 #[.val (.ref p0), .val (.ref p1)] [(.int (1 : Int32))])) _
  exact g_retI X3 hx hret hlk (hb hby d24_11) (by decide) (by decide) ⟨rfl, e3, rfl⟩
theorem ef_rmCO (m : MethodId) (p0 : Addr) (p1 : Addr) : entryFrame m #[(.ref p0), (.ref p1)] 2 = mkF m 0 #[.val (.ref p0), .val (.ref p1)] [] := by first | (simp [entryFrame, mkF, argsToLocals, Value.category]; done) | rfl
set_option maxRecDepth 65536 in
set_option maxHeartbeats 40000000 in
theorem rmCO (l : Launch) (Z : State) (a0 : Array Value) (hw : ∀ d ∈ tables_1, d.before a0 Z = true) (p0 : Addr) (p1 : Addr) (h0 : Heap) (n0 : Nat) (Z0 : n0 ≤ h0.size) (fx : Fld Z h0 p0 "java/lang/Long" "value" "J" (.long (1 : Int64))) (fy : Fld Z h0 p1 "java/lang/Long" "value" "J" (.long (0 : Int64))) (E0 : Exa Z h0 p0 "java/lang/Long") (E1 : Exa Z h0 p1 "java/lang/Long") :
    Con l Z (⟨"java/lang/Long", "compareTo", "(Ljava/lang/Object;)I"⟩ : MethodName) jdk_35_method_64_code 2 (some .int) [] ({ frames := 2, cells := 0, slots := 0, locals := 28 } : Room) 0 0 #[(.ref p0), (.ref p1)] h0 (fun v h L => v = some (.int (1 : Int32)) ∧ h = h0 ∧ L = []) := by
  refine Con.body (plainFor_of_name (by first | (simp [plainName, overriddenIn]; done) | decide +kernel)) ?_
  intro p e s m below meth c T0 hx hby hml hown hnm hZ hret hlk X0 e0
  refine Goes.cast (ef_rmCO m p0 p1) ?_
  have N0 := Fr.nil n0
  show Goes p.tables e below (T0.setTop (mkF m 0 #[.val (.ref p0), .val (.ref p1)] [])) _
  refine g_aloadN X0 hx (hb hby d23_0) rfl rfl ?_
  refine g_aloadN X0 hx (hb hby d23_1) rfl rfl ?_
  refine g_cast X0 hx hZ hown e0 (hw _ (List.mem_of_getElem? (i := 153) rfl)) (Ins.self E1) (hb hby d23_2) (fun T1 X1 e1 => ?_)
  show Goes p.tables e below (T1.setTop (mkF m 5 #[.val (.ref p0), .val (.ref p1)] [(.ref p1), (.ref p0)])) _
  refine g_callV X1 hx hZ hown (by rw [hml]; rfl) e1 (K := "java/lang/Long") (hw _ (List.mem_of_getElem? (i := 155) rfl)) (hw _ (List.mem_of_getElem? (i := 156) rfl)) (hw _ (List.mem_of_getElem? (i := 158) rfl)) (hw _ (List.mem_of_getElem? (i := 157) rfl)) (hw _ (List.mem_of_getElem? (i := 114) rfl)) (hw _ (List.mem_of_getElem? (i := 159) rfl)) E0 (rmCT l Z a0 hw p0 p1 h0 n0 Z0 fx fy) [(.ref p1)] rfl [] rfl (lenOf pd_24 rfl) (hb hby d23_5) (by decide) 0 (by decide) (by decide) (by first | decide | exact Nat.le_refl _) (by decide) (by decide) (fun v T2 L2 X2 hQ2 => ?_)
  obtain ⟨rfl, e2, rfl⟩ := hQ2
  have N3 := Fr.app N0 (Fr.nil n0)
  show Goes p.tables e below (T2.setTop (mkF m 8 #[.val (.ref p0), .val (.ref p1)] [(.int (1 : Int32))])) _
  exact g_retI X2 hx hret hlk (hb hby d23_8) (by decide) (by decide) ⟨rfl, e2, rfl⟩
theorem ef_rmLV0 (m : MethodId) (p0 : Addr) : entryFrame m #[(.ref p0)] 1 = mkF m 0 #[.val (.ref p0)] [] := by first | (simp [entryFrame, mkF, argsToLocals, Value.category]; done) | rfl
set_option maxRecDepth 65536 in
set_option maxHeartbeats 40000000 in
theorem rmLV0 (l : Launch) (Z : State) (a0 : Array Value) (hw : ∀ d ∈ tables_1, d.before a0 Z = true) (p0 : Addr) (h0 : Heap) (n0 : Nat) (Z0 : n0 ≤ h0.size) (fx : Fld Z h0 p0 "java/lang/Long" "value" "J" (.long (0 : Int64))) :
    Con l Z (⟨"java/lang/Long", "longValue", "()J"⟩ : MethodName) jdk_35_method_31_code 1 (some .long) [] ({ frames := 0, cells := 0, slots := 0, locals := 0 } : Room) 0 0 #[(.ref p0)] h0 (fun v h L => v = some (.long (0 : Int64)) ∧ h = h0 ∧ L = []) := by
  refine Con.body (plainFor_of_name (by first | (simp [plainName, overriddenIn]; done) | decide +kernel)) ?_
  intro p e s m below meth c T0 hx hby hml hown hnm hZ hret hlk X0 e0
  refine Goes.cast (ef_rmLV0 m p0) ?_
  have N0 := Fr.nil n0
  show Goes p.tables e below (T0.setTop (mkF m 0 #[.val (.ref p0)] [])) _
  refine g_aloadN X0 hx (hb hby d28_0) rfl rfl ?_
  refine g_getF X0 hx hZ hown e0 (host := "") (Or.inl (hw _ (List.mem_of_getElem? (i := 160) rfl))) Via.refl fx (hb hby d28_1) (fun T1 X1 e1 => ?_)
  show Goes p.tables e below (T1.setTop (mkF m 4 #[.val (.ref p0)] [(.long (0 : Int64))])) _
  exact g_retL X1 hx hret hlk (hb hby d28_4) (by decide) (by decide) ⟨rfl, e1, rfl⟩
theorem ef_rmVO0 (m : MethodId)  : entryFrame m #[(.long (0 : Int64))] 3 = mkF m 0 #[.val (.long (0 : Int64)), .second, .unset] [] := by first | (simp [entryFrame, mkF, argsToLocals, Value.category]; done) | rfl
set_option maxRecDepth 65536 in
set_option maxHeartbeats 40000000 in
theorem rmVO0 (l : Launch) (Z : State) (a0 : Array Value) (hw : ∀ d ∈ tables_1, d.before a0 Z = true)  (h0 : Heap) (n0 : Nat) (Z0 : n0 ≤ h0.size) (lc x : Addr) (cl : List Value) (SL : Sta Z h0 "java/lang/Long$LongCache" "cache" "[Ljava/lang/Long;" (.ref lc)) (Al : Ar Z h0 lc (.object "java/lang/Long") cl) (hc : cl[128]? = some (.ref x)) :
    Con l Z (⟨"java/lang/Long", "valueOf", "(J)Ljava/lang/Long;"⟩ : MethodName) jdk_35_method_24_code 3 (some (.object "java/lang/Long")) [] ({ frames := 0, cells := 0, slots := 0, locals := 0 } : Room) 0 0 #[(.long (0 : Int64))] h0 (fun v h L => v = some (.ref x) ∧ h = h0 ∧ L = []) := by
  refine Con.body (plainFor_of_name (by first | (simp [plainName, overriddenIn]; done) | decide +kernel)) ?_
  intro p e s m below meth c T0 hx hby hml hown hnm hZ hret hlk X0 e0
  refine Goes.cast (ef_rmVO0 m ) ?_
  have N0 := Fr.nil n0
  show Goes p.tables e below (T0.setTop (mkF m 0 #[.val (.long (0 : Int64)), .second, .unset] [])) _
  refine g_sipush X0 hx (128 : Int32) (hb hby d18_0) (by decide) ?_
  refine g_istoreN X0 hx (hb hby d18_3) (l' := #[.val (.long (0 : Int64)), .second, .val (.int (128 : Int32))]) rfl ?_
  refine g_lloadN X0 hx (hb hby d18_4) rfl ?_
  refine g_ldc2 X0 hx hZ hown (hw _ (List.mem_of_getElem? (i := 116) rfl)) (hb hby d18_5) ?_
  refine g_lcmp X0 hx (hb hby d18_8) ?_
  refine g_lif_lt X0 hx (hb hby d18_9) (by decide) (pc' := 31) (by decide) (fun q => absurd q (by decide)) (fun _ => ?_)
  show Goes p.tables e below (T0.setTop (mkF m 12 #[.val (.long (0 : Int64)), .second, .val (.int (128 : Int32))] [])) _
  refine g_lloadN X0 hx (hb hby d18_12) rfl ?_
  refine g_ldc2 X0 hx hZ hown (hw _ (List.mem_of_getElem? (i := 117) rfl)) (hb hby d18_13) ?_
  refine g_lcmp X0 hx (hb hby d18_16) ?_
  refine g_lif_gt X0 hx (hb hby d18_17) (by decide) (pc' := 31) (by decide) (fun q => absurd q (by decide)) (fun _ => ?_)
  show Goes p.tables e below (T0.setTop (mkF m 20 #[.val (.long (0 : Int64)), .second, .val (.int (128 : Int32))] [])) _
  refine g_getS X0 hx hZ hown e0 (host := "") (Or.inl (hw _ (List.mem_of_getElem? (i := 118) rfl))) SL (hb hby d18_20) (fun T1 X1 e1 => ?_)
  show Goes p.tables e below (T1.setTop (mkF m 23 #[.val (.long (0 : Int64)), .second, .val (.int (128 : Int32))] [(.ref lc)])) _
  refine g_lloadN X1 hx (hb hby d18_23) rfl ?_
  refine g_l2i X1 hx (hb hby d18_24) ?_
  refine g_nameI (v := (0 : Int32)) (by decide) ?_
  refine g_sipush X1 hx (128 : Int32) (hb hby d18_25) (by decide) ?_
  refine g_iadd X1 hx (hb hby d18_28) ?_
  refine g_nameI (v := (128 : Int32)) (by decide) ?_
  refine g_aaload X1 hx hZ e1 Al rfl (i := 128) (v := (.ref x)) (by decide) hc (hb hby d18_29) ?_
  show Goes p.tables e below (T1.setTop (mkF m 30 #[.val (.long (0 : Int64)), .second, .val (.int (128 : Int32))] [(.ref x)])) _
  exact g_retA X1 hx hret hlk rfl rfl (hb hby d18_30) (by decide) (by decide) ⟨rfl, e1, rfl⟩
theorem ef_rmEn0 (m : MethodId)  : entryFrame m #[(.int (0 : Int32)), (.int (0 : Int32))] 2 = mkF m 0 #[.val (.int (0 : Int32)), .val (.int (0 : Int32))] [] := by first | (simp [entryFrame, mkF, argsToLocals, Value.category]; done) | rfl
set_option maxRecDepth 65536 in
set_option maxHeartbeats 40000000 in
theorem rmEn0 (l : Launch) (Z : State) (a0 : Array Value) (hw : ∀ d ∈ tables_1, d.before a0 Z = true)  (h0 : Heap) (n0 : Nat) (Z0 : n0 ≤ h0.size)  :
    Con l Z (⟨"com/example/hold/hold/check/ComponentSolver", "entry", "(II)J"⟩ : MethodName) prog_35_method_12_code 2 (some .long) [] ({ frames := 0, cells := 0, slots := 0, locals := 0 } : Room) 0 0 #[(.int (0 : Int32)), (.int (0 : Int32))] h0 (fun v h L => v = some (.long (0 : Int64)) ∧ h = h0 ∧ L = []) := by
  refine Con.body (plainFor_of_name (by first | (simp [plainName, overriddenIn]; done) | decide +kernel)) ?_
  intro p e s m below meth c T0 hx hby hml hown hnm hZ hret hlk X0 e0
  refine Goes.cast (ef_rmEn0 m ) ?_
  have N0 := Fr.nil n0
  show Goes p.tables e below (T0.setTop (mkF m 0 #[.val (.int (0 : Int32)), .val (.int (0 : Int32))] [])) _
  refine g_iloadN X0 hx (hb hby d17_0) rfl ?_
  refine g_i2l X0 hx (hb hby d17_1) ?_
  refine g_nameL (v := (0 : Int64)) (by decide) ?_
  refine g_bipush X0 hx (32 : Int32) (hb hby d17_2) (by decide) ?_
  refine g_lshl X0 hx (hb hby d17_4) ?_
  refine g_nameL (v := (0 : Int64)) (by decide) ?_
  refine g_iloadN X0 hx (hb hby d17_5) rfl ?_
  refine g_i2l X0 hx (hb hby d17_6) ?_
  refine g_nameL (v := (0 : Int64)) (by decide) ?_
  show Goes p.tables e below (T0.setTop (mkF m 7 #[.val (.int (0 : Int32)), .val (.int (0 : Int32))] [(.long (0 : Int64)), (.long (0 : Int64))])) _
  refine g_lor X0 hx (hb hby d17_7) ?_
  refine g_nameL (v := (0 : Int64)) (by decide) ?_
  exact g_retL X0 hx hret hlk (hb hby d17_8) (by decide) (by decide) ⟨rfl, e0, rfl⟩
theorem ef_rmLV1 (m : MethodId) (p0 : Addr) : entryFrame m #[(.ref p0)] 1 = mkF m 0 #[.val (.ref p0)] [] := by first | (simp [entryFrame, mkF, argsToLocals, Value.category]; done) | rfl
set_option maxRecDepth 65536 in
set_option maxHeartbeats 40000000 in
theorem rmLV1 (l : Launch) (Z : State) (a0 : Array Value) (hw : ∀ d ∈ tables_1, d.before a0 Z = true) (p0 : Addr) (h0 : Heap) (n0 : Nat) (Z0 : n0 ≤ h0.size) (fx : Fld Z h0 p0 "java/lang/Long" "value" "J" (.long (1 : Int64))) :
    Con l Z (⟨"java/lang/Long", "longValue", "()J"⟩ : MethodName) jdk_35_method_31_code 1 (some .long) [] ({ frames := 0, cells := 0, slots := 0, locals := 0 } : Room) 0 0 #[(.ref p0)] h0 (fun v h L => v = some (.long (1 : Int64)) ∧ h = h0 ∧ L = []) := by
  refine Con.body (plainFor_of_name (by first | (simp [plainName, overriddenIn]; done) | decide +kernel)) ?_
  intro p e s m below meth c T0 hx hby hml hown hnm hZ hret hlk X0 e0
  refine Goes.cast (ef_rmLV1 m p0) ?_
  have N0 := Fr.nil n0
  show Goes p.tables e below (T0.setTop (mkF m 0 #[.val (.ref p0)] [])) _
  refine g_aloadN X0 hx (hb hby d28_0) rfl rfl ?_
  refine g_getF X0 hx hZ hown e0 (host := "") (Or.inl (hw _ (List.mem_of_getElem? (i := 160) rfl))) Via.refl fx (hb hby d28_1) (fun T1 X1 e1 => ?_)
  show Goes p.tables e below (T1.setTop (mkF m 4 #[.val (.ref p0)] [(.long (1 : Int64))])) _
  exact g_retL X1 hx hret hlk (hb hby d28_4) (by decide) (by decide) ⟨rfl, e1, rfl⟩
theorem ef_rmVO1 (m : MethodId)  : entryFrame m #[(.long (1 : Int64))] 3 = mkF m 0 #[.val (.long (1 : Int64)), .second, .unset] [] := by first | (simp [entryFrame, mkF, argsToLocals, Value.category]; done) | rfl
set_option maxRecDepth 65536 in
set_option maxHeartbeats 40000000 in
theorem rmVO1 (l : Launch) (Z : State) (a0 : Array Value) (hw : ∀ d ∈ tables_1, d.before a0 Z = true)  (h0 : Heap) (n0 : Nat) (Z0 : n0 ≤ h0.size) (lc x : Addr) (cl : List Value) (SL : Sta Z h0 "java/lang/Long$LongCache" "cache" "[Ljava/lang/Long;" (.ref lc)) (Al : Ar Z h0 lc (.object "java/lang/Long") cl) (hc : cl[129]? = some (.ref x)) :
    Con l Z (⟨"java/lang/Long", "valueOf", "(J)Ljava/lang/Long;"⟩ : MethodName) jdk_35_method_24_code 3 (some (.object "java/lang/Long")) [] ({ frames := 0, cells := 0, slots := 0, locals := 0 } : Room) 0 0 #[(.long (1 : Int64))] h0 (fun v h L => v = some (.ref x) ∧ h = h0 ∧ L = []) := by
  refine Con.body (plainFor_of_name (by first | (simp [plainName, overriddenIn]; done) | decide +kernel)) ?_
  intro p e s m below meth c T0 hx hby hml hown hnm hZ hret hlk X0 e0
  refine Goes.cast (ef_rmVO1 m ) ?_
  have N0 := Fr.nil n0
  show Goes p.tables e below (T0.setTop (mkF m 0 #[.val (.long (1 : Int64)), .second, .unset] [])) _
  refine g_sipush X0 hx (128 : Int32) (hb hby d18_0) (by decide) ?_
  refine g_istoreN X0 hx (hb hby d18_3) (l' := #[.val (.long (1 : Int64)), .second, .val (.int (128 : Int32))]) rfl ?_
  refine g_lloadN X0 hx (hb hby d18_4) rfl ?_
  refine g_ldc2 X0 hx hZ hown (hw _ (List.mem_of_getElem? (i := 116) rfl)) (hb hby d18_5) ?_
  refine g_lcmp X0 hx (hb hby d18_8) ?_
  refine g_lif_lt X0 hx (hb hby d18_9) (by decide) (pc' := 31) (by decide) (fun q => absurd q (by decide)) (fun _ => ?_)
  show Goes p.tables e below (T0.setTop (mkF m 12 #[.val (.long (1 : Int64)), .second, .val (.int (128 : Int32))] [])) _
  refine g_lloadN X0 hx (hb hby d18_12) rfl ?_
  refine g_ldc2 X0 hx hZ hown (hw _ (List.mem_of_getElem? (i := 117) rfl)) (hb hby d18_13) ?_
  refine g_lcmp X0 hx (hb hby d18_16) ?_
  refine g_lif_gt X0 hx (hb hby d18_17) (by decide) (pc' := 31) (by decide) (fun q => absurd q (by decide)) (fun _ => ?_)
  show Goes p.tables e below (T0.setTop (mkF m 20 #[.val (.long (1 : Int64)), .second, .val (.int (128 : Int32))] [])) _
  refine g_getS X0 hx hZ hown e0 (host := "") (Or.inl (hw _ (List.mem_of_getElem? (i := 118) rfl))) SL (hb hby d18_20) (fun T1 X1 e1 => ?_)
  show Goes p.tables e below (T1.setTop (mkF m 23 #[.val (.long (1 : Int64)), .second, .val (.int (128 : Int32))] [(.ref lc)])) _
  refine g_lloadN X1 hx (hb hby d18_23) rfl ?_
  refine g_l2i X1 hx (hb hby d18_24) ?_
  refine g_nameI (v := (1 : Int32)) (by decide) ?_
  refine g_sipush X1 hx (128 : Int32) (hb hby d18_25) (by decide) ?_
  refine g_iadd X1 hx (hb hby d18_28) ?_
  refine g_nameI (v := (129 : Int32)) (by decide) ?_
  refine g_aaload X1 hx hZ e1 Al rfl (i := 129) (v := (.ref x)) (by decide) hc (hb hby d18_29) ?_
  show Goes p.tables e below (T1.setTop (mkF m 30 #[.val (.long (1 : Int64)), .second, .val (.int (128 : Int32))] [(.ref x)])) _
  exact g_retA X1 hx hret hlk rfl rfl (hb hby d18_30) (by decide) (by decide) ⟨rfl, e1, rfl⟩
theorem ef_rmEn1 (m : MethodId)  : entryFrame m #[(.int (0 : Int32)), (.int (1 : Int32))] 2 = mkF m 0 #[.val (.int (0 : Int32)), .val (.int (1 : Int32))] [] := by first | (simp [entryFrame, mkF, argsToLocals, Value.category]; done) | rfl
set_option maxRecDepth 65536 in
set_option maxHeartbeats 40000000 in
theorem rmEn1 (l : Launch) (Z : State) (a0 : Array Value) (hw : ∀ d ∈ tables_1, d.before a0 Z = true)  (h0 : Heap) (n0 : Nat) (Z0 : n0 ≤ h0.size)  :
    Con l Z (⟨"com/example/hold/hold/check/ComponentSolver", "entry", "(II)J"⟩ : MethodName) prog_35_method_12_code 2 (some .long) [] ({ frames := 0, cells := 0, slots := 0, locals := 0 } : Room) 0 0 #[(.int (0 : Int32)), (.int (1 : Int32))] h0 (fun v h L => v = some (.long (1 : Int64)) ∧ h = h0 ∧ L = []) := by
  refine Con.body (plainFor_of_name (by first | (simp [plainName, overriddenIn]; done) | decide +kernel)) ?_
  intro p e s m below meth c T0 hx hby hml hown hnm hZ hret hlk X0 e0
  refine Goes.cast (ef_rmEn1 m ) ?_
  have N0 := Fr.nil n0
  show Goes p.tables e below (T0.setTop (mkF m 0 #[.val (.int (0 : Int32)), .val (.int (1 : Int32))] [])) _
  refine g_iloadN X0 hx (hb hby d17_0) rfl ?_
  refine g_i2l X0 hx (hb hby d17_1) ?_
  refine g_nameL (v := (0 : Int64)) (by decide) ?_
  refine g_bipush X0 hx (32 : Int32) (hb hby d17_2) (by decide) ?_
  refine g_lshl X0 hx (hb hby d17_4) ?_
  refine g_nameL (v := (0 : Int64)) (by decide) ?_
  refine g_iloadN X0 hx (hb hby d17_5) rfl ?_
  refine g_i2l X0 hx (hb hby d17_6) ?_
  refine g_nameL (v := (1 : Int64)) (by decide) ?_
  show Goes p.tables e below (T0.setTop (mkF m 7 #[.val (.int (0 : Int32)), .val (.int (1 : Int32))] [(.long (1 : Int64)), (.long (0 : Int64))])) _
  refine g_lor X0 hx (hb hby d17_7) ?_
  refine g_nameL (v := (1 : Int64)) (by decide) ?_
  exact g_retL X0 hx hret hlk (hb hby d17_8) (by decide) (by decide) ⟨rfl, e0, rfl⟩
theorem ef_rmSUC0 (m : MethodId) (p1 : Addr) (p2 : Addr) : entryFrame m #[(.int (0 : Int32)), (.ref p1), (.ref p2)] 6 = mkF m 0 #[.val (.int (0 : Int32)), .val (.ref p1), .val (.ref p2), .unset, .unset, .unset] [] := by first | (simp [entryFrame, mkF, argsToLocals, Value.category]; done) | rfl
set_option maxRecDepth 65536 in
set_option maxHeartbeats 40000000 in
theorem rmSUC0 (l : Launch) (Z : State) (a0 : Array Value) (hw : ∀ d ∈ tables_1, d.before a0 Z = true) (p1 : Addr) (p2 : Addr) (h0 : Heap) (n0 : Nat) (Z0 : n0 ≤ h0.size) (E1 : Exa Z h0 p1 "java/lang/Long") (Aq : Ar Z h0 p2 (.object "java/lang/Object") [.null, .null, .null, .null, .null, .null, .null, .null, .null, .null, .null]) (Oq : Ovc Z h0 p2 "java/lang/Object") (gq : n0 ≤ p2) :
    Con l Z (⟨"java/util/PriorityQueue", "siftUpComparable", "(ILjava/lang/Object;[Ljava/lang/Object;)V"⟩ : MethodName) jdk_2655_method_28_code 6 none [] ({ frames := 3, cells := 0, slots := 0, locals := 41 } : Room) 0 0 #[(.int (0 : Int32)), (.ref p1), (.ref p2)] h0 (fun v h L => v = none ∧ Fr n0 L ∧ Keep h0 h [p2] ∧ Ar Z h p2 (.object "java/lang/Object") [(.ref p1), .null, .null, .null, .null, .null, .null, .null, .null, .null, .null]) := by
  refine Con.body (plainFor_of_name (by first | (simp [plainName, overriddenIn]; done) | decide +kernel)) ?_
  intro p e s m below meth c T0 hx hby hml hown hnm hZ hret hlk X0 e0
  refine Goes.cast (ef_rmSUC0 m p1 p2) ?_
  have N0 := Fr.nil n0
  have K0 : Keep h0 h0 [p2] := Keep.refl _ _
  show Goes p.tables e below (T0.setTop (mkF m 0 #[.val (.int (0 : Int32)), .val (.ref p1), .val (.ref p2), .unset, .unset, .unset] [])) _
  refine g_aloadN X0 hx (hb hby d22_0) rfl rfl ?_
  refine g_cast X0 hx hZ hown e0 (hw _ (List.mem_of_getElem? (i := 142) rfl)) (Ins.of_exa E1 (hw _ (List.mem_of_getElem? (i := 143) rfl))) (hb hby d22_1) (fun T1 X1 e1 => ?_)
  show Goes p.tables e below (T1.setTop (mkF m 4 #[.val (.int (0 : Int32)), .val (.ref p1), .val (.ref p2), .unset, .unset, .unset] [(.ref p1)])) _
  refine g_astoreN X1 hx (hb hby d22_4) rfl (l' := #[.val (.int (0 : Int32)), .val (.ref p1), .val (.ref p2), .val (.ref p1), .unset, .unset]) rfl ?_
  refine g_iloadN X1 hx (hb hby d22_5) rfl ?_
  refine g_if_le X1 hx (hb hby d22_6) (by decide) (pc' := 47) (by decide) (fun _ => ?_) (fun q => absurd q (by decide))
  show Goes p.tables e below (T1.setTop (mkF m 47 #[.val (.int (0 : Int32)), .val (.ref p1), .val (.ref p2), .val (.ref p1), .unset, .unset] [])) _
  show Goes p.tables e below (T1.setTop (mkF m 47 #[.val (.int (0 : Int32)), .val (.ref p1), .val (.ref p2), .val (.ref p1), .unset, .unset] [])) _
  refine g_aloadN X1 hx (hb hby d22_47) rfl rfl ?_
  refine g_iloadN X1 hx (hb hby d22_48) rfl ?_
  refine g_aloadN X1 hx (hb hby d22_49) rfl rfl ?_
  refine g_aastore X1 hx hZ e1 Aq rfl (v := (.ref p1)) rfl (Ovc.sto Oq Aq (Ins.of_exa E1 (hw _ (List.mem_of_getElem? (i := 144) rfl)))) 0 (by decide) (by show 0 < 11; decide) (hb hby d22_50) (fun T2 h2 X2 e2 W2 A2 => ?_)
  have fx3 : Exa Z h2 p1 "java/lang/Long" := Exa.wr W2 E1
  have fx4 : Ovc Z h2 p2 "java/lang/Object" := Ovc.wr Oq W2
  have fx5 : Ar Z h2 p2 (.object "java/lang/Object") [(.ref p1), .null, .null, .null, .null, .null, .null, .null, .null, .null, .null] := A2
  have N6 := Fr.snoc X2 N0 gq
  have Z7 : n0 ≤ h2.size := by rw [W2.size]; exact Z0
  have K8 : Keep h0 h2 [p2] := Keep.wr K0 W2 (Or.inl (List.mem_of_getElem? (i := 0) rfl))
  show Goes p.tables e below (T2.setTop (mkF m 51 #[.val (.int (0 : Int32)), .val (.ref p1), .val (.ref p2), .val (.ref p1), .unset, .unset] [])) _
  exact g_ret0 X2 hx hret hlk (hb hby d22_51) (by decide) (by decide) (by rw [e2]; exact ⟨rfl, N6, K8, fx5⟩)
theorem ef_rmSU0 (m : MethodId) (p0 : Addr) (p2 : Addr) : entryFrame m #[(.ref p0), (.int (0 : Int32)), (.ref p2)] 3 = mkF m 0 #[.val (.ref p0), .val (.int (0 : Int32)), .val (.ref p2)] [] := by first | (simp [entryFrame, mkF, argsToLocals, Value.category]; done) | rfl
set_option maxRecDepth 65536 in
set_option maxHeartbeats 40000000 in
theorem rmSU0 (l : Launch) (Z : State) (a0 : Array Value) (hw : ∀ d ∈ tables_1, d.before a0 Z = true) (p0 : Addr) (p2 : Addr) (h0 : Heap) (n0 : Nat) (Z0 : n0 ≤ h0.size) (qa : Addr) (fq : Fld Z h0 p0 "java/util/PriorityQueue" "queue" "[Ljava/lang/Object;" (.ref qa)) (fc : Fld Z h0 p0 "java/util/PriorityQueue" "comparator" "Ljava/util/Comparator;" .null) (E1 : Exa Z h0 p2 "java/lang/Long") (Aq : Ar Z h0 qa (.object "java/lang/Object") [.null, .null, .null, .null, .null, .null, .null, .null, .null, .null, .null]) (Oq : Ovc Z h0 qa "java/lang/Object") (gq : n0 ≤ qa) :
    Con l Z (⟨"java/util/PriorityQueue", "siftUp", "(ILjava/lang/Object;)V"⟩ : MethodName) jdk_2655_method_27_code 3 none [] ({ frames := 4, cells := 0, slots := 0, locals := 58 } : Room) 0 0 #[(.ref p0), (.int (0 : Int32)), (.ref p2)] h0 (fun v h L => v = none ∧ Fr n0 L ∧ Keep h0 h [qa] ∧ Ar Z h qa (.object "java/lang/Object") [(.ref p2), .null, .null, .null, .null, .null, .null, .null, .null, .null, .null]) := by
  refine Con.body (plainFor_of_name (by first | (simp [plainName, overriddenIn]; done) | decide +kernel)) ?_
  intro p e s m below meth c T0 hx hby hml hown hnm hZ hret hlk X0 e0
  refine Goes.cast (ef_rmSU0 m p0 p2) ?_
  have N0 := Fr.nil n0
  show Goes p.tables e below (T0.setTop (mkF m 0 #[.val (.ref p0), .val (.int (0 : Int32)), .val (.ref p2)] [])) _
  refine g_aloadN X0 hx (hb hby d21_0) rfl rfl ?_
  refine g_getF X0 hx hZ hown e0 (host := "") (Or.inl (hw _ (List.mem_of_getElem? (i := 98) rfl))) Via.refl fc (hb hby d21_1) (fun T1 X1 e1 => ?_)
  show Goes p.tables e below (T1.setTop (mkF m 4 #[.val (.ref p0), .val (.int (0 : Int32)), .val (.ref p2)] [.null])) _
  refine g_ifnull_null X1 hx (hb hby d21_4) (by decide) (pc' := 23) (by decide) ?_
  refine g_iloadN X1 hx (hb hby d21_23) rfl ?_
  refine g_aloadN X1 hx (hb hby d21_24) rfl rfl ?_
  refine g_aloadN X1 hx (hb hby d21_25) rfl rfl ?_
  refine g_getF X1 hx hZ hown e1 (host := "") (Or.inl (hw _ (List.mem_of_getElem? (i := 96) rfl))) Via.refl fq (hb hby d21_26) (fun T2 X2 e2 => ?_)
  show Goes p.tables e below (T2.setTop (mkF m 29 #[.val (.ref p0), .val (.int (0 : Int32)), .val (.ref p2)] [(.ref qa), (.ref p2), (.int (0 : Int32))])) _
  refine g_callS X2 hx hZ hown (by rw [hml]; rfl) e2 (hw _ (List.mem_of_getElem? (i := 139) rfl)) (hw _ (List.mem_of_getElem? (i := 140) rfl)) (hw _ (List.mem_of_getElem? (i := 73) rfl)) (hw _ (List.mem_of_getElem? (i := 141) rfl)) (rmSUC0 l Z a0 hw p2 qa h0 n0 Z0 E1 Aq Oq gq) [(.int (0 : Int32)), (.ref p2), (.ref qa)] rfl [] rfl (lenOf pd_22 rfl) (hb hby d21_29) (by decide) 0 (by decide) (by decide) (by first | decide | exact Nat.le_refl _) (by decide) (by decide) (fun v T3 L3 X3 hQ3 => ?_)
  obtain ⟨rfl, Nc, Kc, Ac⟩ := hQ3
  have N4 := Fr.app N0 Nc
  show Goes p.tables e below (T3.setTop (mkF m 32 #[.val (.ref p0), .val (.int (0 : Int32)), .val (.ref p2)] [])) _
  exact g_ret0 X3 hx hret hlk (hb hby d21_32) (by decide) (by decide) ⟨rfl, N4, Kc, Ac⟩
theorem ef_rmOf0 (m : MethodId) (p0 : Addr) (p1 : Addr) : entryFrame m #[(.ref p0), (.ref p1)] 3 = mkF m 0 #[.val (.ref p0), .val (.ref p1), .unset] [] := by first | (simp [entryFrame, mkF, argsToLocals, Value.category]; done) | rfl
set_option maxRecDepth 65536 in
set_option maxHeartbeats 40000000 in
theorem rmOf0 (l : Launch) (Z : State) (a0 : Array Value) (hw : ∀ d ∈ tables_1, d.before a0 Z = true) (p0 : Addr) (p1 : Addr) (h0 : Heap) (n0 : Nat) (Z0 : n0 ≤ h0.size) (qa : Addr) (fq : Fld Z h0 p0 "java/util/PriorityQueue" "queue" "[Ljava/lang/Object;" (.ref qa)) (fs : Fld Z h0 p0 "java/util/PriorityQueue" "size" "I" (.int (0 : Int32))) (fc : Fld Z h0 p0 "java/util/PriorityQueue" "comparator" "Ljava/util/Comparator;" .null) (fm : Fld Z h0 p0 "java/util/PriorityQueue" "modCount" "I" (.int (0 : Int32))) (Eqq : Exa Z h0 p0 "java/util/PriorityQueue") (Aq : Ar Z h0 qa (.object "java/lang/Object") [.null, .null, .null, .null, .null, .null, .null, .null, .null, .null, .null]) (Oq : Ovc Z h0 qa "java/lang/Object") (gp : n0 ≤ p0) (gq : n0 ≤ qa) (nq : qa ≠ p0) (E1 : Exa Z h0 p1 "java/lang/Long") (nx : p1 ≠ p0) :
    Con l Z (⟨"java/util/PriorityQueue", "offer", "(Ljava/lang/Object;)Z"⟩ : MethodName) jdk_2655_method_14_code 3 (some .boolean) [] ({ frames := 5, cells := 0, slots := 0, locals := 72 } : Room) 0 0 #[(.ref p0), (.ref p1)] h0 (fun v h L => v = some (.int (1 : Int32)) ∧ Fr n0 L ∧ Keep h0 h [p0, qa] ∧ Fld Z h p0 "java/util/PriorityQueue" "queue" "[Ljava/lang/Object;" (.ref qa) ∧ Fld Z h p0 "java/util/PriorityQueue" "size" "I" (.int (1 : Int32)) ∧ Fld Z h p0 "java/util/PriorityQueue" "comparator" "Ljava/util/Comparator;" .null ∧ Fld Z h p0 "java/util/PriorityQueue" "modCount" "I" (.int (1 : Int32)) ∧ Ar Z h qa (.object "java/lang/Object") [(.ref p1), .null, .null, .null, .null, .null, .null, .null, .null, .null, .null]) := by
  refine Con.body (plainFor_of_name (by first | (simp [plainName, overriddenIn]; done) | decide +kernel)) ?_
  intro p e s m below meth c T0 hx hby hml hown hnm hZ hret hlk X0 e0
  refine Goes.cast (ef_rmOf0 m p0 p1) ?_
  have N0 := Fr.nil n0
  have K0 : Keep h0 h0 [p0, qa] := Keep.refl _ _
  show Goes p.tables e below (T0.setTop (mkF m 0 #[.val (.ref p0), .val (.ref p1), .unset] [])) _
  refine g_aloadN X0 hx (hb hby d20_0) rfl rfl ?_
  refine g_ifnonnull_ref X0 hx (hb hby d20_1) (by decide) (pc' := 12) (by decide) ?_
  refine g_aloadN X0 hx (hb hby d20_12) rfl rfl ?_
  refine g_dup X0 hx (hb hby d20_13) rfl ?_
  refine g_getF X0 hx hZ hown e0 (host := "") (Or.inl (hw _ (List.mem_of_getElem? (i := 130) rfl))) Via.refl fm (hb hby d20_14) (fun T1 X1 e1 => ?_)
  show Goes p.tables e below (T1.setTop (mkF m 17 #[.val (.ref p0), .val (.ref p1), .unset] [(.int (0 : Int32)), (.ref p0)])) _
  refine g_iconst X1 hx (1 : Int32) (hb hby d20_17) rfl ?_
  refine g_iadd X1 hx (hb hby d20_18) ?_
  refine g_nameI (v := (1 : Int32)) (by decide) ?_
  refine g_putF X1 hx hZ hown e1 (hw _ (List.mem_of_getElem? (i := 130) rfl)) Via.refl (v' := (.int (1 : Int32))) fm Eqq (Or.inl (hw _ (List.mem_of_getElem? (i := 131) rfl))) (hw _ (List.mem_of_getElem? (i := 72) rfl)) (ty := .int) (by decide) rfl rfl (hb hby d20_19) (fun T2 h2 X2 e2 W2 => ?_)
  have fx3 : Fld Z h2 p0 "java/util/PriorityQueue" "queue" "[Ljava/lang/Object;" (.ref qa) := Fld.other W2 fq (Or.inr (slot_ne (t := (.array (.object "java/lang/Object"))) (t' := .int) (Or.inl (hw _ (List.mem_of_getElem? (i := 97) rfl))) (Or.inl (hw _ (List.mem_of_getElem? (i := 131) rfl))) (by decide) (by decide) (by decide)))
  have fx4 : Fld Z h2 p0 "java/util/PriorityQueue" "size" "I" (.int (0 : Int32)) := Fld.other W2 fs (Or.inr (slot_ne (t := .int) (t' := .int) (Or.inl (hw _ (List.mem_of_getElem? (i := 133) rfl))) (Or.inl (hw _ (List.mem_of_getElem? (i := 131) rfl))) (by decide) (by decide) (by decide)))
  have fx5 : Fld Z h2 p0 "java/util/PriorityQueue" "comparator" "Ljava/util/Comparator;" .null := Fld.other W2 fc (Or.inr (slot_ne (t := (.object "java/util/Comparator")) (t' := .int) (Or.inr (hw _ (List.mem_of_getElem? (i := 99) rfl))) (Or.inl (hw _ (List.mem_of_getElem? (i := 131) rfl))) (by decide) (by decide) (by decide)))
  have fx6 : Exa Z h2 p0 "java/util/PriorityQueue" := Exa.wr W2 Eqq
  have fx7 : Ar Z h2 qa (.object "java/lang/Object") [.null, .null, .null, .null, .null, .null, .null, .null, .null, .null, .null] := Ar.other Aq W2 nq
  have fx8 : Ovc Z h2 qa "java/lang/Object" := Ovc.wr Oq W2
  have fx9 : Exa Z h2 p1 "java/lang/Long" := Exa.wr W2 E1
  have fx10 : Fld Z h2 p0 "java/util/PriorityQueue" "modCount" "I" (.int (1 : Int32)) := Fld.same W2 fm
  have N11 := Fr.snoc X2 N0 gp
  have Z12 : n0 ≤ h2.size := by rw [W2.size]; exact Z0
  have K13 : Keep h0 h2 [p0, qa] := Keep.wr K0 W2 (Or.inl (List.mem_of_getElem? (i := 0) rfl))
  show Goes p.tables e below (T2.setTop (mkF m 22 #[.val (.ref p0), .val (.ref p1), .unset] [])) _
  refine g_aloadN X2 hx (hb hby d20_22) rfl rfl ?_
  refine g_getF X2 hx hZ hown e2 (host := "") (Or.inl (hw _ (List.mem_of_getElem? (i := 132) rfl))) Via.refl fx4 (hb hby d20_23) (fun T14 X14 e14 => ?_)
  show Goes p.tables e below (T14.setTop (mkF m 26 #[.val (.ref p0), .val (.ref p1), .unset] [(.int (0 : Int32))])) _
  refine g_istoreN X14 hx (hb hby d20_26) (l' := #[.val (.ref p0), .val (.ref p1), .val (.int (0 : Int32))]) rfl ?_
  refine g_iloadN X14 hx (hb hby d20_27) rfl ?_
  refine g_aloadN X14 hx (hb hby d20_28) rfl rfl ?_
  refine g_getF X14 hx hZ hown e14 (host := "") (Or.inl (hw _ (List.mem_of_getElem? (i := 96) rfl))) Via.refl fx3 (hb hby d20_29) (fun T15 X15 e15 => ?_)
  show Goes p.tables e below (T15.setTop (mkF m 32 #[.val (.ref p0), .val (.ref p1), .val (.int (0 : Int32))] [(.ref qa), (.int (0 : Int32))])) _
  refine g_alen X15 hx hZ e15 fx7 (11 : Int32) (by show (11 : Int32).toInt = ((11 : Nat) : Int); decide) (hb hby d20_32) ?_
  show Goes p.tables e below (T15.setTop (mkF m 33 #[.val (.ref p0), .val (.ref p1), .val (.int (0 : Int32))] [(.int (11 : Int32)), (.int (0 : Int32))])) _
  refine g_icmp_lt X15 hx (hb hby d20_33) (by decide) (pc' := 43) (by decide) (fun _ => ?_) (fun q => absurd (by decide) q)
  show Goes p.tables e below (T15.setTop (mkF m 43 #[.val (.ref p0), .val (.ref p1), .val (.int (0 : Int32))] [])) _
  refine g_aloadN X15 hx (hb hby d20_43) rfl rfl ?_
  refine g_iloadN X15 hx (hb hby d20_44) rfl ?_
  refine g_aloadN X15 hx (hb hby d20_45) rfl rfl ?_
  refine g_callP X15 hx hZ hown (by rw [hml]; rfl) e15 (hw _ (List.mem_of_getElem? (i := 134) rfl)) (hw _ (List.mem_of_getElem? (i := 135) rfl)) (hw _ (List.mem_of_getElem? (i := 137) rfl)) (hw _ (List.mem_of_getElem? (i := 136) rfl)) (hw _ (List.mem_of_getElem? (i := 73) rfl)) (hw _ (List.mem_of_getElem? (i := 138) rfl)) fx6 (rmSU0 l Z a0 hw p0 p1 h2 n0 Z12 qa fx3 fx5 fx9 fx7 fx8 gq) [(.int (0 : Int32)), (.ref p1)] rfl [] rfl (lenOf pd_21 rfl) (hb hby d20_46) (by decide) 0 (by decide) (by decide) (by first | decide | exact Nat.le_refl _) (by decide) (by decide) (fun v T16 L16 X16 hQ16 => ?_)
  obtain ⟨rfl, Nc, Kc, Ac⟩ := hQ16
  have K17 : Keep h0 T16.heap [p0, qa] := K13.trans Kc (allS (Or.inl (List.mem_of_getElem? (i := 1) rfl)) all0)
  have fx18 : Fld Z T16.heap p0 "java/util/PriorityQueue" "queue" "[Ljava/lang/Object;" (.ref qa) := Fld.keep fx3 Kc (ninS (Ne.symm nq) nin0)
  have fx19 : Fld Z T16.heap p0 "java/util/PriorityQueue" "size" "I" (.int (0 : Int32)) := Fld.keep fx4 Kc (ninS (Ne.symm nq) nin0)
  have fx20 : Fld Z T16.heap p0 "java/util/PriorityQueue" "comparator" "Ljava/util/Comparator;" .null := Fld.keep fx5 Kc (ninS (Ne.symm nq) nin0)
  have fx21 : Exa Z T16.heap p0 "java/util/PriorityQueue" := Exa.keep fx6 Kc
  have fx22 : Ovc Z T16.heap qa "java/lang/Object" := Ovc.keep fx8 Kc
  have fx23 : Fld Z T16.heap p0 "java/util/PriorityQueue" "modCount" "I" (.int (1 : Int32)) := Fld.keep fx10 Kc (ninS (Ne.symm nq) nin0)
  have N24 := Fr.app N11 Nc
  have Z25 : n0 ≤ T16.heap.size := Nat.le_trans Z12 Kc.1
  show Goes p.tables e below (T16.setTop (mkF m 49 #[.val (.ref p0), .val (.ref p1), .val (.int (0 : Int32))] [])) _
  refine g_aloadN X16 hx (hb hby d20_49) rfl rfl ?_
  refine g_iloadN X16 hx (hb hby d20_50) rfl ?_
  refine g_iconst X16 hx (1 : Int32) (hb hby d20_51) rfl ?_
  refine g_iadd X16 hx (hb hby d20_52) ?_
  refine g_nameI (v := (1 : Int32)) (by decide) ?_
  refine g_putF X16 hx hZ hown rfl (hw _ (List.mem_of_getElem? (i := 132) rfl)) Via.refl (v' := (.int (1 : Int32))) fx19 fx21 (Or.inl (hw _ (List.mem_of_getElem? (i := 133) rfl))) (hw _ (List.mem_of_getElem? (i := 72) rfl)) (ty := .int) (by decide) rfl rfl (hb hby d20_53) (fun T26 h26 X26 e26 W26 => ?_)
  have fx27 : Fld Z h26 p0 "java/util/PriorityQueue" "queue" "[Ljava/lang/Object;" (.ref qa) := Fld.other W26 fx18 (Or.inr (slot_ne (t := (.array (.object "java/lang/Object"))) (t' := .int) (Or.inl (hw _ (List.mem_of_getElem? (i := 97) rfl))) (Or.inl (hw _ (List.mem_of_getElem? (i := 133) rfl))) (by decide) (by decide) (by decide)))
  have fx28 : Fld Z h26 p0 "java/util/PriorityQueue" "comparator" "Ljava/util/Comparator;" .null := Fld.other W26 fx20 (Or.inr (slot_ne (t := (.object "java/util/Comparator")) (t' := .int) (Or.inr (hw _ (List.mem_of_getElem? (i := 99) rfl))) (Or.inl (hw _ (List.mem_of_getElem? (i := 133) rfl))) (by decide) (by decide) (by decide)))
  have fx29 : Exa Z h26 p0 "java/util/PriorityQueue" := Exa.wr W26 fx21
  have fx30 : Ovc Z h26 qa "java/lang/Object" := Ovc.wr fx22 W26
  have fx31 : Fld Z h26 p0 "java/util/PriorityQueue" "modCount" "I" (.int (1 : Int32)) := Fld.other W26 fx23 (Or.inr (slot_ne (t := .int) (t' := .int) (Or.inl (hw _ (List.mem_of_getElem? (i := 131) rfl))) (Or.inl (hw _ (List.mem_of_getElem? (i := 133) rfl))) (by decide) (by decide) (by decide)))
  have fx32 : Ar Z h26 qa (.object "java/lang/Object") [(.ref p1), .null, .null, .null, .null, .null, .null, .null, .null, .null, .null] := Ar.other Ac W26 nq
  have fx33 : Fld Z h26 p0 "java/util/PriorityQueue" "size" "I" (.int (1 : Int32)) := Fld.same W26 fx19
  have N34 := Fr.snoc X26 N24 gp
  have Z35 : n0 ≤ h26.size := by rw [W26.size]; exact Z25
  have K36 : Keep h0 h26 [p0, qa] := Keep.wr K17 W26 (Or.inl (List.mem_of_getElem? (i := 0) rfl))
  show Goes p.tables e below (T26.setTop (mkF m 56 #[.val (.ref p0), .val (.ref p1), .val (.int (0 : Int32))] [])) _
  refine g_iconst X26 hx (1 : Int32) (hb hby d20_56) rfl ?_
  exact g_retZ X26 hx (hz := (by decide)) hret hlk (hb hby d20_57) (by decide) (by decide) (by rw [e26]; exact ⟨rfl, N34, K36, fx27, fx33, fx28, fx31, fx32⟩)
theorem ef_rmAd0 (m : MethodId) (p0 : Addr) (p1 : Addr) : entryFrame m #[(.ref p0), (.ref p1)] 2 = mkF m 0 #[.val (.ref p0), .val (.ref p1)] [] := by first | (simp [entryFrame, mkF, argsToLocals, Value.category]; done) | rfl
set_option maxRecDepth 65536 in
set_option maxHeartbeats 40000000 in
theorem rmAd0 (l : Launch) (Z : State) (a0 : Array Value) (hw : ∀ d ∈ tables_1, d.before a0 Z = true) (p0 : Addr) (p1 : Addr) (h0 : Heap) (n0 : Nat) (Z0 : n0 ≤ h0.size) (qa : Addr) (fq : Fld Z h0 p0 "java/util/PriorityQueue" "queue" "[Ljava/lang/Object;" (.ref qa)) (fs : Fld Z h0 p0 "java/util/PriorityQueue" "size" "I" (.int (0 : Int32))) (fc : Fld Z h0 p0 "java/util/PriorityQueue" "comparator" "Ljava/util/Comparator;" .null) (fm : Fld Z h0 p0 "java/util/PriorityQueue" "modCount" "I" (.int (0 : Int32))) (Eqq : Exa Z h0 p0 "java/util/PriorityQueue") (Aq : Ar Z h0 qa (.object "java/lang/Object") [.null, .null, .null, .null, .null, .null, .null, .null, .null, .null, .null]) (Oq : Ovc Z h0 qa "java/lang/Object") (gp : n0 ≤ p0) (gq : n0 ≤ qa) (nq : qa ≠ p0) (E1 : Exa Z h0 p1 "java/lang/Long") (nx : p1 ≠ p0) :
    Con l Z (⟨"java/util/PriorityQueue", "add", "(Ljava/lang/Object;)Z"⟩ : MethodName) jdk_2655_method_13_code 2 (some .boolean) [] ({ frames := 6, cells := 0, slots := 0, locals := 86 } : Room) 0 0 #[(.ref p0), (.ref p1)] h0 (fun v h L => v = some (.int (1 : Int32)) ∧ Fr n0 L ∧ Keep h0 h [p0, qa] ∧ Fld Z h p0 "java/util/PriorityQueue" "queue" "[Ljava/lang/Object;" (.ref qa) ∧ Fld Z h p0 "java/util/PriorityQueue" "size" "I" (.int (1 : Int32)) ∧ Fld Z h p0 "java/util/PriorityQueue" "comparator" "Ljava/util/Comparator;" .null ∧ Fld Z h p0 "java/util/PriorityQueue" "modCount" "I" (.int (1 : Int32)) ∧ Ar Z h qa (.object "java/lang/Object") [(.ref p1), .null, .null, .null, .null, .null, .null, .null, .null, .null, .null]) := by
  refine Con.body (plainFor_of_name (by first | (simp [plainName, overriddenIn]; done) | decide +kernel)) ?_
  intro p e s m below meth c T0 hx hby hml hown hnm hZ hret hlk X0 e0
  refine Goes.cast (ef_rmAd0 m p0 p1) ?_
  have N0 := Fr.nil n0
  show Goes p.tables e below (T0.setTop (mkF m 0 #[.val (.ref p0), .val (.ref p1)] [])) _
  refine g_aloadN X0 hx (hb hby d19_0) rfl rfl ?_
  refine g_aloadN X0 hx (hb hby d19_1) rfl rfl ?_
  refine g_callV X0 hx hZ hown (by rw [hml]; rfl) e0 (K := "java/util/PriorityQueue") (hw _ (List.mem_of_getElem? (i := 125) rfl)) (hw _ (List.mem_of_getElem? (i := 126) rfl)) (hw _ (List.mem_of_getElem? (i := 128) rfl)) (hw _ (List.mem_of_getElem? (i := 127) rfl)) (hw _ (List.mem_of_getElem? (i := 73) rfl)) (hw _ (List.mem_of_getElem? (i := 129) rfl)) Eqq (rmOf0 l Z a0 hw p0 p1 h0 n0 Z0 qa fq fs fc fm Eqq Aq Oq gp gq nq E1 nx) [(.ref p1)] rfl [] rfl (lenOf pd_20 rfl) (hb hby d19_2) (by decide) 0 (by decide) (by decide) (by first | decide | exact Nat.le_refl _) (by decide) (by decide) (fun v T1 L1 X1 hQ1 => ?_)
  obtain ⟨rfl, Nc, Kc, q1, q2, q3, q4, q5⟩ := hQ1
  have N2 := Fr.app N0 Nc
  show Goes p.tables e below (T1.setTop (mkF m 5 #[.val (.ref p0), .val (.ref p1)] [(.int (1 : Int32))])) _
  exact g_retZ X1 hx (hz := (by decide)) hret hlk (hb hby d19_5) (by decide) (by decide) ⟨rfl, N2, Kc, q1, q2, q3, q4, q5⟩
theorem ef_rmSUC1 (m : MethodId) (p1 : Addr) (p2 : Addr) : entryFrame m #[(.int (1 : Int32)), (.ref p1), (.ref p2)] 6 = mkF m 0 #[.val (.int (1 : Int32)), .val (.ref p1), .val (.ref p2), .unset, .unset, .unset] [] := by first | (simp [entryFrame, mkF, argsToLocals, Value.category]; done) | rfl
set_option maxRecDepth 65536 in
set_option maxHeartbeats 40000000 in
theorem rmSUC1 (l : Launch) (Z : State) (a0 : Array Value) (hw : ∀ d ∈ tables_1, d.before a0 Z = true) (p1 : Addr) (p2 : Addr) (h0 : Heap) (n0 : Nat) (Z0 : n0 ≤ h0.size) (y0 : Addr) (E1 : Exa Z h0 p1 "java/lang/Long") (fx : Fld Z h0 p1 "java/lang/Long" "value" "J" (.long (1 : Int64))) (E2 : Exa Z h0 y0 "java/lang/Long") (fy : Fld Z h0 y0 "java/lang/Long" "value" "J" (.long (0 : Int64))) (Aq : Ar Z h0 p2 (.object "java/lang/Object") [(.ref y0), .null, .null, .null, .null, .null, .null, .null, .null, .null, .null]) (Oq : Ovc Z h0 p2 "java/lang/Object") (gq : n0 ≤ p2) :
    Con l Z (⟨"java/util/PriorityQueue", "siftUpComparable", "(ILjava/lang/Object;[Ljava/lang/Object;)V"⟩ : MethodName) jdk_2655_method_28_code 6 none [] ({ frames := 3, cells := 0, slots := 0, locals := 41 } : Room) 0 0 #[(.int (1 : Int32)), (.ref p1), (.ref p2)] h0 (fun v h L => v = none ∧ Fr n0 L ∧ Keep h0 h [p2] ∧ Ar Z h p2 (.object "java/lang/Object") [(.ref y0), (.ref p1), .null, .null, .null, .null, .null, .null, .null, .null, .null]) := by
  refine Con.body (plainFor_of_name (by first | (simp [plainName, overriddenIn]; done) | decide +kernel)) ?_
  intro p e s m below meth c T0 hx hby hml hown hnm hZ hret hlk X0 e0
  refine Goes.cast (ef_rmSUC1 m p1 p2) ?_
  have N0 := Fr.nil n0
  have K0 : Keep h0 h0 [p2] := Keep.refl _ _
  show Goes p.tables e below (T0.setTop (mkF m 0 #[.val (.int (1 : Int32)), .val (.ref p1), .val (.ref p2), .unset, .unset, .unset] [])) _
  refine g_aloadN X0 hx (hb hby d22_0) rfl rfl ?_
  refine g_cast X0 hx hZ hown e0 (hw _ (List.mem_of_getElem? (i := 142) rfl)) (Ins.of_exa E1 (hw _ (List.mem_of_getElem? (i := 143) rfl))) (hb hby d22_1) (fun T1 X1 e1 => ?_)
  show Goes p.tables e below (T1.setTop (mkF m 4 #[.val (.int (1 : Int32)), .val (.ref p1), .val (.ref p2), .unset, .unset, .unset] [(.ref p1)])) _
  refine g_astoreN X1 hx (hb hby d22_4) rfl (l' := #[.val (.int (1 : Int32)), .val (.ref p1), .val (.ref p2), .val (.ref p1), .unset, .unset]) rfl ?_
  refine g_iloadN X1 hx (hb hby d22_5) rfl ?_
  refine g_if_le X1 hx (hb hby d22_6) (by decide) (pc' := 47) (by decide) (fun q => absurd (by decide) q) (fun _ => ?_)
  show Goes p.tables e below (T1.setTop (mkF m 9 #[.val (.int (1 : Int32)), .val (.ref p1), .val (.ref p2), .val (.ref p1), .unset, .unset] [])) _
  refine g_iloadN X1 hx (hb hby d22_9) rfl ?_
  refine g_iconst X1 hx (1 : Int32) (hb hby d22_10) rfl ?_
  refine g_isub X1 hx (hb hby d22_11) ?_
  refine g_nameI (v := (0 : Int32)) (by decide) ?_
  refine g_iconst X1 hx (1 : Int32) (hb hby d22_12) rfl ?_
  refine g_iushr X1 hx (hb hby d22_13) ?_
  refine g_nameI (v := (0 : Int32)) (by decide) ?_
  refine g_istore X1 hx (hb hby d22_14) (l' := #[.val (.int (1 : Int32)), .val (.ref p1), .val (.ref p2), .val (.ref p1), .val (.int (0 : Int32)), .unset]) rfl ?_
  show Goes p.tables e below (T1.setTop (mkF m 16 #[.val (.int (1 : Int32)), .val (.ref p1), .val (.ref p2), .val (.ref p1), .val (.int (0 : Int32)), .unset] [])) _
  refine g_aloadN X1 hx (hb hby d22_16) rfl rfl ?_
  refine g_iload X1 hx (hb hby d22_17) rfl ?_
  refine g_aaload X1 hx hZ e1 Aq rfl (i := 0) (v := (.ref y0)) (by decide) rfl (hb hby d22_19) ?_
  show Goes p.tables e below (T1.setTop (mkF m 20 #[.val (.int (1 : Int32)), .val (.ref p1), .val (.ref p2), .val (.ref p1), .val (.int (0 : Int32)), .unset] [(.ref y0)])) _
  refine g_astore X1 hx (hb hby d22_20) rfl (l' := #[.val (.int (1 : Int32)), .val (.ref p1), .val (.ref p2), .val (.ref p1), .val (.int (0 : Int32)), .val (.ref y0)]) rfl ?_
  refine g_aloadN X1 hx (hb hby d22_22) rfl rfl ?_
  refine g_aload X1 hx (hb hby d22_23) rfl rfl ?_
  refine g_callF X1 hx hZ hown (by rw [hml]; rfl) e1 (hw _ (List.mem_of_getElem? (i := 145) rfl)) (hw _ (List.mem_of_getElem? (i := 146) rfl)) (hw _ (List.mem_of_getElem? (i := 147) rfl)) (hw _ (List.mem_of_getElem? (i := 148) rfl)) (hw _ (List.mem_of_getElem? (i := 149) rfl)) (hw _ (List.mem_of_getElem? (i := 150) rfl)) (hw _ (List.mem_of_getElem? (i := 151) rfl)) (hw _ (List.mem_of_getElem? (i := 143) rfl)) (hw _ (List.mem_of_getElem? (i := 114) rfl)) (hw _ (List.mem_of_getElem? (i := 152) rfl)) E1 (rmCO l Z a0 hw p1 y0 h0 n0 Z0 fx fy E1 E2) [(.ref y0)] rfl [] rfl (lenOf pd_23 rfl) (hb hby d22_25) (by decide) 0 (by decide) (by decide) (by first | decide | exact Nat.le_refl _) (by decide) (by decide) (fun v T2 L2 X2 hQ2 => ?_)
  obtain ⟨rfl, e2, rfl⟩ := hQ2
  have N3 := Fr.app N0 (Fr.nil n0)
  show Goes p.tables e below (T2.setTop (mkF m 30 #[.val (.int (1 : Int32)), .val (.ref p1), .val (.ref p2), .val (.ref p1), .val (.int (0 : Int32)), .val (.ref y0)] [(.int (1 : Int32))])) _
  refine g_if_lt X2 hx (hb hby d22_30) (by decide) (pc' := 36) (by decide) (fun q => absurd q (by decide)) (fun _ => ?_)
  show Goes p.tables e below (T2.setTop (mkF m 33 #[.val (.int (1 : Int32)), .val (.ref p1), .val (.ref p2), .val (.ref p1), .val (.int (0 : Int32)), .val (.ref y0)] [])) _
  refine g_goto X2 hx (hb hby d22_33) (by decide) (pc' := 47) (by decide) ?_
  refine g_aloadN X2 hx (hb hby d22_47) rfl rfl ?_
  refine g_iloadN X2 hx (hb hby d22_48) rfl ?_
  refine g_aloadN X2 hx (hb hby d22_49) rfl rfl ?_
  refine g_aastore X2 hx hZ e2 Aq rfl (v := (.ref p1)) rfl (Ovc.sto Oq Aq (Ins.of_exa E1 (hw _ (List.mem_of_getElem? (i := 144) rfl)))) 1 (by decide) (by show 1 < 11; decide) (hb hby d22_50) (fun T4 h4 X4 e4 W4 A4 => ?_)
  have fx5 : Exa Z h4 p1 "java/lang/Long" := Exa.wr W4 E1
  have fx6 : Ovc Z h4 p2 "java/lang/Object" := Ovc.wr Oq W4
  have fx7 : Ar Z h4 p2 (.object "java/lang/Object") [(.ref y0), (.ref p1), .null, .null, .null, .null, .null, .null, .null, .null, .null] := A4
  have N8 := Fr.snoc X4 N3 gq
  have Z9 : n0 ≤ h4.size := by rw [W4.size]; exact Z0
  have K10 : Keep h0 h4 [p2] := Keep.wr K0 W4 (Or.inl (List.mem_of_getElem? (i := 0) rfl))
  show Goes p.tables e below (T4.setTop (mkF m 51 #[.val (.int (1 : Int32)), .val (.ref p1), .val (.ref p2), .val (.ref p1), .val (.int (0 : Int32)), .val (.ref y0)] [])) _
  exact g_ret0 X4 hx hret hlk (hb hby d22_51) (by decide) (by decide) (by rw [e4]; exact ⟨rfl, N8, K10, fx7⟩)
theorem ef_rmSU1 (m : MethodId) (p0 : Addr) (p2 : Addr) : entryFrame m #[(.ref p0), (.int (1 : Int32)), (.ref p2)] 3 = mkF m 0 #[.val (.ref p0), .val (.int (1 : Int32)), .val (.ref p2)] [] := by first | (simp [entryFrame, mkF, argsToLocals, Value.category]; done) | rfl
set_option maxRecDepth 65536 in
set_option maxHeartbeats 40000000 in
theorem rmSU1 (l : Launch) (Z : State) (a0 : Array Value) (hw : ∀ d ∈ tables_1, d.before a0 Z = true) (p0 : Addr) (p2 : Addr) (h0 : Heap) (n0 : Nat) (Z0 : n0 ≤ h0.size) (y0 : Addr) (qa : Addr) (fq : Fld Z h0 p0 "java/util/PriorityQueue" "queue" "[Ljava/lang/Object;" (.ref qa)) (fc : Fld Z h0 p0 "java/util/PriorityQueue" "comparator" "Ljava/util/Comparator;" .null) (E1 : Exa Z h0 p2 "java/lang/Long") (fx : Fld Z h0 p2 "java/lang/Long" "value" "J" (.long (1 : Int64))) (E2 : Exa Z h0 y0 "java/lang/Long") (fy : Fld Z h0 y0 "java/lang/Long" "value" "J" (.long (0 : Int64))) (Aq : Ar Z h0 qa (.object "java/lang/Object") [(.ref y0), .null, .null, .null, .null, .null, .null, .null, .null, .null, .null]) (Oq : Ovc Z h0 qa "java/lang/Object") (gq : n0 ≤ qa) :
    Con l Z (⟨"java/util/PriorityQueue", "siftUp", "(ILjava/lang/Object;)V"⟩ : MethodName) jdk_2655_method_27_code 3 none [] ({ frames := 4, cells := 0, slots := 0, locals := 58 } : Room) 0 0 #[(.ref p0), (.int (1 : Int32)), (.ref p2)] h0 (fun v h L => v = none ∧ Fr n0 L ∧ Keep h0 h [qa] ∧ Ar Z h qa (.object "java/lang/Object") [(.ref y0), (.ref p2), .null, .null, .null, .null, .null, .null, .null, .null, .null]) := by
  refine Con.body (plainFor_of_name (by first | (simp [plainName, overriddenIn]; done) | decide +kernel)) ?_
  intro p e s m below meth c T0 hx hby hml hown hnm hZ hret hlk X0 e0
  refine Goes.cast (ef_rmSU1 m p0 p2) ?_
  have N0 := Fr.nil n0
  show Goes p.tables e below (T0.setTop (mkF m 0 #[.val (.ref p0), .val (.int (1 : Int32)), .val (.ref p2)] [])) _
  refine g_aloadN X0 hx (hb hby d21_0) rfl rfl ?_
  refine g_getF X0 hx hZ hown e0 (host := "") (Or.inl (hw _ (List.mem_of_getElem? (i := 98) rfl))) Via.refl fc (hb hby d21_1) (fun T1 X1 e1 => ?_)
  show Goes p.tables e below (T1.setTop (mkF m 4 #[.val (.ref p0), .val (.int (1 : Int32)), .val (.ref p2)] [.null])) _
  refine g_ifnull_null X1 hx (hb hby d21_4) (by decide) (pc' := 23) (by decide) ?_
  refine g_iloadN X1 hx (hb hby d21_23) rfl ?_
  refine g_aloadN X1 hx (hb hby d21_24) rfl rfl ?_
  refine g_aloadN X1 hx (hb hby d21_25) rfl rfl ?_
  refine g_getF X1 hx hZ hown e1 (host := "") (Or.inl (hw _ (List.mem_of_getElem? (i := 96) rfl))) Via.refl fq (hb hby d21_26) (fun T2 X2 e2 => ?_)
  show Goes p.tables e below (T2.setTop (mkF m 29 #[.val (.ref p0), .val (.int (1 : Int32)), .val (.ref p2)] [(.ref qa), (.ref p2), (.int (1 : Int32))])) _
  refine g_callS X2 hx hZ hown (by rw [hml]; rfl) e2 (hw _ (List.mem_of_getElem? (i := 139) rfl)) (hw _ (List.mem_of_getElem? (i := 140) rfl)) (hw _ (List.mem_of_getElem? (i := 73) rfl)) (hw _ (List.mem_of_getElem? (i := 141) rfl)) (rmSUC1 l Z a0 hw p2 qa h0 n0 Z0 y0 E1 fx E2 fy Aq Oq gq) [(.int (1 : Int32)), (.ref p2), (.ref qa)] rfl [] rfl (lenOf pd_22 rfl) (hb hby d21_29) (by decide) 0 (by decide) (by decide) (by first | decide | exact Nat.le_refl _) (by decide) (by decide) (fun v T3 L3 X3 hQ3 => ?_)
  obtain ⟨rfl, Nc, Kc, Ac⟩ := hQ3
  have N4 := Fr.app N0 Nc
  show Goes p.tables e below (T3.setTop (mkF m 32 #[.val (.ref p0), .val (.int (1 : Int32)), .val (.ref p2)] [])) _
  exact g_ret0 X3 hx hret hlk (hb hby d21_32) (by decide) (by decide) ⟨rfl, N4, Kc, Ac⟩
theorem ef_rmOf1 (m : MethodId) (p0 : Addr) (p1 : Addr) : entryFrame m #[(.ref p0), (.ref p1)] 3 = mkF m 0 #[.val (.ref p0), .val (.ref p1), .unset] [] := by first | (simp [entryFrame, mkF, argsToLocals, Value.category]; done) | rfl
set_option maxRecDepth 65536 in
set_option maxHeartbeats 40000000 in
theorem rmOf1 (l : Launch) (Z : State) (a0 : Array Value) (hw : ∀ d ∈ tables_1, d.before a0 Z = true) (p0 : Addr) (p1 : Addr) (h0 : Heap) (n0 : Nat) (Z0 : n0 ≤ h0.size) (y0 : Addr) (qa : Addr) (fq : Fld Z h0 p0 "java/util/PriorityQueue" "queue" "[Ljava/lang/Object;" (.ref qa)) (fs : Fld Z h0 p0 "java/util/PriorityQueue" "size" "I" (.int (1 : Int32))) (fc : Fld Z h0 p0 "java/util/PriorityQueue" "comparator" "Ljava/util/Comparator;" .null) (fm : Fld Z h0 p0 "java/util/PriorityQueue" "modCount" "I" (.int (1 : Int32))) (Eqq : Exa Z h0 p0 "java/util/PriorityQueue") (Aq : Ar Z h0 qa (.object "java/lang/Object") [(.ref y0), .null, .null, .null, .null, .null, .null, .null, .null, .null, .null]) (Oq : Ovc Z h0 qa "java/lang/Object") (gp : n0 ≤ p0) (gq : n0 ≤ qa) (nq : qa ≠ p0) (E1 : Exa Z h0 p1 "java/lang/Long") (fx : Fld Z h0 p1 "java/lang/Long" "value" "J" (.long (1 : Int64))) (E2 : Exa Z h0 y0 "java/lang/Long") (fy : Fld Z h0 y0 "java/lang/Long" "value" "J" (.long (0 : Int64))) (nx : p1 ≠ p0) (ny : y0 ≠ p0) :
    Con l Z (⟨"java/util/PriorityQueue", "offer", "(Ljava/lang/Object;)Z"⟩ : MethodName) jdk_2655_method_14_code 3 (some .boolean) [] ({ frames := 5, cells := 0, slots := 0, locals := 72 } : Room) 0 0 #[(.ref p0), (.ref p1)] h0 (fun v h L => v = some (.int (1 : Int32)) ∧ Fr n0 L ∧ Keep h0 h [p0, qa] ∧ Fld Z h p0 "java/util/PriorityQueue" "queue" "[Ljava/lang/Object;" (.ref qa) ∧ Fld Z h p0 "java/util/PriorityQueue" "size" "I" (.int (2 : Int32)) ∧ Fld Z h p0 "java/util/PriorityQueue" "comparator" "Ljava/util/Comparator;" .null ∧ Fld Z h p0 "java/util/PriorityQueue" "modCount" "I" (.int (2 : Int32)) ∧ Ar Z h qa (.object "java/lang/Object") [(.ref y0), (.ref p1), .null, .null, .null, .null, .null, .null, .null, .null, .null]) := by
  refine Con.body (plainFor_of_name (by first | (simp [plainName, overriddenIn]; done) | decide +kernel)) ?_
  intro p e s m below meth c T0 hx hby hml hown hnm hZ hret hlk X0 e0
  refine Goes.cast (ef_rmOf1 m p0 p1) ?_
  have N0 := Fr.nil n0
  have K0 : Keep h0 h0 [p0, qa] := Keep.refl _ _
  show Goes p.tables e below (T0.setTop (mkF m 0 #[.val (.ref p0), .val (.ref p1), .unset] [])) _
  refine g_aloadN X0 hx (hb hby d20_0) rfl rfl ?_
  refine g_ifnonnull_ref X0 hx (hb hby d20_1) (by decide) (pc' := 12) (by decide) ?_
  refine g_aloadN X0 hx (hb hby d20_12) rfl rfl ?_
  refine g_dup X0 hx (hb hby d20_13) rfl ?_
  refine g_getF X0 hx hZ hown e0 (host := "") (Or.inl (hw _ (List.mem_of_getElem? (i := 130) rfl))) Via.refl fm (hb hby d20_14) (fun T1 X1 e1 => ?_)
  show Goes p.tables e below (T1.setTop (mkF m 17 #[.val (.ref p0), .val (.ref p1), .unset] [(.int (1 : Int32)), (.ref p0)])) _
  refine g_iconst X1 hx (1 : Int32) (hb hby d20_17) rfl ?_
  refine g_iadd X1 hx (hb hby d20_18) ?_
  refine g_nameI (v := (2 : Int32)) (by decide) ?_
  refine g_putF X1 hx hZ hown e1 (hw _ (List.mem_of_getElem? (i := 130) rfl)) Via.refl (v' := (.int (2 : Int32))) fm Eqq (Or.inl (hw _ (List.mem_of_getElem? (i := 131) rfl))) (hw _ (List.mem_of_getElem? (i := 72) rfl)) (ty := .int) (by decide) rfl rfl (hb hby d20_19) (fun T2 h2 X2 e2 W2 => ?_)
  have fx3 : Fld Z h2 p0 "java/util/PriorityQueue" "queue" "[Ljava/lang/Object;" (.ref qa) := Fld.other W2 fq (Or.inr (slot_ne (t := (.array (.object "java/lang/Object"))) (t' := .int) (Or.inl (hw _ (List.mem_of_getElem? (i := 97) rfl))) (Or.inl (hw _ (List.mem_of_getElem? (i := 131) rfl))) (by decide) (by decide) (by decide)))
  have fx4 : Fld Z h2 p0 "java/util/PriorityQueue" "size" "I" (.int (1 : Int32)) := Fld.other W2 fs (Or.inr (slot_ne (t := .int) (t' := .int) (Or.inl (hw _ (List.mem_of_getElem? (i := 133) rfl))) (Or.inl (hw _ (List.mem_of_getElem? (i := 131) rfl))) (by decide) (by decide) (by decide)))
  have fx5 : Fld Z h2 p0 "java/util/PriorityQueue" "comparator" "Ljava/util/Comparator;" .null := Fld.other W2 fc (Or.inr (slot_ne (t := (.object "java/util/Comparator")) (t' := .int) (Or.inr (hw _ (List.mem_of_getElem? (i := 99) rfl))) (Or.inl (hw _ (List.mem_of_getElem? (i := 131) rfl))) (by decide) (by decide) (by decide)))
  have fx6 : Exa Z h2 p0 "java/util/PriorityQueue" := Exa.wr W2 Eqq
  have fx7 : Ar Z h2 qa (.object "java/lang/Object") [(.ref y0), .null, .null, .null, .null, .null, .null, .null, .null, .null, .null] := Ar.other Aq W2 nq
  have fx8 : Ovc Z h2 qa "java/lang/Object" := Ovc.wr Oq W2
  have fx9 : Exa Z h2 p1 "java/lang/Long" := Exa.wr W2 E1
  have fx10 : Fld Z h2 p1 "java/lang/Long" "value" "J" (.long (1 : Int64)) := Fld.other W2 fx (Or.inl nx)
  have fx11 : Exa Z h2 y0 "java/lang/Long" := Exa.wr W2 E2
  have fx12 : Fld Z h2 y0 "java/lang/Long" "value" "J" (.long (0 : Int64)) := Fld.other W2 fy (Or.inl ny)
  have fx13 : Fld Z h2 p0 "java/util/PriorityQueue" "modCount" "I" (.int (2 : Int32)) := Fld.same W2 fm
  have N14 := Fr.snoc X2 N0 gp
  have Z15 : n0 ≤ h2.size := by rw [W2.size]; exact Z0
  have K16 : Keep h0 h2 [p0, qa] := Keep.wr K0 W2 (Or.inl (List.mem_of_getElem? (i := 0) rfl))
  show Goes p.tables e below (T2.setTop (mkF m 22 #[.val (.ref p0), .val (.ref p1), .unset] [])) _
  refine g_aloadN X2 hx (hb hby d20_22) rfl rfl ?_
  refine g_getF X2 hx hZ hown e2 (host := "") (Or.inl (hw _ (List.mem_of_getElem? (i := 132) rfl))) Via.refl fx4 (hb hby d20_23) (fun T17 X17 e17 => ?_)
  show Goes p.tables e below (T17.setTop (mkF m 26 #[.val (.ref p0), .val (.ref p1), .unset] [(.int (1 : Int32))])) _
  refine g_istoreN X17 hx (hb hby d20_26) (l' := #[.val (.ref p0), .val (.ref p1), .val (.int (1 : Int32))]) rfl ?_
  refine g_iloadN X17 hx (hb hby d20_27) rfl ?_
  refine g_aloadN X17 hx (hb hby d20_28) rfl rfl ?_
  refine g_getF X17 hx hZ hown e17 (host := "") (Or.inl (hw _ (List.mem_of_getElem? (i := 96) rfl))) Via.refl fx3 (hb hby d20_29) (fun T18 X18 e18 => ?_)
  show Goes p.tables e below (T18.setTop (mkF m 32 #[.val (.ref p0), .val (.ref p1), .val (.int (1 : Int32))] [(.ref qa), (.int (1 : Int32))])) _
  refine g_alen X18 hx hZ e18 fx7 (11 : Int32) (by show (11 : Int32).toInt = ((11 : Nat) : Int); decide) (hb hby d20_32) ?_
  show Goes p.tables e below (T18.setTop (mkF m 33 #[.val (.ref p0), .val (.ref p1), .val (.int (1 : Int32))] [(.int (11 : Int32)), (.int (1 : Int32))])) _
  refine g_icmp_lt X18 hx (hb hby d20_33) (by decide) (pc' := 43) (by decide) (fun _ => ?_) (fun q => absurd (by decide) q)
  show Goes p.tables e below (T18.setTop (mkF m 43 #[.val (.ref p0), .val (.ref p1), .val (.int (1 : Int32))] [])) _
  refine g_aloadN X18 hx (hb hby d20_43) rfl rfl ?_
  refine g_iloadN X18 hx (hb hby d20_44) rfl ?_
  refine g_aloadN X18 hx (hb hby d20_45) rfl rfl ?_
  refine g_callP X18 hx hZ hown (by rw [hml]; rfl) e18 (hw _ (List.mem_of_getElem? (i := 134) rfl)) (hw _ (List.mem_of_getElem? (i := 135) rfl)) (hw _ (List.mem_of_getElem? (i := 137) rfl)) (hw _ (List.mem_of_getElem? (i := 136) rfl)) (hw _ (List.mem_of_getElem? (i := 73) rfl)) (hw _ (List.mem_of_getElem? (i := 138) rfl)) fx6 (rmSU1 l Z a0 hw p0 p1 h2 n0 Z15 y0 qa fx3 fx5 fx9 fx10 fx11 fx12 fx7 fx8 gq) [(.int (1 : Int32)), (.ref p1)] rfl [] rfl (lenOf pd_21 rfl) (hb hby d20_46) (by decide) 0 (by decide) (by decide) (by first | decide | exact Nat.le_refl _) (by decide) (by decide) (fun v T19 L19 X19 hQ19 => ?_)
  obtain ⟨rfl, Nc, Kc, Ac⟩ := hQ19
  have K20 : Keep h0 T19.heap [p0, qa] := K16.trans Kc (allS (Or.inl (List.mem_of_getElem? (i := 1) rfl)) all0)
  have fx21 : Fld Z T19.heap p0 "java/util/PriorityQueue" "queue" "[Ljava/lang/Object;" (.ref qa) := Fld.keep fx3 Kc (ninS (Ne.symm nq) nin0)
  have fx22 : Fld Z T19.heap p0 "java/util/PriorityQueue" "size" "I" (.int (1 : Int32)) := Fld.keep fx4 Kc (ninS (Ne.symm nq) nin0)
  have fx23 : Fld Z T19.heap p0 "java/util/PriorityQueue" "comparator" "Ljava/util/Comparator;" .null := Fld.keep fx5 Kc (ninS (Ne.symm nq) nin0)
  have fx24 : Exa Z T19.heap p0 "java/util/PriorityQueue" := Exa.keep fx6 Kc
  have fx25 : Ovc Z T19.heap qa "java/lang/Object" := Ovc.keep fx8 Kc
  have fx26 : Fld Z T19.heap p0 "java/util/PriorityQueue" "modCount" "I" (.int (2 : Int32)) := Fld.keep fx13 Kc (ninS (Ne.symm nq) nin0)
  have N27 := Fr.app N14 Nc
  have Z28 : n0 ≤ T19.heap.size := Nat.le_trans Z15 Kc.1
  show Goes p.tables e below (T19.setTop (mkF m 49 #[.val (.ref p0), .val (.ref p1), .val (.int (1 : Int32))] [])) _
  refine g_aloadN X19 hx (hb hby d20_49) rfl rfl ?_
  refine g_iloadN X19 hx (hb hby d20_50) rfl ?_
  refine g_iconst X19 hx (1 : Int32) (hb hby d20_51) rfl ?_
  refine g_iadd X19 hx (hb hby d20_52) ?_
  refine g_nameI (v := (2 : Int32)) (by decide) ?_
  refine g_putF X19 hx hZ hown rfl (hw _ (List.mem_of_getElem? (i := 132) rfl)) Via.refl (v' := (.int (2 : Int32))) fx22 fx24 (Or.inl (hw _ (List.mem_of_getElem? (i := 133) rfl))) (hw _ (List.mem_of_getElem? (i := 72) rfl)) (ty := .int) (by decide) rfl rfl (hb hby d20_53) (fun T29 h29 X29 e29 W29 => ?_)
  have fx30 : Fld Z h29 p0 "java/util/PriorityQueue" "queue" "[Ljava/lang/Object;" (.ref qa) := Fld.other W29 fx21 (Or.inr (slot_ne (t := (.array (.object "java/lang/Object"))) (t' := .int) (Or.inl (hw _ (List.mem_of_getElem? (i := 97) rfl))) (Or.inl (hw _ (List.mem_of_getElem? (i := 133) rfl))) (by decide) (by decide) (by decide)))
  have fx31 : Fld Z h29 p0 "java/util/PriorityQueue" "comparator" "Ljava/util/Comparator;" .null := Fld.other W29 fx23 (Or.inr (slot_ne (t := (.object "java/util/Comparator")) (t' := .int) (Or.inr (hw _ (List.mem_of_getElem? (i := 99) rfl))) (Or.inl (hw _ (List.mem_of_getElem? (i := 133) rfl))) (by decide) (by decide) (by decide)))
  have fx32 : Exa Z h29 p0 "java/util/PriorityQueue" := Exa.wr W29 fx24
  have fx33 : Ovc Z h29 qa "java/lang/Object" := Ovc.wr fx25 W29
  have fx34 : Fld Z h29 p0 "java/util/PriorityQueue" "modCount" "I" (.int (2 : Int32)) := Fld.other W29 fx26 (Or.inr (slot_ne (t := .int) (t' := .int) (Or.inl (hw _ (List.mem_of_getElem? (i := 131) rfl))) (Or.inl (hw _ (List.mem_of_getElem? (i := 133) rfl))) (by decide) (by decide) (by decide)))
  have fx35 : Ar Z h29 qa (.object "java/lang/Object") [(.ref y0), (.ref p1), .null, .null, .null, .null, .null, .null, .null, .null, .null] := Ar.other Ac W29 nq
  have fx36 : Fld Z h29 p0 "java/util/PriorityQueue" "size" "I" (.int (2 : Int32)) := Fld.same W29 fx22
  have N37 := Fr.snoc X29 N27 gp
  have Z38 : n0 ≤ h29.size := by rw [W29.size]; exact Z28
  have K39 : Keep h0 h29 [p0, qa] := Keep.wr K20 W29 (Or.inl (List.mem_of_getElem? (i := 0) rfl))
  show Goes p.tables e below (T29.setTop (mkF m 56 #[.val (.ref p0), .val (.ref p1), .val (.int (1 : Int32))] [])) _
  refine g_iconst X29 hx (1 : Int32) (hb hby d20_56) rfl ?_
  exact g_retZ X29 hx (hz := (by decide)) hret hlk (hb hby d20_57) (by decide) (by decide) (by rw [e29]; exact ⟨rfl, N37, K39, fx30, fx36, fx31, fx34, fx35⟩)
theorem ef_rmAd1 (m : MethodId) (p0 : Addr) (p1 : Addr) : entryFrame m #[(.ref p0), (.ref p1)] 2 = mkF m 0 #[.val (.ref p0), .val (.ref p1)] [] := by first | (simp [entryFrame, mkF, argsToLocals, Value.category]; done) | rfl
set_option maxRecDepth 65536 in
set_option maxHeartbeats 40000000 in
theorem rmAd1 (l : Launch) (Z : State) (a0 : Array Value) (hw : ∀ d ∈ tables_1, d.before a0 Z = true) (p0 : Addr) (p1 : Addr) (h0 : Heap) (n0 : Nat) (Z0 : n0 ≤ h0.size) (y0 : Addr) (qa : Addr) (fq : Fld Z h0 p0 "java/util/PriorityQueue" "queue" "[Ljava/lang/Object;" (.ref qa)) (fs : Fld Z h0 p0 "java/util/PriorityQueue" "size" "I" (.int (1 : Int32))) (fc : Fld Z h0 p0 "java/util/PriorityQueue" "comparator" "Ljava/util/Comparator;" .null) (fm : Fld Z h0 p0 "java/util/PriorityQueue" "modCount" "I" (.int (1 : Int32))) (Eqq : Exa Z h0 p0 "java/util/PriorityQueue") (Aq : Ar Z h0 qa (.object "java/lang/Object") [(.ref y0), .null, .null, .null, .null, .null, .null, .null, .null, .null, .null]) (Oq : Ovc Z h0 qa "java/lang/Object") (gp : n0 ≤ p0) (gq : n0 ≤ qa) (nq : qa ≠ p0) (E1 : Exa Z h0 p1 "java/lang/Long") (fx : Fld Z h0 p1 "java/lang/Long" "value" "J" (.long (1 : Int64))) (E2 : Exa Z h0 y0 "java/lang/Long") (fy : Fld Z h0 y0 "java/lang/Long" "value" "J" (.long (0 : Int64))) (nx : p1 ≠ p0) (ny : y0 ≠ p0) :
    Con l Z (⟨"java/util/PriorityQueue", "add", "(Ljava/lang/Object;)Z"⟩ : MethodName) jdk_2655_method_13_code 2 (some .boolean) [] ({ frames := 6, cells := 0, slots := 0, locals := 86 } : Room) 0 0 #[(.ref p0), (.ref p1)] h0 (fun v h L => v = some (.int (1 : Int32)) ∧ Fr n0 L ∧ Keep h0 h [p0, qa] ∧ Fld Z h p0 "java/util/PriorityQueue" "queue" "[Ljava/lang/Object;" (.ref qa) ∧ Fld Z h p0 "java/util/PriorityQueue" "size" "I" (.int (2 : Int32)) ∧ Fld Z h p0 "java/util/PriorityQueue" "comparator" "Ljava/util/Comparator;" .null ∧ Fld Z h p0 "java/util/PriorityQueue" "modCount" "I" (.int (2 : Int32)) ∧ Ar Z h qa (.object "java/lang/Object") [(.ref y0), (.ref p1), .null, .null, .null, .null, .null, .null, .null, .null, .null]) := by
  refine Con.body (plainFor_of_name (by first | (simp [plainName, overriddenIn]; done) | decide +kernel)) ?_
  intro p e s m below meth c T0 hx hby hml hown hnm hZ hret hlk X0 e0
  refine Goes.cast (ef_rmAd1 m p0 p1) ?_
  have N0 := Fr.nil n0
  show Goes p.tables e below (T0.setTop (mkF m 0 #[.val (.ref p0), .val (.ref p1)] [])) _
  refine g_aloadN X0 hx (hb hby d19_0) rfl rfl ?_
  refine g_aloadN X0 hx (hb hby d19_1) rfl rfl ?_
  refine g_callV X0 hx hZ hown (by rw [hml]; rfl) e0 (K := "java/util/PriorityQueue") (hw _ (List.mem_of_getElem? (i := 125) rfl)) (hw _ (List.mem_of_getElem? (i := 126) rfl)) (hw _ (List.mem_of_getElem? (i := 128) rfl)) (hw _ (List.mem_of_getElem? (i := 127) rfl)) (hw _ (List.mem_of_getElem? (i := 73) rfl)) (hw _ (List.mem_of_getElem? (i := 129) rfl)) Eqq (rmOf1 l Z a0 hw p0 p1 h0 n0 Z0 y0 qa fq fs fc fm Eqq Aq Oq gp gq nq E1 fx E2 fy nx ny) [(.ref p1)] rfl [] rfl (lenOf pd_20 rfl) (hb hby d19_2) (by decide) 0 (by decide) (by decide) (by first | decide | exact Nat.le_refl _) (by decide) (by decide) (fun v T1 L1 X1 hQ1 => ?_)
  obtain ⟨rfl, Nc, Kc, q1, q2, q3, q4, q5⟩ := hQ1
  have N2 := Fr.app N0 Nc
  show Goes p.tables e below (T1.setTop (mkF m 5 #[.val (.ref p0), .val (.ref p1)] [(.int (1 : Int32))])) _
  exact g_retZ X1 hx (hz := (by decide)) hret hlk (hb hby d19_5) (by decide) (by decide) ⟨rfl, N2, Kc, q1, q2, q3, q4, q5⟩
theorem ef_rmSD (m : MethodId) (p1 : Addr) (p2 : Addr) : entryFrame m #[(.int (0 : Int32)), (.ref p1), (.ref p2), (.int (1 : Int32))] 9 = mkF m 0 #[.val (.int (0 : Int32)), .val (.ref p1), .val (.ref p2), .val (.int (1 : Int32)), .unset, .unset, .unset, .unset, .unset] [] := by first | (simp [entryFrame, mkF, argsToLocals, Value.category]; done) | rfl
set_option maxRecDepth 65536 in
set_option maxHeartbeats 40000000 in
theorem rmSD (l : Launch) (Z : State) (a0 : Array Value) (hw : ∀ d ∈ tables_1, d.before a0 Z = true) (p1 : Addr) (p2 : Addr) (h0 : Heap) (n0 : Nat) (Z0 : n0 ≤ h0.size) (x0 : Addr) (E1 : Exa Z h0 p1 "java/lang/Long") (Aq : Ar Z h0 p2 (.object "java/lang/Object") [(.ref x0), .null, .null, .null, .null, .null, .null, .null, .null, .null, .null]) (Oq : Ovc Z h0 p2 "java/lang/Object") (gq : n0 ≤ p2) :
    Con l Z (⟨"java/util/PriorityQueue", "siftDownComparable", "(ILjava/lang/Object;[Ljava/lang/Object;I)V"⟩ : MethodName) jdk_2655_method_31_code 9 none [] ({ frames := 0, cells := 0, slots := 0, locals := 0 } : Room) 0 0 #[(.int (0 : Int32)), (.ref p1), (.ref p2), (.int (1 : Int32))] h0 (fun v h L => v = none ∧ Fr n0 L ∧ Keep h0 h [p2] ∧ Ar Z h p2 (.object "java/lang/Object") [(.ref p1), .null, .null, .null, .null, .null, .null, .null, .null, .null, .null]) := by
  refine Con.body (plainFor_of_name (by first | (simp [plainName, overriddenIn]; done) | decide +kernel)) ?_
  intro p e s m below meth c T0 hx hby hml hown hnm hZ hret hlk X0 e0
  refine Goes.cast (ef_rmSD m p1 p2) ?_
  have N0 := Fr.nil n0
  have K0 : Keep h0 h0 [p2] := Keep.refl _ _
  show Goes p.tables e below (T0.setTop (mkF m 0 #[.val (.int (0 : Int32)), .val (.ref p1), .val (.ref p2), .val (.int (1 : Int32)), .unset, .unset, .unset, .unset, .unset] [])) _
  refine g_aloadN X0 hx (hb hby d27_0) rfl rfl ?_
  refine g_cast X0 hx hZ hown e0 (hw _ (List.mem_of_getElem? (i := 142) rfl)) (Ins.of_exa E1 (hw _ (List.mem_of_getElem? (i := 143) rfl))) (hb hby d27_1) (fun T1 X1 e1 => ?_)
  show Goes p.tables e below (T1.setTop (mkF m 4 #[.val (.int (0 : Int32)), .val (.ref p1), .val (.ref p2), .val (.int (1 : Int32)), .unset, .unset, .unset, .unset, .unset] [(.ref p1)])) _
  refine g_astore X1 hx (hb hby d27_4) rfl (l' := #[.val (.int (0 : Int32)), .val (.ref p1), .val (.ref p2), .val (.int (1 : Int32)), .val (.ref p1), .unset, .unset, .unset, .unset]) rfl ?_
  refine g_iloadN X1 hx (hb hby d27_6) rfl ?_
  refine g_iconst X1 hx (1 : Int32) (hb hby d27_7) rfl ?_
  refine g_iushr X1 hx (hb hby d27_8) ?_
  refine g_nameI (v := (0 : Int32)) (by decide) ?_
  refine g_istore X1 hx (hb hby d27_9) (l' := #[.val (.int (0 : Int32)), .val (.ref p1), .val (.ref p2), .val (.int (1 : Int32)), .val (.ref p1), .val (.int (0 : Int32)), .unset, .unset, .unset]) rfl ?_
  refine g_iloadN X1 hx (hb hby d27_11) rfl ?_
  show Goes p.tables e below (T1.setTop (mkF m 12 #[.val (.int (0 : Int32)), .val (.ref p1), .val (.ref p2), .val (.int (1 : Int32)), .val (.ref p1), .val (.int (0 : Int32)), .unset, .unset, .unset] [(.int (0 : Int32))])) _
  refine g_iload X1 hx (hb hby d27_12) rfl ?_
  refine g_icmp_ge X1 hx (hb hby d27_14) (by decide) (pc' := 94) (by decide) (fun _ => ?_) (fun q => absurd q (by decide))
  show Goes p.tables e below (T1.setTop (mkF m 94 #[.val (.int (0 : Int32)), .val (.ref p1), .val (.ref p2), .val (.int (1 : Int32)), .val (.ref p1), .val (.int (0 : Int32)), .unset, .unset, .unset] [])) _
  refine g_aloadN X1 hx (hb hby d27_94) rfl rfl ?_
  refine g_iloadN X1 hx (hb hby d27_95) rfl ?_
  refine g_aload X1 hx (hb hby d27_96) rfl rfl ?_
  refine g_aastore X1 hx hZ e1 Aq rfl (v := (.ref p1)) rfl (Ovc.sto Oq Aq (Ins.of_exa E1 (hw _ (List.mem_of_getElem? (i := 144) rfl)))) 0 (by decide) (by show 0 < 11; decide) (hb hby d27_98) (fun T2 h2 X2 e2 W2 A2 => ?_)
  have fx3 : Exa Z h2 p1 "java/lang/Long" := Exa.wr W2 E1
  have fx4 : Ovc Z h2 p2 "java/lang/Object" := Ovc.wr Oq W2
  have fx5 : Ar Z h2 p2 (.object "java/lang/Object") [(.ref p1), .null, .null, .null, .null, .null, .null, .null, .null, .null, .null] := A2
  have N6 := Fr.snoc X2 N0 gq
  have Z7 : n0 ≤ h2.size := by rw [W2.size]; exact Z0
  have K8 : Keep h0 h2 [p2] := Keep.wr K0 W2 (Or.inl (List.mem_of_getElem? (i := 0) rfl))
  show Goes p.tables e below (T2.setTop (mkF m 99 #[.val (.int (0 : Int32)), .val (.ref p1), .val (.ref p2), .val (.int (1 : Int32)), .val (.ref p1), .val (.int (0 : Int32)), .unset, .unset, .unset] [])) _
  exact g_ret0 X2 hx hret hlk (hb hby d27_99) (by decide) (by decide) (by rw [e2]; exact ⟨rfl, N6, K8, fx5⟩)
theorem ef_rmPo0 (m : MethodId) (p0 : Addr) : entryFrame m #[(.ref p0)] 6 = mkF m 0 #[.val (.ref p0), .unset, .unset, .unset, .unset, .unset] [] := by first | (simp [entryFrame, mkF, argsToLocals, Value.category]; done) | rfl
set_option maxRecDepth 65536 in
set_option maxHeartbeats 40000000 in
theorem rmPo0 (l : Launch) (Z : State) (a0 : Array Value) (hw : ∀ d ∈ tables_1, d.before a0 Z = true) (p0 : Addr) (h0 : Heap) (n0 : Nat) (Z0 : n0 ≤ h0.size) (qa x0 x1 : Addr) (fq : Fld Z h0 p0 "java/util/PriorityQueue" "queue" "[Ljava/lang/Object;" (.ref qa)) (fs : Fld Z h0 p0 "java/util/PriorityQueue" "size" "I" (.int (2 : Int32))) (fc : Fld Z h0 p0 "java/util/PriorityQueue" "comparator" "Ljava/util/Comparator;" .null) (fm : Fld Z h0 p0 "java/util/PriorityQueue" "modCount" "I" (.int (2 : Int32))) (Eqq : Exa Z h0 p0 "java/util/PriorityQueue") (Aq : Ar Z h0 qa (.object "java/lang/Object") [(.ref x0), (.ref x1), .null, .null, .null, .null, .null, .null, .null, .null, .null]) (Oq : Ovc Z h0 qa "java/lang/Object") (gp : n0 ≤ p0) (gq : n0 ≤ qa) (nq : qa ≠ p0) (E1 : Exa Z h0 x1 "java/lang/Long") (n1 : x1 ≠ p0) (n2 : x1 ≠ qa) :
    Con l Z (⟨"java/util/PriorityQueue", "poll", "()Ljava/lang/Object;"⟩ : MethodName) jdk_2655_method_25_code 6 (some (.object "java/lang/Object")) [] ({ frames := 1, cells := 0, slots := 0, locals := 20 } : Room) 0 0 #[(.ref p0)] h0 (fun v h L => v = some (.ref x0) ∧ Fr n0 L ∧ Keep h0 h [p0, qa] ∧ Fld Z h p0 "java/util/PriorityQueue" "queue" "[Ljava/lang/Object;" (.ref qa) ∧ Fld Z h p0 "java/util/PriorityQueue" "size" "I" (.int (1 : Int32)) ∧ Fld Z h p0 "java/util/PriorityQueue" "comparator" "Ljava/util/Comparator;" .null ∧ Fld Z h p0 "java/util/PriorityQueue" "modCount" "I" (.int (3 : Int32)) ∧ Ar Z h qa (.object "java/lang/Object") [(.ref x1), .null, .null, .null, .null, .null, .null, .null, .null, .null, .null]) := by
  refine Con.body (plainFor_of_name (by first | (simp [plainName, overriddenIn]; done) | decide +kernel)) ?_
  intro p e s m below meth c T0 hx hby hml hown hnm hZ hret hlk X0 e0
  refine Goes.cast (ef_rmPo0 m p0) ?_
  have N0 := Fr.nil n0
  have K0 : Keep h0 h0 [p0, qa] := Keep.refl _ _
  show Goes p.tables e below (T0.setTop (mkF m 0 #[.val (.ref p0), .unset, .unset, .unset, .unset, .unset] [])) _
  refine g_aloadN X0 hx (hb hby d26_0) rfl rfl ?_
  refine g_getF X0 hx hZ hown e0 (host := "") (Or.inl (hw _ (List.mem_of_getElem? (i := 96) rfl))) Via.refl fq (hb hby d26_1) (fun T1 X1 e1 => ?_)
  show Goes p.tables e below (T1.setTop (mkF m 4 #[.val (.ref p0), .unset, .unset, .unset, .unset, .unset] [(.ref qa)])) _
  refine g_dup X1 hx (hb hby d26_4) rfl ?_
  refine g_astoreN X1 hx (hb hby d26_5) rfl (l' := #[.val (.ref p0), .val (.ref qa), .unset, .unset, .unset, .unset]) rfl ?_
  refine g_iconst X1 hx (0 : Int32) (hb hby d26_6) rfl ?_
  refine g_aaload X1 hx hZ e1 Aq rfl (i := 0) (v := (.ref x0)) (by decide) rfl (hb hby d26_7) ?_
  show Goes p.tables e below (T1.setTop (mkF m 8 #[.val (.ref p0), .val (.ref qa), .unset, .unset, .unset, .unset] [(.ref x0)])) _
  refine g_dup X1 hx (hb hby d26_8) rfl ?_
  refine g_astoreN X1 hx (hb hby d26_9) rfl (l' := #[.val (.ref p0), .val (.ref qa), .val (.ref x0), .unset, .unset, .unset]) rfl ?_
  refine g_ifnull_ref X1 hx (hb hby d26_10) ?_
  refine g_aloadN X1 hx (hb hby d26_13) rfl rfl ?_
  refine g_dup X1 hx (hb hby d26_14) rfl ?_
  refine g_getF X1 hx hZ hown e1 (host := "") (Or.inl (hw _ (List.mem_of_getElem? (i := 130) rfl))) Via.refl fm (hb hby d26_15) (fun T2 X2 e2 => ?_)
  show Goes p.tables e below (T2.setTop (mkF m 18 #[.val (.ref p0), .val (.ref qa), .val (.ref x0), .unset, .unset, .unset] [(.int (2 : Int32)), (.ref p0)])) _
  refine g_iconst X2 hx (1 : Int32) (hb hby d26_18) rfl ?_
  refine g_iadd X2 hx (hb hby d26_19) ?_
  refine g_nameI (v := (3 : Int32)) (by decide) ?_
  refine g_putF X2 hx hZ hown e2 (hw _ (List.mem_of_getElem? (i := 130) rfl)) Via.refl (v' := (.int (3 : Int32))) fm Eqq (Or.inl (hw _ (List.mem_of_getElem? (i := 131) rfl))) (hw _ (List.mem_of_getElem? (i := 72) rfl)) (ty := .int) (by decide) rfl rfl (hb hby d26_20) (fun T3 h3 X3 e3 W3 => ?_)
  have fx4 : Fld Z h3 p0 "java/util/PriorityQueue" "queue" "[Ljava/lang/Object;" (.ref qa) := Fld.other W3 fq (Or.inr (slot_ne (t := (.array (.object "java/lang/Object"))) (t' := .int) (Or.inl (hw _ (List.mem_of_getElem? (i := 97) rfl))) (Or.inl (hw _ (List.mem_of_getElem? (i := 131) rfl))) (by decide) (by decide) (by decide)))
  have fx5 : Fld Z h3 p0 "java/util/PriorityQueue" "size" "I" (.int (2 : Int32)) := Fld.other W3 fs (Or.inr (slot_ne (t := .int) (t' := .int) (Or.inl (hw _ (List.mem_of_getElem? (i := 133) rfl))) (Or.inl (hw _ (List.mem_of_getElem? (i := 131) rfl))) (by decide) (by decide) (by decide)))
  have fx6 : Fld Z h3 p0 "java/util/PriorityQueue" "comparator" "Ljava/util/Comparator;" .null := Fld.other W3 fc (Or.inr (slot_ne (t := (.object "java/util/Comparator")) (t' := .int) (Or.inr (hw _ (List.mem_of_getElem? (i := 99) rfl))) (Or.inl (hw _ (List.mem_of_getElem? (i := 131) rfl))) (by decide) (by decide) (by decide)))
  have fx7 : Exa Z h3 p0 "java/util/PriorityQueue" := Exa.wr W3 Eqq
  have fx8 : Ar Z h3 qa (.object "java/lang/Object") [(.ref x0), (.ref x1), .null, .null, .null, .null, .null, .null, .null, .null, .null] := Ar.other Aq W3 nq
  have fx9 : Ovc Z h3 qa "java/lang/Object" := Ovc.wr Oq W3
  have fx10 : Exa Z h3 x1 "java/lang/Long" := Exa.wr W3 E1
  have fx11 : Fld Z h3 p0 "java/util/PriorityQueue" "modCount" "I" (.int (3 : Int32)) := Fld.same W3 fm
  have N12 := Fr.snoc X3 N0 gp
  have Z13 : n0 ≤ h3.size := by rw [W3.size]; exact Z0
  have K14 : Keep h0 h3 [p0, qa] := Keep.wr K0 W3 (Or.inl (List.mem_of_getElem? (i := 0) rfl))
  show Goes p.tables e below (T3.setTop (mkF m 23 #[.val (.ref p0), .val (.ref qa), .val (.ref x0), .unset, .unset, .unset] [])) _
  refine g_aloadN X3 hx (hb hby d26_23) rfl rfl ?_
  refine g_aloadN X3 hx (hb hby d26_24) rfl rfl ?_
  refine g_dup X3 hx (hb hby d26_25) rfl ?_
  refine g_getF X3 hx hZ hown e3 (host := "") (Or.inl (hw _ (List.mem_of_getElem? (i := 132) rfl))) Via.refl fx5 (hb hby d26_26) (fun T15 X15 e15 => ?_)
  show Goes p.tables e below (T15.setTop (mkF m 29 #[.val (.ref p0), .val (.ref qa), .val (.ref x0), .unset, .unset, .unset] [(.int (2 : Int32)), (.ref p0), (.ref qa)])) _
  refine g_iconst X15 hx (1 : Int32) (hb hby d26_29) rfl ?_
  refine g_isub X15 hx (hb hby d26_30) ?_
  refine g_nameI (v := (1 : Int32)) (by decide) ?_
  refine g_dupX1 X15 hx (hb hby d26_31) rfl rfl ?_
  refine g_putF X15 hx hZ hown e15 (hw _ (List.mem_of_getElem? (i := 132) rfl)) Via.refl (v' := (.int (1 : Int32))) fx5 fx7 (Or.inl (hw _ (List.mem_of_getElem? (i := 133) rfl))) (hw _ (List.mem_of_getElem? (i := 72) rfl)) (ty := .int) (by decide) rfl rfl (hb hby d26_32) (fun T16 h16 X16 e16 W16 => ?_)
  have fx17 : Fld Z h16 p0 "java/util/PriorityQueue" "queue" "[Ljava/lang/Object;" (.ref qa) := Fld.other W16 fx4 (Or.inr (slot_ne (t := (.array (.object "java/lang/Object"))) (t' := .int) (Or.inl (hw _ (List.mem_of_getElem? (i := 97) rfl))) (Or.inl (hw _ (List.mem_of_getElem? (i := 133) rfl))) (by decide) (by decide) (by decide)))
  have fx18 : Fld Z h16 p0 "java/util/PriorityQueue" "comparator" "Ljava/util/Comparator;" .null := Fld.other W16 fx6 (Or.inr (slot_ne (t := (.object "java/util/Comparator")) (t' := .int) (Or.inr (hw _ (List.mem_of_getElem? (i := 99) rfl))) (Or.inl (hw _ (List.mem_of_getElem? (i := 133) rfl))) (by decide) (by decide) (by decide)))
  have fx19 : Exa Z h16 p0 "java/util/PriorityQueue" := Exa.wr W16 fx7
  have fx20 : Ar Z h16 qa (.object "java/lang/Object") [(.ref x0), (.ref x1), .null, .null, .null, .null, .null, .null, .null, .null, .null] := Ar.other fx8 W16 nq
  have fx21 : Ovc Z h16 qa "java/lang/Object" := Ovc.wr fx9 W16
  have fx22 : Exa Z h16 x1 "java/lang/Long" := Exa.wr W16 fx10
  have fx23 : Fld Z h16 p0 "java/util/PriorityQueue" "modCount" "I" (.int (3 : Int32)) := Fld.other W16 fx11 (Or.inr (slot_ne (t := .int) (t' := .int) (Or.inl (hw _ (List.mem_of_getElem? (i := 131) rfl))) (Or.inl (hw _ (List.mem_of_getElem? (i := 133) rfl))) (by decide) (by decide) (by decide)))
  have fx24 : Fld Z h16 p0 "java/util/PriorityQueue" "size" "I" (.int (1 : Int32)) := Fld.same W16 fx5
  have N25 := Fr.snoc X16 N12 gp
  have Z26 : n0 ≤ h16.size := by rw [W16.size]; exact Z13
  have K27 : Keep h0 h16 [p0, qa] := Keep.wr K14 W16 (Or.inl (List.mem_of_getElem? (i := 0) rfl))
  show Goes p.tables e below (T16.setTop (mkF m 35 #[.val (.ref p0), .val (.ref qa), .val (.ref x0), .unset, .unset, .unset] [(.int (1 : Int32)), (.ref qa)])) _
  refine g_dup X16 hx (hb hby d26_35) rfl ?_
  refine g_istoreN X16 hx (hb hby d26_36) (l' := #[.val (.ref p0), .val (.ref qa), .val (.ref x0), .val (.int (1 : Int32)), .unset, .unset]) rfl ?_
  refine g_aaload X16 hx hZ e16 fx20 rfl (i := 1) (v := (.ref x1)) (by decide) rfl (hb hby d26_37) ?_
  show Goes p.tables e below (T16.setTop (mkF m 38 #[.val (.ref p0), .val (.ref qa), .val (.ref x0), .val (.int (1 : Int32)), .unset, .unset] [(.ref x1)])) _
  refine g_astore X16 hx (hb hby d26_38) rfl (l' := #[.val (.ref p0), .val (.ref qa), .val (.ref x0), .val (.int (1 : Int32)), .val (.ref x1), .unset]) rfl ?_
  refine g_aloadN X16 hx (hb hby d26_40) rfl rfl ?_
  refine g_iloadN X16 hx (hb hby d26_41) rfl ?_
  refine g_null X16 hx (hb hby d26_42) ?_
  refine g_aastore X16 hx hZ e16 fx20 rfl (v := .null) rfl (Or.inl rfl) 1 (by decide) (by show 1 < 11; decide) (hb hby d26_43) (fun T28 h28 X28 e28 W28 A28 => ?_)
  have fx29 : Fld Z h28 p0 "java/util/PriorityQueue" "queue" "[Ljava/lang/Object;" (.ref qa) := Fld.other W28 fx17 (Or.inl (Ne.symm nq))
  have fx30 : Fld Z h28 p0 "java/util/PriorityQueue" "comparator" "Ljava/util/Comparator;" .null := Fld.other W28 fx18 (Or.inl (Ne.symm nq))
  have fx31 : Exa Z h28 p0 "java/util/PriorityQueue" := Exa.wr W28 fx19
  have fx32 : Ovc Z h28 qa "java/lang/Object" := Ovc.wr fx21 W28
  have fx33 : Exa Z h28 x1 "java/lang/Long" := Exa.wr W28 fx22
  have fx34 : Fld Z h28 p0 "java/util/PriorityQueue" "modCount" "I" (.int (3 : Int32)) := Fld.other W28 fx23 (Or.inl (Ne.symm nq))
  have fx35 : Fld Z h28 p0 "java/util/PriorityQueue" "size" "I" (.int (1 : Int32)) := Fld.other W28 fx24 (Or.inl (Ne.symm nq))
  have fx36 : Ar Z h28 qa (.object "java/lang/Object") [(.ref x0), .null, .null, .null, .null, .null, .null, .null, .null, .null, .null] := A28
  have N37 := Fr.snoc X28 N25 gq
  have Z38 : n0 ≤ h28.size := by rw [W28.size]; exact Z26
  have K39 : Keep h0 h28 [p0, qa] := Keep.wr K27 W28 (Or.inl (List.mem_of_getElem? (i := 1) rfl))
  show Goes p.tables e below (T28.setTop (mkF m 44 #[.val (.ref p0), .val (.ref qa), .val (.ref x0), .val (.int (1 : Int32)), .val (.ref x1), .unset] [])) _
  refine g_iloadN X28 hx (hb hby d26_44) rfl ?_
  refine g_if_le X28 hx (hb hby d26_45) (by decide) (pc' := 79) (by decide) (fun q => absurd (by decide) q) (fun _ => ?_)
  show Goes p.tables e below (T28.setTop (mkF m 48 #[.val (.ref p0), .val (.ref qa), .val (.ref x0), .val (.int (1 : Int32)), .val (.ref x1), .unset] [])) _
  refine g_aloadN X28 hx (hb hby d26_48) rfl rfl ?_
  refine g_getF X28 hx hZ hown e28 (host := "") (Or.inl (hw _ (List.mem_of_getElem? (i := 98) rfl))) Via.refl fx30 (hb hby d26_49) (fun T40 X40 e40 => ?_)
  show Goes p.tables e below (T40.setTop (mkF m 52 #[.val (.ref p0), .val (.ref qa), .val (.ref x0), .val (.int (1 : Int32)), .val (.ref x1), .unset] [.null])) _
  refine g_dup X40 hx (hb hby d26_52) rfl ?_
  refine g_astore X40 hx (hb hby d26_53) rfl (l' := #[.val (.ref p0), .val (.ref qa), .val (.ref x0), .val (.int (1 : Int32)), .val (.ref x1), .val .null]) rfl ?_
  refine g_ifnonnull_null X40 hx (hb hby d26_55) ?_
  refine g_iconst X40 hx (0 : Int32) (hb hby d26_58) rfl ?_
  refine g_aload X40 hx (hb hby d26_59) rfl rfl ?_
  refine g_aloadN X40 hx (hb hby d26_61) rfl rfl ?_
  show Goes p.tables e below (T40.setTop (mkF m 62 #[.val (.ref p0), .val (.ref qa), .val (.ref x0), .val (.int (1 : Int32)), .val (.ref x1), .val .null] [(.ref qa), (.ref x1), (.int (0 : Int32))])) _
  refine g_iloadN X40 hx (hb hby d26_62) rfl ?_
  refine g_callS X40 hx hZ hown (by rw [hml]; rfl) e40 (hw _ (List.mem_of_getElem? (i := 171) rfl)) (hw _ (List.mem_of_getElem? (i := 172) rfl)) (hw _ (List.mem_of_getElem? (i := 73) rfl)) (hw _ (List.mem_of_getElem? (i := 173) rfl)) (rmSD l Z a0 hw x1 qa h28 n0 Z38 x0 fx33 fx36 fx32 gq) [(.int (0 : Int32)), (.ref x1), (.ref qa), (.int (1 : Int32))] rfl [] rfl (lenOf pd_27 rfl) (hb hby d26_63) (by decide) 0 (by decide) (by decide) (by first | decide | exact Nat.le_refl _) (by decide) (by decide) (fun v T41 L41 X41 hQ41 => ?_)
  obtain ⟨rfl, Nc, Kc, Ac⟩ := hQ41
  have K42 : Keep h0 T41.heap [p0, qa] := K39.trans Kc (allS (Or.inl (List.mem_of_getElem? (i := 1) rfl)) all0)
  have fx43 : Fld Z T41.heap p0 "java/util/PriorityQueue" "queue" "[Ljava/lang/Object;" (.ref qa) := Fld.keep fx29 Kc (ninS (Ne.symm nq) nin0)
  have fx44 : Fld Z T41.heap p0 "java/util/PriorityQueue" "comparator" "Ljava/util/Comparator;" .null := Fld.keep fx30 Kc (ninS (Ne.symm nq) nin0)
  have fx45 : Exa Z T41.heap p0 "java/util/PriorityQueue" := Exa.keep fx31 Kc
  have fx46 : Ovc Z T41.heap qa "java/lang/Object" := Ovc.keep fx32 Kc
  have fx47 : Fld Z T41.heap p0 "java/util/PriorityQueue" "modCount" "I" (.int (3 : Int32)) := Fld.keep fx34 Kc (ninS (Ne.symm nq) nin0)
  have fx48 : Fld Z T41.heap p0 "java/util/PriorityQueue" "size" "I" (.int (1 : Int32)) := Fld.keep fx35 Kc (ninS (Ne.symm nq) nin0)
  have N49 := Fr.app N37 Nc
  have Z50 : n0 ≤ T41.heap.size := Nat.le_trans Z38 Kc.1
  show Goes p.tables e below (T41.setTop (mkF m 66 #[.val (.ref p0), .val (.ref qa), .val (.ref x0), .val (.int (1 : Int32)), .val (.ref x1), .val .null] [])) _
  refine g_goto X41 hx (hb hby d26_66) (by decide) (pc' := 79) (by decide) ?_
  refine g_aloadN X41 hx (hb hby d26_79) rfl rfl ?_
  exact g_retA X41 hx hret hlk rfl rfl (hb hby d26_80) (by decide) (by decide) ⟨rfl, N49, K42, fx43, fx48, fx44, fx47, Ac⟩
theorem ef_rmPo1 (m : MethodId) (p0 : Addr) : entryFrame m #[(.ref p0)] 6 = mkF m 0 #[.val (.ref p0), .unset, .unset, .unset, .unset, .unset] [] := by first | (simp [entryFrame, mkF, argsToLocals, Value.category]; done) | rfl
set_option maxRecDepth 65536 in
set_option maxHeartbeats 40000000 in
theorem rmPo1 (l : Launch) (Z : State) (a0 : Array Value) (hw : ∀ d ∈ tables_1, d.before a0 Z = true) (p0 : Addr) (h0 : Heap) (n0 : Nat) (Z0 : n0 ≤ h0.size) (qa x0 x1 : Addr) (fq : Fld Z h0 p0 "java/util/PriorityQueue" "queue" "[Ljava/lang/Object;" (.ref qa)) (fs : Fld Z h0 p0 "java/util/PriorityQueue" "size" "I" (.int (1 : Int32))) (fc : Fld Z h0 p0 "java/util/PriorityQueue" "comparator" "Ljava/util/Comparator;" .null) (fm : Fld Z h0 p0 "java/util/PriorityQueue" "modCount" "I" (.int (3 : Int32))) (Eqq : Exa Z h0 p0 "java/util/PriorityQueue") (Aq : Ar Z h0 qa (.object "java/lang/Object") [(.ref x1), .null, .null, .null, .null, .null, .null, .null, .null, .null, .null]) (Oq : Ovc Z h0 qa "java/lang/Object") (gp : n0 ≤ p0) (gq : n0 ≤ qa) (nq : qa ≠ p0) :
    Con l Z (⟨"java/util/PriorityQueue", "poll", "()Ljava/lang/Object;"⟩ : MethodName) jdk_2655_method_25_code 6 (some (.object "java/lang/Object")) [] ({ frames := 1, cells := 0, slots := 0, locals := 20 } : Room) 0 0 #[(.ref p0)] h0 (fun v h L => v = some (.ref x1) ∧ Fr n0 L ∧ Keep h0 h [p0, qa] ∧ Fld Z h p0 "java/util/PriorityQueue" "queue" "[Ljava/lang/Object;" (.ref qa) ∧ Fld Z h p0 "java/util/PriorityQueue" "size" "I" (.int (0 : Int32)) ∧ Fld Z h p0 "java/util/PriorityQueue" "comparator" "Ljava/util/Comparator;" .null ∧ Fld Z h p0 "java/util/PriorityQueue" "modCount" "I" (.int (4 : Int32)) ∧ Ar Z h qa (.object "java/lang/Object") [.null, .null, .null, .null, .null, .null, .null, .null, .null, .null, .null]) := by
  refine Con.body (plainFor_of_name (by first | (simp [plainName, overriddenIn]; done) | decide +kernel)) ?_
  intro p e s m below meth c T0 hx hby hml hown hnm hZ hret hlk X0 e0
  refine Goes.cast (ef_rmPo1 m p0) ?_
  have N0 := Fr.nil n0
  have K0 : Keep h0 h0 [p0, qa] := Keep.refl _ _
  show Goes p.tables e below (T0.setTop (mkF m 0 #[.val (.ref p0), .unset, .unset, .unset, .unset, .unset] [])) _
  refine g_aloadN X0 hx (hb hby d26_0) rfl rfl ?_
  refine g_getF X0 hx hZ hown e0 (host := "") (Or.inl (hw _ (List.mem_of_getElem? (i := 96) rfl))) Via.refl fq (hb hby d26_1) (fun T1 X1 e1 => ?_)
  show Goes p.tables e below (T1.setTop (mkF m 4 #[.val (.ref p0), .unset, .unset, .unset, .unset, .unset] [(.ref qa)])) _
  refine g_dup X1 hx (hb hby d26_4) rfl ?_
  refine g_astoreN X1 hx (hb hby d26_5) rfl (l' := #[.val (.ref p0), .val (.ref qa), .unset, .unset, .unset, .unset]) rfl ?_
  refine g_iconst X1 hx (0 : Int32) (hb hby d26_6) rfl ?_
  refine g_aaload X1 hx hZ e1 Aq rfl (i := 0) (v := (.ref x1)) (by decide) rfl (hb hby d26_7) ?_
  show Goes p.tables e below (T1.setTop (mkF m 8 #[.val (.ref p0), .val (.ref qa), .unset, .unset, .unset, .unset] [(.ref x1)])) _
  refine g_dup X1 hx (hb hby d26_8) rfl ?_
  refine g_astoreN X1 hx (hb hby d26_9) rfl (l' := #[.val (.ref p0), .val (.ref qa), .val (.ref x1), .unset, .unset, .unset]) rfl ?_
  refine g_ifnull_ref X1 hx (hb hby d26_10) ?_
  refine g_aloadN X1 hx (hb hby d26_13) rfl rfl ?_
  refine g_dup X1 hx (hb hby d26_14) rfl ?_
  refine g_getF X1 hx hZ hown e1 (host := "") (Or.inl (hw _ (List.mem_of_getElem? (i := 130) rfl))) Via.refl fm (hb hby d26_15) (fun T2 X2 e2 => ?_)
  show Goes p.tables e below (T2.setTop (mkF m 18 #[.val (.ref p0), .val (.ref qa), .val (.ref x1), .unset, .unset, .unset] [(.int (3 : Int32)), (.ref p0)])) _
  refine g_iconst X2 hx (1 : Int32) (hb hby d26_18) rfl ?_
  refine g_iadd X2 hx (hb hby d26_19) ?_
  refine g_nameI (v := (4 : Int32)) (by decide) ?_
  refine g_putF X2 hx hZ hown e2 (hw _ (List.mem_of_getElem? (i := 130) rfl)) Via.refl (v' := (.int (4 : Int32))) fm Eqq (Or.inl (hw _ (List.mem_of_getElem? (i := 131) rfl))) (hw _ (List.mem_of_getElem? (i := 72) rfl)) (ty := .int) (by decide) rfl rfl (hb hby d26_20) (fun T3 h3 X3 e3 W3 => ?_)
  have fx4 : Fld Z h3 p0 "java/util/PriorityQueue" "queue" "[Ljava/lang/Object;" (.ref qa) := Fld.other W3 fq (Or.inr (slot_ne (t := (.array (.object "java/lang/Object"))) (t' := .int) (Or.inl (hw _ (List.mem_of_getElem? (i := 97) rfl))) (Or.inl (hw _ (List.mem_of_getElem? (i := 131) rfl))) (by decide) (by decide) (by decide)))
  have fx5 : Fld Z h3 p0 "java/util/PriorityQueue" "size" "I" (.int (1 : Int32)) := Fld.other W3 fs (Or.inr (slot_ne (t := .int) (t' := .int) (Or.inl (hw _ (List.mem_of_getElem? (i := 133) rfl))) (Or.inl (hw _ (List.mem_of_getElem? (i := 131) rfl))) (by decide) (by decide) (by decide)))
  have fx6 : Fld Z h3 p0 "java/util/PriorityQueue" "comparator" "Ljava/util/Comparator;" .null := Fld.other W3 fc (Or.inr (slot_ne (t := (.object "java/util/Comparator")) (t' := .int) (Or.inr (hw _ (List.mem_of_getElem? (i := 99) rfl))) (Or.inl (hw _ (List.mem_of_getElem? (i := 131) rfl))) (by decide) (by decide) (by decide)))
  have fx7 : Exa Z h3 p0 "java/util/PriorityQueue" := Exa.wr W3 Eqq
  have fx8 : Ar Z h3 qa (.object "java/lang/Object") [(.ref x1), .null, .null, .null, .null, .null, .null, .null, .null, .null, .null] := Ar.other Aq W3 nq
  have fx9 : Ovc Z h3 qa "java/lang/Object" := Ovc.wr Oq W3
  have fx10 : Fld Z h3 p0 "java/util/PriorityQueue" "modCount" "I" (.int (4 : Int32)) := Fld.same W3 fm
  have N11 := Fr.snoc X3 N0 gp
  have Z12 : n0 ≤ h3.size := by rw [W3.size]; exact Z0
  have K13 : Keep h0 h3 [p0, qa] := Keep.wr K0 W3 (Or.inl (List.mem_of_getElem? (i := 0) rfl))
  show Goes p.tables e below (T3.setTop (mkF m 23 #[.val (.ref p0), .val (.ref qa), .val (.ref x1), .unset, .unset, .unset] [])) _
  refine g_aloadN X3 hx (hb hby d26_23) rfl rfl ?_
  refine g_aloadN X3 hx (hb hby d26_24) rfl rfl ?_
  refine g_dup X3 hx (hb hby d26_25) rfl ?_
  refine g_getF X3 hx hZ hown e3 (host := "") (Or.inl (hw _ (List.mem_of_getElem? (i := 132) rfl))) Via.refl fx5 (hb hby d26_26) (fun T14 X14 e14 => ?_)
  show Goes p.tables e below (T14.setTop (mkF m 29 #[.val (.ref p0), .val (.ref qa), .val (.ref x1), .unset, .unset, .unset] [(.int (1 : Int32)), (.ref p0), (.ref qa)])) _
  refine g_iconst X14 hx (1 : Int32) (hb hby d26_29) rfl ?_
  refine g_isub X14 hx (hb hby d26_30) ?_
  refine g_nameI (v := (0 : Int32)) (by decide) ?_
  refine g_dupX1 X14 hx (hb hby d26_31) rfl rfl ?_
  refine g_putF X14 hx hZ hown e14 (hw _ (List.mem_of_getElem? (i := 132) rfl)) Via.refl (v' := (.int (0 : Int32))) fx5 fx7 (Or.inl (hw _ (List.mem_of_getElem? (i := 133) rfl))) (hw _ (List.mem_of_getElem? (i := 72) rfl)) (ty := .int) (by decide) rfl rfl (hb hby d26_32) (fun T15 h15 X15 e15 W15 => ?_)
  have fx16 : Fld Z h15 p0 "java/util/PriorityQueue" "queue" "[Ljava/lang/Object;" (.ref qa) := Fld.other W15 fx4 (Or.inr (slot_ne (t := (.array (.object "java/lang/Object"))) (t' := .int) (Or.inl (hw _ (List.mem_of_getElem? (i := 97) rfl))) (Or.inl (hw _ (List.mem_of_getElem? (i := 133) rfl))) (by decide) (by decide) (by decide)))
  have fx17 : Fld Z h15 p0 "java/util/PriorityQueue" "comparator" "Ljava/util/Comparator;" .null := Fld.other W15 fx6 (Or.inr (slot_ne (t := (.object "java/util/Comparator")) (t' := .int) (Or.inr (hw _ (List.mem_of_getElem? (i := 99) rfl))) (Or.inl (hw _ (List.mem_of_getElem? (i := 133) rfl))) (by decide) (by decide) (by decide)))
  have fx18 : Exa Z h15 p0 "java/util/PriorityQueue" := Exa.wr W15 fx7
  have fx19 : Ar Z h15 qa (.object "java/lang/Object") [(.ref x1), .null, .null, .null, .null, .null, .null, .null, .null, .null, .null] := Ar.other fx8 W15 nq
  have fx20 : Ovc Z h15 qa "java/lang/Object" := Ovc.wr fx9 W15
  have fx21 : Fld Z h15 p0 "java/util/PriorityQueue" "modCount" "I" (.int (4 : Int32)) := Fld.other W15 fx10 (Or.inr (slot_ne (t := .int) (t' := .int) (Or.inl (hw _ (List.mem_of_getElem? (i := 131) rfl))) (Or.inl (hw _ (List.mem_of_getElem? (i := 133) rfl))) (by decide) (by decide) (by decide)))
  have fx22 : Fld Z h15 p0 "java/util/PriorityQueue" "size" "I" (.int (0 : Int32)) := Fld.same W15 fx5
  have N23 := Fr.snoc X15 N11 gp
  have Z24 : n0 ≤ h15.size := by rw [W15.size]; exact Z12
  have K25 : Keep h0 h15 [p0, qa] := Keep.wr K13 W15 (Or.inl (List.mem_of_getElem? (i := 0) rfl))
  show Goes p.tables e below (T15.setTop (mkF m 35 #[.val (.ref p0), .val (.ref qa), .val (.ref x1), .unset, .unset, .unset] [(.int (0 : Int32)), (.ref qa)])) _
  refine g_dup X15 hx (hb hby d26_35) rfl ?_
  refine g_istoreN X15 hx (hb hby d26_36) (l' := #[.val (.ref p0), .val (.ref qa), .val (.ref x1), .val (.int (0 : Int32)), .unset, .unset]) rfl ?_
  refine g_aaload X15 hx hZ e15 fx19 rfl (i := 0) (v := (.ref x1)) (by decide) rfl (hb hby d26_37) ?_
  show Goes p.tables e below (T15.setTop (mkF m 38 #[.val (.ref p0), .val (.ref qa), .val (.ref x1), .val (.int (0 : Int32)), .unset, .unset] [(.ref x1)])) _
  refine g_astore X15 hx (hb hby d26_38) rfl (l' := #[.val (.ref p0), .val (.ref qa), .val (.ref x1), .val (.int (0 : Int32)), .val (.ref x1), .unset]) rfl ?_
  refine g_aloadN X15 hx (hb hby d26_40) rfl rfl ?_
  refine g_iloadN X15 hx (hb hby d26_41) rfl ?_
  refine g_null X15 hx (hb hby d26_42) ?_
  refine g_aastore X15 hx hZ e15 fx19 rfl (v := .null) rfl (Or.inl rfl) 0 (by decide) (by show 0 < 11; decide) (hb hby d26_43) (fun T26 h26 X26 e26 W26 A26 => ?_)
  have fx27 : Fld Z h26 p0 "java/util/PriorityQueue" "queue" "[Ljava/lang/Object;" (.ref qa) := Fld.other W26 fx16 (Or.inl (Ne.symm nq))
  have fx28 : Fld Z h26 p0 "java/util/PriorityQueue" "comparator" "Ljava/util/Comparator;" .null := Fld.other W26 fx17 (Or.inl (Ne.symm nq))
  have fx29 : Exa Z h26 p0 "java/util/PriorityQueue" := Exa.wr W26 fx18
  have fx30 : Ovc Z h26 qa "java/lang/Object" := Ovc.wr fx20 W26
  have fx31 : Fld Z h26 p0 "java/util/PriorityQueue" "modCount" "I" (.int (4 : Int32)) := Fld.other W26 fx21 (Or.inl (Ne.symm nq))
  have fx32 : Fld Z h26 p0 "java/util/PriorityQueue" "size" "I" (.int (0 : Int32)) := Fld.other W26 fx22 (Or.inl (Ne.symm nq))
  have fx33 : Ar Z h26 qa (.object "java/lang/Object") [.null, .null, .null, .null, .null, .null, .null, .null, .null, .null, .null] := A26
  have N34 := Fr.snoc X26 N23 gq
  have Z35 : n0 ≤ h26.size := by rw [W26.size]; exact Z24
  have K36 : Keep h0 h26 [p0, qa] := Keep.wr K25 W26 (Or.inl (List.mem_of_getElem? (i := 1) rfl))
  show Goes p.tables e below (T26.setTop (mkF m 44 #[.val (.ref p0), .val (.ref qa), .val (.ref x1), .val (.int (0 : Int32)), .val (.ref x1), .unset] [])) _
  refine g_iloadN X26 hx (hb hby d26_44) rfl ?_
  refine g_if_le X26 hx (hb hby d26_45) (by decide) (pc' := 79) (by decide) (fun _ => ?_) (fun q => absurd q (by decide))
  show Goes p.tables e below (T26.setTop (mkF m 79 #[.val (.ref p0), .val (.ref qa), .val (.ref x1), .val (.int (0 : Int32)), .val (.ref x1), .unset] [])) _
  refine g_aloadN X26 hx (hb hby d26_79) rfl rfl ?_
  exact g_retA X26 hx hret hlk rfl rfl (hb hby d26_80) (by decide) (by decide) (by rw [e26]; exact ⟨rfl, N34, K36, fx27, fx32, fx28, fx31, fx33⟩)
theorem ef_rmABC (m : MethodId) (p0 : Addr) : entryFrame m #[(.ref p0)] 1 = mkF m 0 #[.val (.ref p0)] [] := by first | (simp [entryFrame, mkF, argsToLocals, Value.category]; done) | rfl
set_option maxRecDepth 65536 in
set_option maxHeartbeats 40000000 in
theorem rmABC (l : Launch) (Z : State) (a0 : Array Value) (hw : ∀ d ∈ tables_1, d.before a0 Z = true) (p0 : Addr) (h0 : Heap) (n0 : Nat) (Z0 : n0 ≤ h0.size)  :
    Con l Z (⟨"java/util/AbstractCollection", "<init>", "()V"⟩ : MethodName) jdk_22_method_1_code 1 none [] ({ frames := 1, cells := 0, slots := 0, locals := 12 } : Room) 0 0 #[(.ref p0)] h0 (fun v h L => v = none ∧ h = h0 ∧ L = []) := by
  refine Con.body (plainFor_of_name (by first | (simp [plainName, overriddenIn]; done) | decide +kernel)) ?_
  intro p e s m below meth c T0 hx hby hml hown hnm hZ hret hlk X0 e0
  refine Goes.cast (ef_rmABC m p0) ?_
  have N0 := Fr.nil n0
  show Goes p.tables e below (T0.setTop (mkF m 0 #[.val (.ref p0)] [])) _
  refine g_aloadN X0 hx (hb hby d14_0) rfl rfl ?_
  refine g_init0 X0 hx hZ hown (by rw [hml]; rfl) e0 (hw _ (List.mem_of_getElem? (i := 93) rfl)) (hw _ (List.mem_of_getElem? (i := 7) rfl)) (hw _ (List.mem_of_getElem? (i := 8) rfl)) (hb hby d14_1) 0 (by decide) (by first | decide | exact Nat.le_refl _) (by first | decide | exact Nat.le_refl _) (fun T1 X1 e1 => ?_)
  show Goes p.tables e below (T1.setTop (mkF m 4 #[.val (.ref p0)] [])) _
  exact g_ret0 X1 hx hret hlk (hb hby d14_4) (by decide) (by decide) ⟨rfl, e1, rfl⟩
theorem ef_rmABQ (m : MethodId) (p0 : Addr) : entryFrame m #[(.ref p0)] 1 = mkF m 0 #[.val (.ref p0)] [] := by first | (simp [entryFrame, mkF, argsToLocals, Value.category]; done) | rfl
set_option maxRecDepth 65536 in
set_option maxHeartbeats 40000000 in
theorem rmABQ (l : Launch) (Z : State) (a0 : Array Value) (hw : ∀ d ∈ tables_1, d.before a0 Z = true) (p0 : Addr) (h0 : Heap) (n0 : Nat) (Z0 : n0 ≤ h0.size)  :
    Con l Z (⟨"java/util/AbstractQueue", "<init>", "()V"⟩ : MethodName) jdk_2435_method_1_code 1 none [] ({ frames := 2, cells := 0, slots := 0, locals := 24 } : Room) 0 0 #[(.ref p0)] h0 (fun v h L => v = none ∧ h = h0 ∧ L = []) := by
  refine Con.body (plainFor_of_name (by first | (simp [plainName, overriddenIn]; done) | decide +kernel)) ?_
  intro p e s m below meth c T0 hx hby hml hown hnm hZ hret hlk X0 e0
  refine Goes.cast (ef_rmABQ m p0) ?_
  have N0 := Fr.nil n0
  show Goes p.tables e below (T0.setTop (mkF m 0 #[.val (.ref p0)] [])) _
  refine g_aloadN X0 hx (hb hby d13_0) rfl rfl ?_
  refine g_callI X0 hx hZ hown (by rw [hml]; rfl) e0 rfl (hw _ (List.mem_of_getElem? (i := 87) rfl)) (hw _ (List.mem_of_getElem? (i := 88) rfl)) (hw _ (List.mem_of_getElem? (i := 91) rfl)) (hw _ (List.mem_of_getElem? (i := 92) rfl)) (rmABC l Z a0 hw p0 h0 n0 Z0) p0 [] rfl [] rfl (lenOf pd_14 rfl) (hb hby d13_1) (by decide) 0 (by decide) (by decide) (by first | decide | exact Nat.le_refl _) (by decide) (by decide) (fun v T1 L1 X1 hQ1 => ?_)
  obtain ⟨rfl, e1, rfl⟩ := hQ1
  have N2 := Fr.app N0 (Fr.nil n0)
  show Goes p.tables e below (T1.setTop (mkF m 4 #[.val (.ref p0)] [])) _
  exact g_ret0 X1 hx hret hlk (hb hby d13_4) (by decide) (by decide) ⟨rfl, e1, rfl⟩
theorem ef_rmPQ2 (m : MethodId) (p0 : Addr) : entryFrame m #[(.ref p0), (.int (11 : Int32)), .null] 3 = mkF m 0 #[.val (.ref p0), .val (.int (11 : Int32)), .val .null] [] := by first | (simp [entryFrame, mkF, argsToLocals, Value.category]; done) | rfl
set_option maxRecDepth 65536 in
set_option maxHeartbeats 40000000 in
theorem rmPQ2 (l : Launch) (Z : State) (a0 : Array Value) (hw : ∀ d ∈ tables_1, d.before a0 Z = true) (p0 : Addr) (h0 : Heap) (n0 : Nat) (Z0 : n0 ≤ h0.size) (fq : Fld Z h0 p0 "java/util/PriorityQueue" "queue" "[Ljava/lang/Object;" .null) (fs : Fld Z h0 p0 "java/util/PriorityQueue" "size" "I" (.int (0 : Int32))) (fc : Fld Z h0 p0 "java/util/PriorityQueue" "comparator" "Ljava/util/Comparator;" .null) (fm : Fld Z h0 p0 "java/util/PriorityQueue" "modCount" "I" (.int (0 : Int32))) (Eqq : Exa Z h0 p0 "java/util/PriorityQueue") (gp : n0 ≤ p0) :
    Con l Z (⟨"java/util/PriorityQueue", "<init>", "(ILjava/util/Comparator;)V"⟩ : MethodName) jdk_2655_method_4_code 3 none [] ({ frames := 3, cells := 1, slots := 11, locals := 36 } : Room) 1 11 #[(.ref p0), (.int (11 : Int32)), .null] h0 (fun v h L => v = none ∧ Fr n0 L ∧ Keep h0 h [p0] ∧ ∃ qa, h0.size ≤ qa ∧ n0 ≤ qa ∧ Ovc Z h qa "java/lang/Object" ∧ Fld Z h p0 "java/util/PriorityQueue" "queue" "[Ljava/lang/Object;" (.ref qa) ∧ Fld Z h p0 "java/util/PriorityQueue" "size" "I" (.int (0 : Int32)) ∧ Fld Z h p0 "java/util/PriorityQueue" "comparator" "Ljava/util/Comparator;" .null ∧ Fld Z h p0 "java/util/PriorityQueue" "modCount" "I" (.int (0 : Int32)) ∧ Ar Z h qa (.object "java/lang/Object") [.null, .null, .null, .null, .null, .null, .null, .null, .null, .null, .null]) := by
  refine Con.body (plainFor_of_name (by first | (simp [plainName, overriddenIn]; done) | decide +kernel)) ?_
  intro p e s m below meth c T0 hx hby hml hown hnm hZ hret hlk X0 e0
  refine Goes.cast (ef_rmPQ2 m p0) ?_
  have N0 := Fr.nil n0
  have K0 : Keep h0 h0 [p0] := Keep.refl _ _
  show Goes p.tables e below (T0.setTop (mkF m 0 #[.val (.ref p0), .val (.int (11 : Int32)), .val .null] [])) _
  refine g_aloadN X0 hx (hb hby d12_0) rfl rfl ?_
  refine g_callI X0 hx hZ hown (by rw [hml]; rfl) e0 rfl (hw _ (List.mem_of_getElem? (i := 81) rfl)) (hw _ (List.mem_of_getElem? (i := 82) rfl)) (hw _ (List.mem_of_getElem? (i := 85) rfl)) (hw _ (List.mem_of_getElem? (i := 86) rfl)) (rmABQ l Z a0 hw p0 h0 n0 Z0) p0 [] rfl [] rfl (lenOf pd_13 rfl) (hb hby d12_1) (by decide) 0 (by decide) (by decide) (by first | decide | exact Nat.le_refl _) (by decide) (by decide) (fun v T1 L1 X1 hQ1 => ?_)
  obtain ⟨rfl, e1, rfl⟩ := hQ1
  have N2 := Fr.app N0 (Fr.nil n0)
  show Goes p.tables e below (T1.setTop (mkF m 4 #[.val (.ref p0), .val (.int (11 : Int32)), .val .null] [])) _
  refine g_iloadN X1 hx (hb hby d12_4) rfl ?_
  refine g_iconst X1 hx (1 : Int32) (hb hby d12_5) rfl ?_
  refine g_icmp_ge X1 hx (hb hby d12_6) (by decide) (pc' := 17) (by decide) (fun _ => ?_) (fun q => absurd q (by decide))
  show Goes p.tables e below (T1.setTop (mkF m 17 #[.val (.ref p0), .val (.int (11 : Int32)), .val .null] [])) _
  refine g_aloadN X1 hx (hb hby d12_17) rfl rfl ?_
  refine g_iloadN X1 hx (hb hby d12_18) rfl ?_
  refine g_newref X1 hx hZ hown e1 (hw _ (List.mem_of_getElem? (i := 94) rfl)) (hw _ (List.mem_of_getElem? (i := 95) rfl)) (hb hby d12_19) (n := 11) (by decide) 11 (by decide) (by decide) (by decide) (by decide) (ad := "[Ljava/lang/Object;") (by decide) (fun T3 h3 a3 ga3 X3 e3 Ex3 Aa3 Ea3 Oa3 => ?_)
  have lt4 : p0 < a3 := by rw [ga3]; exact fq.lt
  have ge5 : n0 ≤ a3 := by rw [ga3]; exact Z0
  have ge6 : h0.size ≤ a3 := by rw [ga3]; exact K0.1
  have fx7 : Fld Z h3 p0 "java/util/PriorityQueue" "queue" "[Ljava/lang/Object;" .null := Fld.ext Ex3 fq
  have fx8 : Fld Z h3 p0 "java/util/PriorityQueue" "size" "I" (.int (0 : Int32)) := Fld.ext Ex3 fs
  have fx9 : Fld Z h3 p0 "java/util/PriorityQueue" "comparator" "Ljava/util/Comparator;" .null := Fld.ext Ex3 fc
  have fx10 : Fld Z h3 p0 "java/util/PriorityQueue" "modCount" "I" (.int (0 : Int32)) := Fld.ext Ex3 fm
  have fx11 : Exa Z h3 p0 "java/util/PriorityQueue" := Exa.ext Ex3 Eqq
  have Z12 : n0 ≤ h3.size := Nat.le_trans Z0 Ex3.1
  have K13 : Keep h0 h3 [p0] := Keep.ext K0 Ex3
  have fx14 : Ar Z h3 a3 (.object "java/lang/Object") [.null, .null, .null, .null, .null, .null, .null, .null, .null, .null, .null] := Aa3
  show Goes p.tables e below (T3.setTop (mkF m 22 #[.val (.ref p0), .val (.int (11 : Int32)), .val .null] [(.ref a3), (.ref p0)])) _
  refine g_putF X3 hx hZ hown e3 (hw _ (List.mem_of_getElem? (i := 96) rfl)) Via.refl (v' := (.ref a3)) fx7 fx11 (Or.inl (hw _ (List.mem_of_getElem? (i := 97) rfl))) (hw _ (List.mem_of_getElem? (i := 72) rfl)) (ty := (.array (.object "java/lang/Object"))) (by decide) rfl rfl (hb hby d12_22) (fun T15 h15 X15 e15 W15 => ?_)
  have fx16 : Fld Z h15 p0 "java/util/PriorityQueue" "size" "I" (.int (0 : Int32)) := Fld.other W15 fx8 (Or.inr (slot_ne (t := .int) (t' := (.array (.object "java/lang/Object"))) (Or.inl (hw _ (List.mem_of_getElem? (i := 133) rfl))) (Or.inl (hw _ (List.mem_of_getElem? (i := 97) rfl))) (by decide) (by decide) (by decide)))
  have fx17 : Fld Z h15 p0 "java/util/PriorityQueue" "comparator" "Ljava/util/Comparator;" .null := Fld.other W15 fx9 (Or.inr (slot_ne (t := (.object "java/util/Comparator")) (t' := (.array (.object "java/lang/Object"))) (Or.inr (hw _ (List.mem_of_getElem? (i := 99) rfl))) (Or.inl (hw _ (List.mem_of_getElem? (i := 97) rfl))) (by decide) (by decide) (by decide)))
  have fx18 : Fld Z h15 p0 "java/util/PriorityQueue" "modCount" "I" (.int (0 : Int32)) := Fld.other W15 fx10 (Or.inr (slot_ne (t := .int) (t' := (.array (.object "java/lang/Object"))) (Or.inl (hw _ (List.mem_of_getElem? (i := 131) rfl))) (Or.inl (hw _ (List.mem_of_getElem? (i := 97) rfl))) (by decide) (by decide) (by decide)))
  have fx19 : Exa Z h15 p0 "java/util/PriorityQueue" := Exa.wr W15 fx11
  have fx20 : Ar Z h15 a3 (.object "java/lang/Object") [.null, .null, .null, .null, .null, .null, .null, .null, .null, .null, .null] := Ar.other fx14 W15 (Ne.symm (Nat.ne_of_lt lt4))
  have fx21 : Exa Z h15 a3 "[Ljava/lang/Object;" := Exa.wr W15 Ea3
  have fx22 : Ovc Z h15 a3 "java/lang/Object" := Ovc.wr Oa3 W15
  have fx23 : Fld Z h15 p0 "java/util/PriorityQueue" "queue" "[Ljava/lang/Object;" (.ref a3) := Fld.same W15 fx7
  have N24 := Fr.snoc X15 N2 gp
  have Z25 : n0 ≤ h15.size := by rw [W15.size]; exact Z12
  have K26 : Keep h0 h15 [p0] := Keep.wr K13 W15 (Or.inl (List.mem_of_getElem? (i := 0) rfl))
  show Goes p.tables e below (T15.setTop (mkF m 25 #[.val (.ref p0), .val (.int (11 : Int32)), .val .null] [])) _
  refine g_aloadN X15 hx (hb hby d12_25) rfl rfl ?_
  refine g_aloadN X15 hx (hb hby d12_26) rfl rfl ?_
  refine g_putF X15 hx hZ hown e15 (hw _ (List.mem_of_getElem? (i := 98) rfl)) Via.refl (v' := .null) fx17 fx19 (Or.inr ⟨(hw _ (List.mem_of_getElem? (i := 99) rfl)), rfl, hnm⟩) (hw _ (List.mem_of_getElem? (i := 72) rfl)) (ty := (.object "java/util/Comparator")) (by decide) rfl rfl (hb hby d12_27) (fun T27 h27 X27 e27 W27 => ?_)
  have fx28 : Fld Z h27 p0 "java/util/PriorityQueue" "size" "I" (.int (0 : Int32)) := Fld.other W27 fx16 (Or.inr (slot_ne (t := .int) (t' := (.object "java/util/Comparator")) (Or.inl (hw _ (List.mem_of_getElem? (i := 133) rfl))) (Or.inr (hw _ (List.mem_of_getElem? (i := 99) rfl))) (by decide) (by decide) (by decide)))
  have fx29 : Fld Z h27 p0 "java/util/PriorityQueue" "modCount" "I" (.int (0 : Int32)) := Fld.other W27 fx18 (Or.inr (slot_ne (t := .int) (t' := (.object "java/util/Comparator")) (Or.inl (hw _ (List.mem_of_getElem? (i := 131) rfl))) (Or.inr (hw _ (List.mem_of_getElem? (i := 99) rfl))) (by decide) (by decide) (by decide)))
  have fx30 : Exa Z h27 p0 "java/util/PriorityQueue" := Exa.wr W27 fx19
  have fx31 : Ar Z h27 a3 (.object "java/lang/Object") [.null, .null, .null, .null, .null, .null, .null, .null, .null, .null, .null] := Ar.other fx20 W27 (Ne.symm (Nat.ne_of_lt lt4))
  have fx32 : Ovc Z h27 a3 "java/lang/Object" := Ovc.wr fx22 W27
  have fx33 : Fld Z h27 p0 "java/util/PriorityQueue" "queue" "[Ljava/lang/Object;" (.ref a3) := Fld.other W27 fx23 (Or.inr (slot_ne (t := (.array (.object "java/lang/Object"))) (t' := (.object "java/util/Comparator")) (Or.inl (hw _ (List.mem_of_getElem? (i := 97) rfl))) (Or.inr (hw _ (List.mem_of_getElem? (i := 99) rfl))) (by decide) (by decide) (by decide)))
  have fx34 : Fld Z h27 p0 "java/util/PriorityQueue" "comparator" "Ljava/util/Comparator;" .null := Fld.same W27 fx17
  have N35 := Fr.snoc X27 N24 gp
  have Z36 : n0 ≤ h27.size := by rw [W27.size]; exact Z25
  have K37 : Keep h0 h27 [p0] := Keep.wr K26 W27 (Or.inl (List.mem_of_getElem? (i := 0) rfl))
  show Goes p.tables e below (T27.setTop (mkF m 30 #[.val (.ref p0), .val (.int (11 : Int32)), .val .null] [])) _
  exact g_ret0 X27 hx hret hlk (hb hby d12_30) (by decide) (by decide) (by rw [e27]; exact ⟨rfl, N35, K37, a3, ge6, ge5, fx32, fx33, fx28, fx34, fx29, fx31⟩)
theorem ef_rmPQ (m : MethodId) (p0 : Addr) : entryFrame m #[(.ref p0)] 1 = mkF m 0 #[.val (.ref p0)] [] := by first | (simp [entryFrame, mkF, argsToLocals, Value.category]; done) | rfl
set_option maxRecDepth 65536 in
set_option maxHeartbeats 40000000 in
theorem rmPQ (l : Launch) (Z : State) (a0 : Array Value) (hw : ∀ d ∈ tables_1, d.before a0 Z = true) (p0 : Addr) (h0 : Heap) (n0 : Nat) (Z0 : n0 ≤ h0.size) (fq : Fld Z h0 p0 "java/util/PriorityQueue" "queue" "[Ljava/lang/Object;" .null) (fs : Fld Z h0 p0 "java/util/PriorityQueue" "size" "I" (.int (0 : Int32))) (fc : Fld Z h0 p0 "java/util/PriorityQueue" "comparator" "Ljava/util/Comparator;" .null) (fm : Fld Z h0 p0 "java/util/PriorityQueue" "modCount" "I" (.int (0 : Int32))) (Eqq : Exa Z h0 p0 "java/util/PriorityQueue") (gp : n0 ≤ p0) :
    Con l Z (⟨"java/util/PriorityQueue", "<init>", "()V"⟩ : MethodName) jdk_2655_method_1_code 1 none [] ({ frames := 4, cells := 1, slots := 11, locals := 50 } : Room) 1 11 #[(.ref p0)] h0 (fun v h L => v = none ∧ Fr n0 L ∧ Keep h0 h [p0] ∧ ∃ qa, h0.size ≤ qa ∧ n0 ≤ qa ∧ Ovc Z h qa "java/lang/Object" ∧ Fld Z h p0 "java/util/PriorityQueue" "queue" "[Ljava/lang/Object;" (.ref qa) ∧ Fld Z h p0 "java/util/PriorityQueue" "size" "I" (.int (0 : Int32)) ∧ Fld Z h p0 "java/util/PriorityQueue" "comparator" "Ljava/util/Comparator;" .null ∧ Fld Z h p0 "java/util/PriorityQueue" "modCount" "I" (.int (0 : Int32)) ∧ Ar Z h qa (.object "java/lang/Object") [.null, .null, .null, .null, .null, .null, .null, .null, .null, .null, .null]) := by
  refine Con.body (plainFor_of_name (by first | (simp [plainName, overriddenIn]; done) | decide +kernel)) ?_
  intro p e s m below meth c T0 hx hby hml hown hnm hZ hret hlk X0 e0
  refine Goes.cast (ef_rmPQ m p0) ?_
  have N0 := Fr.nil n0
  show Goes p.tables e below (T0.setTop (mkF m 0 #[.val (.ref p0)] [])) _
  refine g_aloadN X0 hx (hb hby d11_0) rfl rfl ?_
  refine g_bipush X0 hx (11 : Int32) (hb hby d11_1) (by decide) ?_
  refine g_null X0 hx (hb hby d11_3) ?_
  refine g_callI X0 hx hZ hown (by rw [hml]; rfl) e0 rfl (hw _ (List.mem_of_getElem? (i := 77) rfl)) (hw _ (List.mem_of_getElem? (i := 78) rfl)) (hw _ (List.mem_of_getElem? (i := 73) rfl)) (hw _ (List.mem_of_getElem? (i := 80) rfl)) (rmPQ2 l Z a0 hw p0 h0 n0 Z0 fq fs fc fm Eqq gp) p0 [(.int (11 : Int32)), .null] rfl [] rfl (lenOf pd_12 rfl) (hb hby d11_4) (by decide) 0 (by decide) (by decide) (by first | decide | exact Nat.le_refl _) (by decide) (by decide) (fun v T1 L1 X1 hQ1 => ?_)
  obtain ⟨rfl, Nc, rest⟩ := hQ1
  have N2 := Fr.app N0 Nc
  show Goes p.tables e below (T1.setTop (mkF m 7 #[.val (.ref p0)] [])) _
  exact g_ret0 X1 hx hret hlk (hb hby d11_7) (by decide) (by decide) ⟨rfl, N2, rest⟩
theorem ef_rmIns (m : MethodId) (p0 : Addr) : entryFrame m #[(.ref p0), (.int (0 : Int32)), (.int (0 : Int32))] 7 = mkF m 0 #[.val (.ref p0), .val (.int (0 : Int32)), .val (.int (0 : Int32)), .unset, .unset, .unset, .unset] [] := by first | (simp [entryFrame, mkF, argsToLocals, Value.category]; done) | rfl
set_option maxRecDepth 65536 in
set_option maxHeartbeats 40000000 in
theorem rmIns (l : Launch) (Z : State) (a0 : Array Value) (hw : ∀ d ∈ tables_1, d.before a0 Z = true) (p0 : Addr) (h0 : Heap) (n0 : Nat) (Z0 : n0 ≤ h0.size)  :
    Con l Z (⟨"java/util/DualPivotQuicksort", "insertionSort", "([JII)V"⟩ : MethodName) jdk_2529_method_15_code 7 none [] ({ frames := 0, cells := 0, slots := 0, locals := 0 } : Room) 0 0 #[(.ref p0), (.int (0 : Int32)), (.int (0 : Int32))] h0 (fun v h L => v = none ∧ h = h0 ∧ L = []) := by
  refine Con.body (plainFor_of_name (by first | (simp [plainName, overriddenIn]; done) | decide +kernel)) ?_
  intro p e s m below meth c T0 hx hby hml hown hnm hZ hret hlk X0 e0
  refine Goes.cast (ef_rmIns m p0) ?_
  have N0 := Fr.nil n0
  show Goes p.tables e below (T0.setTop (mkF m 0 #[.val (.ref p0), .val (.int (0 : Int32)), .val (.int (0 : Int32)), .unset, .unset, .unset, .unset] [])) _
  refine g_iloadN X0 hx (hb hby d10_0) rfl ?_
  refine g_istore X0 hx (hb hby d10_1) (l' := #[.val (.ref p0), .val (.int (0 : Int32)), .val (.int (0 : Int32)), .unset, .val (.int (0 : Int32)), .unset, .unset]) rfl ?_
  refine g_iinc X0 hx (1 : Int32) (hb hby d10_3) rfl rfl (l' := #[.val (.ref p0), .val (.int (0 : Int32)), .val (.int (0 : Int32)), .unset, .val (.int (1 : Int32)), .unset, .unset]) rfl ?_
  refine g_iload X0 hx (hb hby d10_6) rfl ?_
  refine g_iloadN X0 hx (hb hby d10_8) rfl ?_
  refine g_icmp_ge X0 hx (hb hby d10_9) (by decide) (pc' := 69) (by decide) (fun _ => ?_) (fun q => absurd q (by decide))
  show Goes p.tables e below (T0.setTop (mkF m 69 #[.val (.ref p0), .val (.int (0 : Int32)), .val (.int (0 : Int32)), .unset, .val (.int (1 : Int32)), .unset, .unset] [])) _
  exact g_ret0 X0 hx hret hlk (hb hby d10_69) (by decide) (by decide) ⟨rfl, e0, rfl⟩
theorem ef_rmS9 (m : MethodId) (p1 : Addr) : entryFrame m #[.null, (.ref p1), (.int (0 : Int32)), (.int (0 : Int32)), (.int (0 : Int32))] 25 = mkF m 0 #[.val .null, .val (.ref p1), .val (.int (0 : Int32)), .val (.int (0 : Int32)), .val (.int (0 : Int32)), .unset, .unset, .unset, .unset, .unset, .unset, .unset, .unset, .unset, .unset, .unset, .unset, .unset, .unset, .unset, .unset, .unset, .unset, .unset, .unset] [] := by first | (simp [entryFrame, mkF, argsToLocals, Value.category]; done) | rfl
set_option maxRecDepth 65536 in
set_option maxHeartbeats 40000000 in
theorem rmS9 (l : Launch) (Z : State) (a0 : Array Value) (hw : ∀ d ∈ tables_1, d.before a0 Z = true) (p1 : Addr) (h0 : Heap) (n0 : Nat) (Z0 : n0 ≤ h0.size)  :
    Con l Z (⟨"java/util/DualPivotQuicksort", "sort", "(Ljava/util/DualPivotQuicksort$Sorter;[JIII)V"⟩ : MethodName) jdk_2529_method_13_code 25 none [] ({ frames := 1, cells := 0, slots := 0, locals := 18 } : Room) 0 0 #[.null, (.ref p1), (.int (0 : Int32)), (.int (0 : Int32)), (.int (0 : Int32))] h0 (fun v h L => v = none ∧ h = h0 ∧ L = []) := by
  refine Con.body (plainFor_of_name (by first | (simp [plainName, overriddenIn]; done) | decide +kernel)) ?_
  intro p e s m below meth c T0 hx hby hml hown hnm hZ hret hlk X0 e0
  refine Goes.cast (ef_rmS9 m p1) ?_
  have N0 := Fr.nil n0
  show Goes p.tables e below (T0.setTop (mkF m 0 #[.val .null, .val (.ref p1), .val (.int (0 : Int32)), .val (.int (0 : Int32)), .val (.int (0 : Int32)), .unset, .unset, .unset, .unset, .unset, .unset, .unset, .unset, .unset, .unset, .unset, .unset, .unset, .unset, .unset, .unset, .unset, .unset, .unset, .unset] [])) _
  refine g_iload X0 hx (hb hby d9_0) rfl ?_
  refine g_iconst X0 hx (1 : Int32) (hb hby d9_2) rfl ?_
  refine g_isub X0 hx (hb hby d9_3) ?_
  refine g_nameI (v := (-1 : Int32)) (by decide) ?_
  refine g_istore X0 hx (hb hby d9_4) (l' := #[.val .null, .val (.ref p1), .val (.int (0 : Int32)), .val (.int (0 : Int32)), .val (.int (0 : Int32)), .val (.int (-1 : Int32)), .unset, .unset, .unset, .unset, .unset, .unset, .unset, .unset, .unset, .unset, .unset, .unset, .unset, .unset, .unset, .unset, .unset, .unset, .unset]) rfl ?_
  refine g_iload X0 hx (hb hby d9_6) rfl ?_
  refine g_iloadN X0 hx (hb hby d9_8) rfl ?_
  show Goes p.tables e below (T0.setTop (mkF m 9 #[.val .null, .val (.ref p1), .val (.int (0 : Int32)), .val (.int (0 : Int32)), .val (.int (0 : Int32)), .val (.int (-1 : Int32)), .unset, .unset, .unset, .unset, .unset, .unset, .unset, .unset, .unset, .unset, .unset, .unset, .unset, .unset, .unset, .unset, .unset, .unset, .unset] [(.int (0 : Int32)), (.int (0 : Int32))])) _
  refine g_isub X0 hx (hb hby d9_9) ?_
  refine g_nameI (v := (0 : Int32)) (by decide) ?_
  refine g_istore X0 hx (hb hby d9_10) (l' := #[.val .null, .val (.ref p1), .val (.int (0 : Int32)), .val (.int (0 : Int32)), .val (.int (0 : Int32)), .val (.int (-1 : Int32)), .val (.int (0 : Int32)), .unset, .unset, .unset, .unset, .unset, .unset, .unset, .unset, .unset, .unset, .unset, .unset, .unset, .unset, .unset, .unset, .unset, .unset]) rfl ?_
  refine g_iload X0 hx (hb hby d9_12) rfl ?_
  refine g_bipush X0 hx (65 : Int32) (hb hby d9_14) (by decide) ?_
  refine g_iloadN X0 hx (hb hby d9_16) rfl ?_
  refine g_iadd X0 hx (hb hby d9_17) ?_
  refine g_nameI (v := (65 : Int32)) (by decide) ?_
  show Goes p.tables e below (T0.setTop (mkF m 18 #[.val .null, .val (.ref p1), .val (.int (0 : Int32)), .val (.int (0 : Int32)), .val (.int (0 : Int32)), .val (.int (-1 : Int32)), .val (.int (0 : Int32)), .unset, .unset, .unset, .unset, .unset, .unset, .unset, .unset, .unset, .unset, .unset, .unset, .unset, .unset, .unset, .unset, .unset, .unset] [(.int (65 : Int32)), (.int (0 : Int32))])) _
  refine g_icmp_ge X0 hx (hb hby d9_18) (by decide) (pc' := 46) (by decide) (fun q => absurd (by decide) q) (fun _ => ?_)
  show Goes p.tables e below (T0.setTop (mkF m 21 #[.val .null, .val (.ref p1), .val (.int (0 : Int32)), .val (.int (0 : Int32)), .val (.int (0 : Int32)), .val (.int (-1 : Int32)), .val (.int (0 : Int32)), .unset, .unset, .unset, .unset, .unset, .unset, .unset, .unset, .unset, .unset, .unset, .unset, .unset, .unset, .unset, .unset, .unset, .unset] [])) _
  refine g_iloadN X0 hx (hb hby d9_21) rfl ?_
  refine g_iconst X0 hx (1 : Int32) (hb hby d9_22) rfl ?_
  refine g_iand X0 hx (hb hby d9_23) ?_
  refine g_nameI (v := (0 : Int32)) (by decide) ?_
  refine g_if_le X0 hx (hb hby d9_24) (by decide) (pc' := 46) (by decide) (fun _ => ?_) (fun q => absurd q (by decide))
  show Goes p.tables e below (T0.setTop (mkF m 46 #[.val .null, .val (.ref p1), .val (.int (0 : Int32)), .val (.int (0 : Int32)), .val (.int (0 : Int32)), .val (.int (-1 : Int32)), .val (.int (0 : Int32)), .unset, .unset, .unset, .unset, .unset, .unset, .unset, .unset, .unset, .unset, .unset, .unset, .unset, .unset, .unset, .unset, .unset, .unset] [])) _
  refine g_iload X0 hx (hb hby d9_46) rfl ?_
  refine g_bipush X0 hx (44 : Int32) (hb hby d9_48) (by decide) ?_
  refine g_icmp_ge X0 hx (hb hby d9_50) (by decide) (pc' := 61) (by decide) (fun q => absurd (by decide) q) (fun _ => ?_)
  show Goes p.tables e below (T0.setTop (mkF m 53 #[.val .null, .val (.ref p1), .val (.int (0 : Int32)), .val (.int (0 : Int32)), .val (.int (0 : Int32)), .val (.int (-1 : Int32)), .val (.int (0 : Int32)), .unset, .unset, .unset, .unset, .unset, .unset, .unset, .unset, .unset, .unset, .unset, .unset, .unset, .unset, .unset, .unset, .unset, .unset] [])) _
  refine g_aloadN X0 hx (hb hby d9_53) rfl rfl ?_
  refine g_iloadN X0 hx (hb hby d9_54) rfl ?_
  refine g_iload X0 hx (hb hby d9_55) rfl ?_
  refine g_callS X0 hx hZ hown (by rw [hml]; rfl) e0 (hw _ (List.mem_of_getElem? (i := 68) rfl)) (hw _ (List.mem_of_getElem? (i := 69) rfl)) (hw _ (List.mem_of_getElem? (i := 63) rfl)) (hw _ (List.mem_of_getElem? (i := 70) rfl)) (rmIns l Z a0 hw p1 h0 n0 Z0) [(.ref p1), (.int (0 : Int32)), (.int (0 : Int32))] rfl [] rfl (lenOf pd_10 rfl) (hb hby d9_57) (by decide) 0 (by decide) (by decide) (by first | decide | exact Nat.le_refl _) (by decide) (by decide) (fun v T1 L1 X1 hQ1 => ?_)
  obtain ⟨rfl, e1, rfl⟩ := hQ1
  have N2 := Fr.app N0 (Fr.nil n0)
  show Goes p.tables e below (T1.setTop (mkF m 60 #[.val .null, .val (.ref p1), .val (.int (0 : Int32)), .val (.int (0 : Int32)), .val (.int (0 : Int32)), .val (.int (-1 : Int32)), .val (.int (0 : Int32)), .unset, .unset, .unset, .unset, .unset, .unset, .unset, .unset, .unset, .unset, .unset, .unset, .unset, .unset, .unset, .unset, .unset, .unset] [])) _
  exact g_ret0 X1 hx hret hlk (hb hby d9_60) (by decide) (by decide) ⟨rfl, e1, rfl⟩
theorem ef_rmS8 (m : MethodId) (p0 : Addr) : entryFrame m #[(.ref p0), (.int (0 : Int32)), (.int (0 : Int32)), (.int (0 : Int32))] 7 = mkF m 0 #[.val (.ref p0), .val (.int (0 : Int32)), .val (.int (0 : Int32)), .val (.int (0 : Int32)), .unset, .unset, .unset] [] := by first | (simp [entryFrame, mkF, argsToLocals, Value.category]; done) | rfl
set_option maxRecDepth 65536 in
set_option maxHeartbeats 40000000 in
theorem rmS8 (l : Launch) (Z : State) (a0 : Array Value) (hw : ∀ d ∈ tables_1, d.before a0 Z = true) (p0 : Addr) (h0 : Heap) (n0 : Nat) (Z0 : n0 ≤ h0.size)  :
    Con l Z (⟨"java/util/DualPivotQuicksort", "sort", "([JIII)V"⟩ : MethodName) jdk_2529_method_12_code 7 none [] ({ frames := 2, cells := 0, slots := 0, locals := 54 } : Room) 0 0 #[(.ref p0), (.int (0 : Int32)), (.int (0 : Int32)), (.int (0 : Int32))] h0 (fun v h L => v = none ∧ h = h0 ∧ L = []) := by
  refine Con.body (plainFor_of_name (by first | (simp [plainName, overriddenIn]; done) | decide +kernel)) ?_
  intro p e s m below meth c T0 hx hby hml hown hnm hZ hret hlk X0 e0
  refine Goes.cast (ef_rmS8 m p0) ?_
  have N0 := Fr.nil n0
  show Goes p.tables e below (T0.setTop (mkF m 0 #[.val (.ref p0), .val (.int (0 : Int32)), .val (.int (0 : Int32)), .val (.int (0 : Int32)), .unset, .unset, .unset] [])) _
  refine g_iloadN X0 hx (hb hby d8_0) rfl ?_
  refine g_iloadN X0 hx (hb hby d8_1) rfl ?_
  refine g_isub X0 hx (hb hby d8_2) ?_
  refine g_nameI (v := (0 : Int32)) (by decide) ?_
  refine g_istore X0 hx (hb hby d8_3) (l' := #[.val (.ref p0), .val (.int (0 : Int32)), .val (.int (0 : Int32)), .val (.int (0 : Int32)), .val (.int (0 : Int32)), .unset, .unset]) rfl ?_
  refine g_iloadN X0 hx (hb hby d8_5) rfl ?_
  refine g_iconst X0 hx (1 : Int32) (hb hby d8_6) rfl ?_
  show Goes p.tables e below (T0.setTop (mkF m 7 #[.val (.ref p0), .val (.int (0 : Int32)), .val (.int (0 : Int32)), .val (.int (0 : Int32)), .val (.int (0 : Int32)), .unset, .unset] [(.int (1 : Int32)), (.int (0 : Int32))])) _
  refine g_icmp_le X0 hx (hb hby d8_7) (by decide) (pc' := 68) (by decide) (fun _ => ?_) (fun q => absurd q (by decide))
  show Goes p.tables e below (T0.setTop (mkF m 68 #[.val (.ref p0), .val (.int (0 : Int32)), .val (.int (0 : Int32)), .val (.int (0 : Int32)), .val (.int (0 : Int32)), .unset, .unset] [])) _
  refine g_null X0 hx (hb hby d8_68) ?_
  refine g_aloadN X0 hx (hb hby d8_69) rfl rfl ?_
  refine g_iconst X0 hx (0 : Int32) (hb hby d8_70) rfl ?_
  refine g_iloadN X0 hx (hb hby d8_71) rfl ?_
  refine g_iloadN X0 hx (hb hby d8_72) rfl ?_
  refine g_callS X0 hx hZ hown (by rw [hml]; rfl) e0 (hw _ (List.mem_of_getElem? (i := 65) rfl)) (hw _ (List.mem_of_getElem? (i := 66) rfl)) (hw _ (List.mem_of_getElem? (i := 63) rfl)) (hw _ (List.mem_of_getElem? (i := 67) rfl)) (rmS9 l Z a0 hw p0 h0 n0 Z0) [.null, (.ref p0), (.int (0 : Int32)), (.int (0 : Int32)), (.int (0 : Int32))] rfl [] rfl (lenOf pd_9 rfl) (hb hby d8_73) (by decide) 0 (by decide) (by decide) (by first | decide | exact Nat.le_refl _) (by decide) (by decide) (fun v T1 L1 X1 hQ1 => ?_)
  obtain ⟨rfl, e1, rfl⟩ := hQ1
  have N2 := Fr.app N0 (Fr.nil n0)
  show Goes p.tables e below (T1.setTop (mkF m 76 #[.val (.ref p0), .val (.int (0 : Int32)), .val (.int (0 : Int32)), .val (.int (0 : Int32)), .val (.int (0 : Int32)), .unset, .unset] [])) _
  exact g_ret0 X1 hx hret hlk (hb hby d8_76) (by decide) (by decide) ⟨rfl, e1, rfl⟩
theorem ef_rmSort (m : MethodId) (p0 : Addr) : entryFrame m #[(.ref p0)] 1 = mkF m 0 #[.val (.ref p0)] [] := by first | (simp [entryFrame, mkF, argsToLocals, Value.category]; done) | rfl
set_option maxRecDepth 65536 in
set_option maxHeartbeats 40000000 in
theorem rmSort (l : Launch) (Z : State) (a0 : Array Value) (hw : ∀ d ∈ tables_1, d.before a0 Z = true) (p0 : Addr) (h0 : Heap) (n0 : Nat) (Z0 : n0 ≤ h0.size) (A0 : Ar Z h0 p0 .long []) :
    Con l Z (⟨"java/util/Arrays", "sort", "([J)V"⟩ : MethodName) jdk_65_method_4_code 1 none [] ({ frames := 3, cells := 0, slots := 0, locals := 72 } : Room) 0 0 #[(.ref p0)] h0 (fun v h L => v = none ∧ h = h0 ∧ L = []) := by
  refine Con.body (plainFor_of_name (by first | (simp [plainName, overriddenIn]; done) | decide +kernel)) ?_
  intro p e s m below meth c T0 hx hby hml hown hnm hZ hret hlk X0 e0
  refine Goes.cast (ef_rmSort m p0) ?_
  have N0 := Fr.nil n0
  show Goes p.tables e below (T0.setTop (mkF m 0 #[.val (.ref p0)] [])) _
  refine g_aloadN X0 hx (hb hby d7_0) rfl rfl ?_
  refine g_iconst X0 hx (0 : Int32) (hb hby d7_1) rfl ?_
  refine g_iconst X0 hx (0 : Int32) (hb hby d7_2) rfl ?_
  refine g_aloadN X0 hx (hb hby d7_3) rfl rfl ?_
  refine g_alen X0 hx hZ e0 A0 (0 : Int32) (by show (0 : Int32).toInt = ((0 : Nat) : Int); decide) (hb hby d7_4) ?_
  show Goes p.tables e below (T0.setTop (mkF m 5 #[.val (.ref p0)] [(.int (0 : Int32)), (.int (0 : Int32)), (.int (0 : Int32)), (.ref p0)])) _
  refine g_callS X0 hx hZ hown (by rw [hml]; rfl) e0 (hw _ (List.mem_of_getElem? (i := 61) rfl)) (hw _ (List.mem_of_getElem? (i := 62) rfl)) (hw _ (List.mem_of_getElem? (i := 63) rfl)) (hw _ (List.mem_of_getElem? (i := 64) rfl)) (rmS8 l Z a0 hw p0 h0 n0 Z0) [(.ref p0), (.int (0 : Int32)), (.int (0 : Int32)), (.int (0 : Int32))] rfl [] rfl (lenOf pd_8 rfl) (hb hby d7_5) (by decide) 0 (by decide) (by decide) (by first | decide | exact Nat.le_refl _) (by decide) (by decide) (fun v T1 L1 X1 hQ1 => ?_)
  obtain ⟨rfl, e1, rfl⟩ := hQ1
  have N2 := Fr.app N0 (Fr.nil n0)
  show Goes p.tables e below (T1.setTop (mkF m 8 #[.val (.ref p0)] [])) _
  exact g_ret0 X1 hx hret hlk (hb hby d7_8) (by decide) (by decide) ⟨rfl, e1, rfl⟩
theorem ef_rmMin (m : MethodId)  : entryFrame m #[(.long (2147483647 : Int64)), (.long (0 : Int64))] 4 = mkF m 0 #[.val (.long (2147483647 : Int64)), .second, .val (.long (0 : Int64)), .second] [] := by first | (simp [entryFrame, mkF, argsToLocals, Value.category]; done) | rfl
set_option maxRecDepth 65536 in
set_option maxHeartbeats 40000000 in
theorem rmMin (l : Launch) (Z : State) (a0 : Array Value) (hw : ∀ d ∈ tables_1, d.before a0 Z = true)  (h0 : Heap) (n0 : Nat) (Z0 : n0 ≤ h0.size)  :
    Con l Z (⟨"java/lang/Math", "min", "(JJ)J"⟩ : MethodName) jdk_29_method_70_code 4 (some .long) [] ({ frames := 0, cells := 0, slots := 0, locals := 0 } : Room) 0 0 #[(.long (2147483647 : Int64)), (.long (0 : Int64))] h0 (fun v h L => v = some (.long (0 : Int64)) ∧ h = h0 ∧ L = []) := by
  refine Con.body (Jvm.Free.JP.mathPlain rfl (by decide +kernel)) ?_
  intro p e s m below meth c T0 hx hby hml hown hnm hZ hret hlk X0 e0
  refine Goes.cast (ef_rmMin m ) ?_
  have N0 := Fr.nil n0
  show Goes p.tables e below (T0.setTop (mkF m 0 #[.val (.long (2147483647 : Int64)), .second, .val (.long (0 : Int64)), .second] [])) _
  refine g_lloadN X0 hx (hb hby d16_0) rfl ?_
  refine g_lloadN X0 hx (hb hby d16_1) rfl ?_
  refine g_lcmp X0 hx (hb hby d16_2) ?_
  refine g_lif_gt X0 hx (hb hby d16_3) (by decide) (pc' := 10) (by decide) (fun _ => ?_) (fun q => absurd (by decide) q)
  show Goes p.tables e below (T0.setTop (mkF m 10 #[.val (.long (2147483647 : Int64)), .second, .val (.long (0 : Int64)), .second] [])) _
  refine g_lloadN X0 hx (hb hby d16_10) rfl ?_
  exact g_retL X0 hx hret hlk (hb hby d16_11) (by decide) (by decide) ⟨rfl, e0, rfl⟩
theorem ef_rmInit (m : MethodId) (p0 : Addr) : entryFrame m #[(.ref p0), (.int (2 : Int32))] 3 = mkF m 0 #[.val (.ref p0), .val (.int (2 : Int32)), .unset] [] := by first | (simp [entryFrame, mkF, argsToLocals, Value.category]; done) | rfl
set_option maxRecDepth 65536 in
set_option maxHeartbeats 40000000 in
theorem rmInit (l : Launch) (Z : State) (a0 : Array Value) (hw : ∀ d ∈ tables_1, d.before a0 Z = true) (p0 : Addr) (h0 : Heap) (n0 : Nat) (Z0 : n0 ≤ h0.size) (f0 : Fld Z h0 p0 "com/example/hold/hold/check/ComponentSolver" "size" "I" (.int (0 : Int32))) (f1 : Fld Z h0 p0 "com/example/hold/hold/check/ComponentSolver" "columns" "[[I" .null) (f2 : Fld Z h0 p0 "com/example/hold/hold/check/ComponentSolver" "values" "[[D" .null) (f3 : Fld Z h0 p0 "com/example/hold/hold/check/ComponentSolver" "length" "[I" .null) (f4 : Fld Z h0 p0 "com/example/hold/hold/check/ComponentSolver" "leaving" "[D" .null) (f5 : Fld Z h0 p0 "com/example/hold/hold/check/ComponentSolver" "exits" "[D" .null) (f6 : Fld Z h0 p0 "com/example/hold/hold/check/ComponentSolver" "surplus" "[D" .null) (f7 : Fld Z h0 p0 "com/example/hold/hold/check/ComponentSolver" "rowsUsing" "[[I" .null) (f8 : Fld Z h0 p0 "com/example/hold/hold/check/ComponentSolver" "rowsUsingCount" "[I" .null) (f9 : Fld Z h0 p0 "com/example/hold/hold/check/ComponentSolver" "columnCount" "[I" .null) (E0 : Exa Z h0 p0 "com/example/hold/hold/check/ComponentSolver") (ga : n0 ≤ p0) :
    Con l Z (⟨"com/example/hold/hold/check/ComponentSolver", "<init>", "(I)V"⟩ : MethodName) prog_35_method_1_code 3 none [] ({ frames := 1, cells := 15, slots := 30, locals := 12 } : Room) 15 30 #[(.ref p0), (.int (2 : Int32))] h0 (fun v h L => v = none ∧ Fr n0 L ∧ Keep h0 h [p0] ∧ ∃ ca va la lv ex su rc cc, Chn n0 p0 ca va la lv ex su rc cc ∧ Sol Z h p0 ca va la lv ex su rc cc [(.double (FP.l2d 0)), (.double (FP.l2d 0))] [(.double (FP.l2d 0)), (.double (FP.l2d 0))] [(.double (FP.l2d 0)), (.double (FP.l2d 0))]) := by
  refine Con.body (plainFor_of_name (by first | (simp [plainName, overriddenIn]; done) | decide +kernel)) ?_
  intro p e s m below meth c T0 hx hby hml hown hnm hZ hret hlk X0 e0
  refine Goes.cast (ef_rmInit m p0) ?_
  have N0 := Fr.nil n0
  have K0 : Keep h0 h0 [p0] := Keep.refl _ _
  show Goes p.tables e below (T0.setTop (mkF m 0 #[.val (.ref p0), .val (.int (2 : Int32)), .unset] [])) _
  refine g_aloadN X0 hx (hb hby d1_0) rfl rfl ?_
  refine g_init0 X0 hx hZ hown (by rw [hml]; rfl) e0 (hw _ (List.mem_of_getElem? (i := 6) rfl)) (hw _ (List.mem_of_getElem? (i := 7) rfl)) (hw _ (List.mem_of_getElem? (i := 8) rfl)) (hb hby d1_1) 0 (by decide) (by first | decide | exact Nat.le_refl _) (by first | decide | exact Nat.le_refl _) (fun T1 X1 e1 => ?_)
  show Goes p.tables e below (T1.setTop (mkF m 4 #[.val (.ref p0), .val (.int (2 : Int32)), .unset] [])) _
  refine g_aloadN X1 hx (hb hby d1_4) rfl rfl ?_
  refine g_iloadN X1 hx (hb hby d1_5) rfl ?_
  refine g_putF X1 hx hZ hown e1 (hw _ (List.mem_of_getElem? (i := 9) rfl)) Via.refl (v' := (.int (2 : Int32))) f0 E0 (Or.inr ⟨(hw _ (List.mem_of_getElem? (i := 10) rfl)), rfl, hnm⟩) (hw _ (List.mem_of_getElem? (i := 1) rfl)) (ty := .int) (by decide) rfl rfl (hb hby d1_6) (fun T2 h2 X2 e2 W2 => ?_)
  have fx3 : Fld Z h2 p0 "com/example/hold/hold/check/ComponentSolver" "columns" "[[I" .null := Fld.other W2 f1 (Or.inr (slot_ne (t := (.array (.array .int))) (t' := .int) (Or.inr (hw _ (List.mem_of_getElem? (i := 14) rfl))) (Or.inr (hw _ (List.mem_of_getElem? (i := 10) rfl))) (by decide) (by decide) (by decide)))
  have fx4 : Fld Z h2 p0 "com/example/hold/hold/check/ComponentSolver" "values" "[[D" .null := Fld.other W2 f2 (Or.inr (slot_ne (t := (.array (.array .double))) (t' := .int) (Or.inr (hw _ (List.mem_of_getElem? (i := 18) rfl))) (Or.inr (hw _ (List.mem_of_getElem? (i := 10) rfl))) (by decide) (by decide) (by decide)))
  have fx5 : Fld Z h2 p0 "com/example/hold/hold/check/ComponentSolver" "length" "[I" .null := Fld.other W2 f3 (Or.inr (slot_ne (t := (.array .int)) (t' := .int) (Or.inr (hw _ (List.mem_of_getElem? (i := 21) rfl))) (Or.inr (hw _ (List.mem_of_getElem? (i := 10) rfl))) (by decide) (by decide) (by decide)))
  have fx6 : Fld Z h2 p0 "com/example/hold/hold/check/ComponentSolver" "leaving" "[D" .null := Fld.other W2 f4 (Or.inr (slot_ne (t := (.array .double)) (t' := .int) (Or.inr (hw _ (List.mem_of_getElem? (i := 24) rfl))) (Or.inr (hw _ (List.mem_of_getElem? (i := 10) rfl))) (by decide) (by decide) (by decide)))
  have fx7 : Fld Z h2 p0 "com/example/hold/hold/check/ComponentSolver" "exits" "[D" .null := Fld.other W2 f5 (Or.inr (slot_ne (t := (.array .double)) (t' := .int) (Or.inr (hw _ (List.mem_of_getElem? (i := 26) rfl))) (Or.inr (hw _ (List.mem_of_getElem? (i := 10) rfl))) (by decide) (by decide) (by decide)))
  have fx8 : Fld Z h2 p0 "com/example/hold/hold/check/ComponentSolver" "surplus" "[D" .null := Fld.other W2 f6 (Or.inr (slot_ne (t := (.array .double)) (t' := .int) (Or.inr (hw _ (List.mem_of_getElem? (i := 28) rfl))) (Or.inr (hw _ (List.mem_of_getElem? (i := 10) rfl))) (by decide) (by decide) (by decide)))
  have fx9 : Fld Z h2 p0 "com/example/hold/hold/check/ComponentSolver" "rowsUsing" "[[I" .null := Fld.other W2 f7 (Or.inr (slot_ne (t := (.array (.array .int))) (t' := .int) (Or.inr (hw _ (List.mem_of_getElem? (i := 30) rfl))) (Or.inr (hw _ (List.mem_of_getElem? (i := 10) rfl))) (by decide) (by decide) (by decide)))
  have fx10 : Fld Z h2 p0 "com/example/hold/hold/check/ComponentSolver" "rowsUsingCount" "[I" .null := Fld.other W2 f8 (Or.inr (slot_ne (t := (.array .int)) (t' := .int) (Or.inr (hw _ (List.mem_of_getElem? (i := 32) rfl))) (Or.inr (hw _ (List.mem_of_getElem? (i := 10) rfl))) (by decide) (by decide) (by decide)))
  have fx11 : Fld Z h2 p0 "com/example/hold/hold/check/ComponentSolver" "columnCount" "[I" .null := Fld.other W2 f9 (Or.inr (slot_ne (t := (.array .int)) (t' := .int) (Or.inr (hw _ (List.mem_of_getElem? (i := 34) rfl))) (Or.inr (hw _ (List.mem_of_getElem? (i := 10) rfl))) (by decide) (by decide) (by decide)))
  have fx12 : Exa Z h2 p0 "com/example/hold/hold/check/ComponentSolver" := Exa.wr W2 E0
  have fx13 : Fld Z h2 p0 "com/example/hold/hold/check/ComponentSolver" "size" "I" (.int (2 : Int32)) := Fld.same W2 f0
  have N14 := Fr.snoc X2 N0 ga
  have Z15 : n0 ≤ h2.size := by rw [W2.size]; exact Z0
  have K16 : Keep h0 h2 [p0] := Keep.wr K0 W2 (Or.inl (List.mem_of_getElem? (i := 0) rfl))
  show Goes p.tables e below (T2.setTop (mkF m 9 #[.val (.ref p0), .val (.int (2 : Int32)), .unset] [])) _
  refine g_aloadN X2 hx (hb hby d1_9) rfl rfl ?_
  refine g_iloadN X2 hx (hb hby d1_10) rfl ?_
  refine g_newrefA X2 hx hZ hown e2 (ty := .int) (by decide) (hw _ (List.mem_of_getElem? (i := 11) rfl)) (hw _ (List.mem_of_getElem? (i := 12) rfl)) (hb hby d1_11) (n := 2) (by decide) 2 (by decide) (by decide) (by decide) (by decide) (ad := "[[I") (by decide) (fun T17 h17 a17 ga17 X17 e17 Ex17 Aa17 Ea17 Oa17 => ?_)
  have lt18 : p0 < a17 := by rw [ga17]; exact fx3.lt
  have ge19 : n0 ≤ a17 := by rw [ga17]; exact Z15
  have ge20 : h0.size ≤ a17 := by rw [ga17]; exact K16.1
  have fx21 : Fld Z h17 p0 "com/example/hold/hold/check/ComponentSolver" "columns" "[[I" .null := Fld.ext Ex17 fx3
  have fx22 : Fld Z h17 p0 "com/example/hold/hold/check/ComponentSolver" "values" "[[D" .null := Fld.ext Ex17 fx4
  have fx23 : Fld Z h17 p0 "com/example/hold/hold/check/ComponentSolver" "length" "[I" .null := Fld.ext Ex17 fx5
  have fx24 : Fld Z h17 p0 "com/example/hold/hold/check/ComponentSolver" "leaving" "[D" .null := Fld.ext Ex17 fx6
  have fx25 : Fld Z h17 p0 "com/example/hold/hold/check/ComponentSolver" "exits" "[D" .null := Fld.ext Ex17 fx7
  have fx26 : Fld Z h17 p0 "com/example/hold/hold/check/ComponentSolver" "surplus" "[D" .null := Fld.ext Ex17 fx8
  have fx27 : Fld Z h17 p0 "com/example/hold/hold/check/ComponentSolver" "rowsUsing" "[[I" .null := Fld.ext Ex17 fx9
  have fx28 : Fld Z h17 p0 "com/example/hold/hold/check/ComponentSolver" "rowsUsingCount" "[I" .null := Fld.ext Ex17 fx10
  have fx29 : Fld Z h17 p0 "com/example/hold/hold/check/ComponentSolver" "columnCount" "[I" .null := Fld.ext Ex17 fx11
  have fx30 : Exa Z h17 p0 "com/example/hold/hold/check/ComponentSolver" := Exa.ext Ex17 fx12
  have fx31 : Fld Z h17 p0 "com/example/hold/hold/check/ComponentSolver" "size" "I" (.int (2 : Int32)) := Fld.ext Ex17 fx13
  have Z32 : n0 ≤ h17.size := Nat.le_trans Z15 Ex17.1
  have K33 : Keep h0 h17 [p0] := Keep.ext K16 Ex17
  have fx34 : Ar Z h17 a17 (.array .int) [.null, .null] := Aa17
  show Goes p.tables e below (T17.setTop (mkF m 14 #[.val (.ref p0), .val (.int (2 : Int32)), .unset] [(.ref a17), (.ref p0)])) _
  refine g_putF X17 hx hZ hown e17 (hw _ (List.mem_of_getElem? (i := 13) rfl)) Via.refl (v' := (.ref a17)) fx21 fx30 (Or.inr ⟨(hw _ (List.mem_of_getElem? (i := 14) rfl)), rfl, hnm⟩) (hw _ (List.mem_of_getElem? (i := 1) rfl)) (ty := (.array (.array .int))) (by decide) rfl rfl (hb hby d1_14) (fun T35 h35 X35 e35 W35 => ?_)
  have fx36 : Fld Z h35 p0 "com/example/hold/hold/check/ComponentSolver" "values" "[[D" .null := Fld.other W35 fx22 (Or.inr (slot_ne (t := (.array (.array .double))) (t' := (.array (.array .int))) (Or.inr (hw _ (List.mem_of_getElem? (i := 18) rfl))) (Or.inr (hw _ (List.mem_of_getElem? (i := 14) rfl))) (by decide) (by decide) (by decide)))
  have fx37 : Fld Z h35 p0 "com/example/hold/hold/check/ComponentSolver" "length" "[I" .null := Fld.other W35 fx23 (Or.inr (slot_ne (t := (.array .int)) (t' := (.array (.array .int))) (Or.inr (hw _ (List.mem_of_getElem? (i := 21) rfl))) (Or.inr (hw _ (List.mem_of_getElem? (i := 14) rfl))) (by decide) (by decide) (by decide)))
  have fx38 : Fld Z h35 p0 "com/example/hold/hold/check/ComponentSolver" "leaving" "[D" .null := Fld.other W35 fx24 (Or.inr (slot_ne (t := (.array .double)) (t' := (.array (.array .int))) (Or.inr (hw _ (List.mem_of_getElem? (i := 24) rfl))) (Or.inr (hw _ (List.mem_of_getElem? (i := 14) rfl))) (by decide) (by decide) (by decide)))
  have fx39 : Fld Z h35 p0 "com/example/hold/hold/check/ComponentSolver" "exits" "[D" .null := Fld.other W35 fx25 (Or.inr (slot_ne (t := (.array .double)) (t' := (.array (.array .int))) (Or.inr (hw _ (List.mem_of_getElem? (i := 26) rfl))) (Or.inr (hw _ (List.mem_of_getElem? (i := 14) rfl))) (by decide) (by decide) (by decide)))
  have fx40 : Fld Z h35 p0 "com/example/hold/hold/check/ComponentSolver" "surplus" "[D" .null := Fld.other W35 fx26 (Or.inr (slot_ne (t := (.array .double)) (t' := (.array (.array .int))) (Or.inr (hw _ (List.mem_of_getElem? (i := 28) rfl))) (Or.inr (hw _ (List.mem_of_getElem? (i := 14) rfl))) (by decide) (by decide) (by decide)))
  have fx41 : Fld Z h35 p0 "com/example/hold/hold/check/ComponentSolver" "rowsUsing" "[[I" .null := Fld.other W35 fx27 (Or.inr (slot_ne (t := (.array (.array .int))) (t' := (.array (.array .int))) (Or.inr (hw _ (List.mem_of_getElem? (i := 30) rfl))) (Or.inr (hw _ (List.mem_of_getElem? (i := 14) rfl))) (by decide) (by decide) (by decide)))
  have fx42 : Fld Z h35 p0 "com/example/hold/hold/check/ComponentSolver" "rowsUsingCount" "[I" .null := Fld.other W35 fx28 (Or.inr (slot_ne (t := (.array .int)) (t' := (.array (.array .int))) (Or.inr (hw _ (List.mem_of_getElem? (i := 32) rfl))) (Or.inr (hw _ (List.mem_of_getElem? (i := 14) rfl))) (by decide) (by decide) (by decide)))
  have fx43 : Fld Z h35 p0 "com/example/hold/hold/check/ComponentSolver" "columnCount" "[I" .null := Fld.other W35 fx29 (Or.inr (slot_ne (t := (.array .int)) (t' := (.array (.array .int))) (Or.inr (hw _ (List.mem_of_getElem? (i := 34) rfl))) (Or.inr (hw _ (List.mem_of_getElem? (i := 14) rfl))) (by decide) (by decide) (by decide)))
  have fx44 : Exa Z h35 p0 "com/example/hold/hold/check/ComponentSolver" := Exa.wr W35 fx30
  have fx45 : Fld Z h35 p0 "com/example/hold/hold/check/ComponentSolver" "size" "I" (.int (2 : Int32)) := Fld.other W35 fx31 (Or.inr (slot_ne (t := .int) (t' := (.array (.array .int))) (Or.inr (hw _ (List.mem_of_getElem? (i := 10) rfl))) (Or.inr (hw _ (List.mem_of_getElem? (i := 14) rfl))) (by decide) (by decide) (by decide)))
  have fx46 : Ar Z h35 a17 (.array .int) [.null, .null] := Ar.other fx34 W35 (Ne.symm (Nat.ne_of_lt lt18))
  have fx47 : Exa Z h35 a17 "[[I" := Exa.wr W35 Ea17
  have fx48 : Ovc Z h35 a17 "[I" := Ovc.wr Oa17 W35
  have fx49 : Fld Z h35 p0 "com/example/hold/hold/check/ComponentSolver" "columns" "[[I" (.ref a17) := Fld.same W35 fx21
  have N50 := Fr.snoc X35 N14 ga
  have Z51 : n0 ≤ h35.size := by rw [W35.size]; exact Z32
  have K52 : Keep h0 h35 [p0] := Keep.wr K33 W35 (Or.inl (List.mem_of_getElem? (i := 0) rfl))
  show Goes p.tables e below (T35.setTop (mkF m 17 #[.val (.ref p0), .val (.int (2 : Int32)), .unset] [])) _
  refine g_aloadN X35 hx (hb hby d1_17) rfl rfl ?_
  refine g_iloadN X35 hx (hb hby d1_18) rfl ?_
  refine g_newrefA X35 hx hZ hown e35 (ty := .double) (by decide) (hw _ (List.mem_of_getElem? (i := 15) rfl)) (hw _ (List.mem_of_getElem? (i := 16) rfl)) (hb hby d1_19) (n := 2) (by decide) 2 (by decide) (by decide) (by decide) (by decide) (ad := "[[D") (by decide) (fun T53 h53 a53 ga53 X53 e53 Ex53 Aa53 Ea53 Oa53 => ?_)
  have lt54 : p0 < a53 := by rw [ga53]; exact fx36.lt
  have lt55 : a17 < a53 := by rw [ga53]; exact fx46.lt
  have ge56 : n0 ≤ a53 := by rw [ga53]; exact Z51
  have ge57 : h0.size ≤ a53 := by rw [ga53]; exact K52.1
  have fx58 : Fld Z h53 p0 "com/example/hold/hold/check/ComponentSolver" "values" "[[D" .null := Fld.ext Ex53 fx36
  have fx59 : Fld Z h53 p0 "com/example/hold/hold/check/ComponentSolver" "length" "[I" .null := Fld.ext Ex53 fx37
  have fx60 : Fld Z h53 p0 "com/example/hold/hold/check/ComponentSolver" "leaving" "[D" .null := Fld.ext Ex53 fx38
  have fx61 : Fld Z h53 p0 "com/example/hold/hold/check/ComponentSolver" "exits" "[D" .null := Fld.ext Ex53 fx39
  have fx62 : Fld Z h53 p0 "com/example/hold/hold/check/ComponentSolver" "surplus" "[D" .null := Fld.ext Ex53 fx40
  have fx63 : Fld Z h53 p0 "com/example/hold/hold/check/ComponentSolver" "rowsUsing" "[[I" .null := Fld.ext Ex53 fx41
  have fx64 : Fld Z h53 p0 "com/example/hold/hold/check/ComponentSolver" "rowsUsingCount" "[I" .null := Fld.ext Ex53 fx42
  have fx65 : Fld Z h53 p0 "com/example/hold/hold/check/ComponentSolver" "columnCount" "[I" .null := Fld.ext Ex53 fx43
  have fx66 : Exa Z h53 p0 "com/example/hold/hold/check/ComponentSolver" := Exa.ext Ex53 fx44
  have fx67 : Fld Z h53 p0 "com/example/hold/hold/check/ComponentSolver" "size" "I" (.int (2 : Int32)) := Fld.ext Ex53 fx45
  have fx68 : Ar Z h53 a17 (.array .int) [.null, .null] := Ar.ext fx46 Ex53
  have fx69 : Ovc Z h53 a17 "[I" := Ovc.ext fx48 Ex53
  have fx70 : Fld Z h53 p0 "com/example/hold/hold/check/ComponentSolver" "columns" "[[I" (.ref a17) := Fld.ext Ex53 fx49
  have Z71 : n0 ≤ h53.size := Nat.le_trans Z51 Ex53.1
  have K72 : Keep h0 h53 [p0] := Keep.ext K52 Ex53
  have fx73 : Ar Z h53 a53 (.array .double) [.null, .null] := Aa53
  show Goes p.tables e below (T53.setTop (mkF m 22 #[.val (.ref p0), .val (.int (2 : Int32)), .unset] [(.ref a53), (.ref p0)])) _
  refine g_putF X53 hx hZ hown e53 (hw _ (List.mem_of_getElem? (i := 17) rfl)) Via.refl (v' := (.ref a53)) fx58 fx66 (Or.inr ⟨(hw _ (List.mem_of_getElem? (i := 18) rfl)), rfl, hnm⟩) (hw _ (List.mem_of_getElem? (i := 1) rfl)) (ty := (.array (.array .double))) (by decide) rfl rfl (hb hby d1_22) (fun T74 h74 X74 e74 W74 => ?_)
  have fx75 : Fld Z h74 p0 "com/example/hold/hold/check/ComponentSolver" "length" "[I" .null := Fld.other W74 fx59 (Or.inr (slot_ne (t := (.array .int)) (t' := (.array (.array .double))) (Or.inr (hw _ (List.mem_of_getElem? (i := 21) rfl))) (Or.inr (hw _ (List.mem_of_getElem? (i := 18) rfl))) (by decide) (by decide) (by decide)))
  have fx76 : Fld Z h74 p0 "com/example/hold/hold/check/ComponentSolver" "leaving" "[D" .null := Fld.other W74 fx60 (Or.inr (slot_ne (t := (.array .double)) (t' := (.array (.array .double))) (Or.inr (hw _ (List.mem_of_getElem? (i := 24) rfl))) (Or.inr (hw _ (List.mem_of_getElem? (i := 18) rfl))) (by decide) (by decide) (by decide)))
  have fx77 : Fld Z h74 p0 "com/example/hold/hold/check/ComponentSolver" "exits" "[D" .null := Fld.other W74 fx61 (Or.inr (slot_ne (t := (.array .double)) (t' := (.array (.array .double))) (Or.inr (hw _ (List.mem_of_getElem? (i := 26) rfl))) (Or.inr (hw _ (List.mem_of_getElem? (i := 18) rfl))) (by decide) (by decide) (by decide)))
  have fx78 : Fld Z h74 p0 "com/example/hold/hold/check/ComponentSolver" "surplus" "[D" .null := Fld.other W74 fx62 (Or.inr (slot_ne (t := (.array .double)) (t' := (.array (.array .double))) (Or.inr (hw _ (List.mem_of_getElem? (i := 28) rfl))) (Or.inr (hw _ (List.mem_of_getElem? (i := 18) rfl))) (by decide) (by decide) (by decide)))
  have fx79 : Fld Z h74 p0 "com/example/hold/hold/check/ComponentSolver" "rowsUsing" "[[I" .null := Fld.other W74 fx63 (Or.inr (slot_ne (t := (.array (.array .int))) (t' := (.array (.array .double))) (Or.inr (hw _ (List.mem_of_getElem? (i := 30) rfl))) (Or.inr (hw _ (List.mem_of_getElem? (i := 18) rfl))) (by decide) (by decide) (by decide)))
  have fx80 : Fld Z h74 p0 "com/example/hold/hold/check/ComponentSolver" "rowsUsingCount" "[I" .null := Fld.other W74 fx64 (Or.inr (slot_ne (t := (.array .int)) (t' := (.array (.array .double))) (Or.inr (hw _ (List.mem_of_getElem? (i := 32) rfl))) (Or.inr (hw _ (List.mem_of_getElem? (i := 18) rfl))) (by decide) (by decide) (by decide)))
  have fx81 : Fld Z h74 p0 "com/example/hold/hold/check/ComponentSolver" "columnCount" "[I" .null := Fld.other W74 fx65 (Or.inr (slot_ne (t := (.array .int)) (t' := (.array (.array .double))) (Or.inr (hw _ (List.mem_of_getElem? (i := 34) rfl))) (Or.inr (hw _ (List.mem_of_getElem? (i := 18) rfl))) (by decide) (by decide) (by decide)))
  have fx82 : Exa Z h74 p0 "com/example/hold/hold/check/ComponentSolver" := Exa.wr W74 fx66
  have fx83 : Fld Z h74 p0 "com/example/hold/hold/check/ComponentSolver" "size" "I" (.int (2 : Int32)) := Fld.other W74 fx67 (Or.inr (slot_ne (t := .int) (t' := (.array (.array .double))) (Or.inr (hw _ (List.mem_of_getElem? (i := 10) rfl))) (Or.inr (hw _ (List.mem_of_getElem? (i := 18) rfl))) (by decide) (by decide) (by decide)))
  have fx84 : Ar Z h74 a17 (.array .int) [.null, .null] := Ar.other fx68 W74 (Ne.symm (Nat.ne_of_lt lt18))
  have fx85 : Ovc Z h74 a17 "[I" := Ovc.wr fx69 W74
  have fx86 : Fld Z h74 p0 "com/example/hold/hold/check/ComponentSolver" "columns" "[[I" (.ref a17) := Fld.other W74 fx70 (Or.inr (slot_ne (t := (.array (.array .int))) (t' := (.array (.array .double))) (Or.inr (hw _ (List.mem_of_getElem? (i := 14) rfl))) (Or.inr (hw _ (List.mem_of_getElem? (i := 18) rfl))) (by decide) (by decide) (by decide)))
  have fx87 : Ar Z h74 a53 (.array .double) [.null, .null] := Ar.other fx73 W74 (Ne.symm (Nat.ne_of_lt lt54))
  have fx88 : Exa Z h74 a53 "[[D" := Exa.wr W74 Ea53
  have fx89 : Ovc Z h74 a53 "[D" := Ovc.wr Oa53 W74
  have fx90 : Fld Z h74 p0 "com/example/hold/hold/check/ComponentSolver" "values" "[[D" (.ref a53) := Fld.same W74 fx58
  have N91 := Fr.snoc X74 N50 ga
  have Z92 : n0 ≤ h74.size := by rw [W74.size]; exact Z71
  have K93 : Keep h0 h74 [p0] := Keep.wr K72 W74 (Or.inl (List.mem_of_getElem? (i := 0) rfl))
  show Goes p.tables e below (T74.setTop (mkF m 25 #[.val (.ref p0), .val (.int (2 : Int32)), .unset] [])) _
  refine g_aloadN X74 hx (hb hby d1_25) rfl rfl ?_
  refine g_iloadN X74 hx (hb hby d1_26) rfl ?_
  refine g_newarr X74 hx hZ e74 (hw _ (List.mem_of_getElem? (i := 19) rfl)) (hb hby d1_27) (n := 2) (by decide) 2 (by decide) (by decide) (by decide) (by decide) (ad := "[I") (by decide) rfl (fun T94 h94 a94 ga94 X94 e94 Ex94 Aa94 Ea94 => ?_)
  have lt95 : p0 < a94 := by rw [ga94]; exact fx75.lt
  have lt96 : a17 < a94 := by rw [ga94]; exact fx84.lt
  have lt97 : a53 < a94 := by rw [ga94]; exact fx87.lt
  have ge98 : n0 ≤ a94 := by rw [ga94]; exact Z92
  have ge99 : h0.size ≤ a94 := by rw [ga94]; exact K93.1
  have fx100 : Fld Z h94 p0 "com/example/hold/hold/check/ComponentSolver" "length" "[I" .null := Fld.ext Ex94 fx75
  have fx101 : Fld Z h94 p0 "com/example/hold/hold/check/ComponentSolver" "leaving" "[D" .null := Fld.ext Ex94 fx76
  have fx102 : Fld Z h94 p0 "com/example/hold/hold/check/ComponentSolver" "exits" "[D" .null := Fld.ext Ex94 fx77
  have fx103 : Fld Z h94 p0 "com/example/hold/hold/check/ComponentSolver" "surplus" "[D" .null := Fld.ext Ex94 fx78
  have fx104 : Fld Z h94 p0 "com/example/hold/hold/check/ComponentSolver" "rowsUsing" "[[I" .null := Fld.ext Ex94 fx79
  have fx105 : Fld Z h94 p0 "com/example/hold/hold/check/ComponentSolver" "rowsUsingCount" "[I" .null := Fld.ext Ex94 fx80
  have fx106 : Fld Z h94 p0 "com/example/hold/hold/check/ComponentSolver" "columnCount" "[I" .null := Fld.ext Ex94 fx81
  have fx107 : Exa Z h94 p0 "com/example/hold/hold/check/ComponentSolver" := Exa.ext Ex94 fx82
  have fx108 : Fld Z h94 p0 "com/example/hold/hold/check/ComponentSolver" "size" "I" (.int (2 : Int32)) := Fld.ext Ex94 fx83
  have fx109 : Ar Z h94 a17 (.array .int) [.null, .null] := Ar.ext fx84 Ex94
  have fx110 : Ovc Z h94 a17 "[I" := Ovc.ext fx85 Ex94
  have fx111 : Fld Z h94 p0 "com/example/hold/hold/check/ComponentSolver" "columns" "[[I" (.ref a17) := Fld.ext Ex94 fx86
  have fx112 : Ar Z h94 a53 (.array .double) [.null, .null] := Ar.ext fx87 Ex94
  have fx113 : Ovc Z h94 a53 "[D" := Ovc.ext fx89 Ex94
  have fx114 : Fld Z h94 p0 "com/example/hold/hold/check/ComponentSolver" "values" "[[D" (.ref a53) := Fld.ext Ex94 fx90
  have Z115 : n0 ≤ h94.size := Nat.le_trans Z92 Ex94.1
  have K116 : Keep h0 h94 [p0] := Keep.ext K93 Ex94
  have fx117 : Ar Z h94 a94 .int [(.int (0 : Int32)), (.int (0 : Int32))] := Aa94
  show Goes p.tables e below (T94.setTop (mkF m 29 #[.val (.ref p0), .val (.int (2 : Int32)), .unset] [(.ref a94), (.ref p0)])) _
  refine g_putF X94 hx hZ hown e94 (hw _ (List.mem_of_getElem? (i := 20) rfl)) Via.refl (v' := (.ref a94)) fx100 fx107 (Or.inr ⟨(hw _ (List.mem_of_getElem? (i := 21) rfl)), rfl, hnm⟩) (hw _ (List.mem_of_getElem? (i := 1) rfl)) (ty := (.array .int)) (by decide) rfl rfl (hb hby d1_29) (fun T118 h118 X118 e118 W118 => ?_)
  have fx119 : Fld Z h118 p0 "com/example/hold/hold/check/ComponentSolver" "leaving" "[D" .null := Fld.other W118 fx101 (Or.inr (slot_ne (t := (.array .double)) (t' := (.array .int)) (Or.inr (hw _ (List.mem_of_getElem? (i := 24) rfl))) (Or.inr (hw _ (List.mem_of_getElem? (i := 21) rfl))) (by decide) (by decide) (by decide)))
  have fx120 : Fld Z h118 p0 "com/example/hold/hold/check/ComponentSolver" "exits" "[D" .null := Fld.other W118 fx102 (Or.inr (slot_ne (t := (.array .double)) (t' := (.array .int)) (Or.inr (hw _ (List.mem_of_getElem? (i := 26) rfl))) (Or.inr (hw _ (List.mem_of_getElem? (i := 21) rfl))) (by decide) (by decide) (by decide)))
  have fx121 : Fld Z h118 p0 "com/example/hold/hold/check/ComponentSolver" "surplus" "[D" .null := Fld.other W118 fx103 (Or.inr (slot_ne (t := (.array .double)) (t' := (.array .int)) (Or.inr (hw _ (List.mem_of_getElem? (i := 28) rfl))) (Or.inr (hw _ (List.mem_of_getElem? (i := 21) rfl))) (by decide) (by decide) (by decide)))
  have fx122 : Fld Z h118 p0 "com/example/hold/hold/check/ComponentSolver" "rowsUsing" "[[I" .null := Fld.other W118 fx104 (Or.inr (slot_ne (t := (.array (.array .int))) (t' := (.array .int)) (Or.inr (hw _ (List.mem_of_getElem? (i := 30) rfl))) (Or.inr (hw _ (List.mem_of_getElem? (i := 21) rfl))) (by decide) (by decide) (by decide)))
  have fx123 : Fld Z h118 p0 "com/example/hold/hold/check/ComponentSolver" "rowsUsingCount" "[I" .null := Fld.other W118 fx105 (Or.inr (slot_ne (t := (.array .int)) (t' := (.array .int)) (Or.inr (hw _ (List.mem_of_getElem? (i := 32) rfl))) (Or.inr (hw _ (List.mem_of_getElem? (i := 21) rfl))) (by decide) (by decide) (by decide)))
  have fx124 : Fld Z h118 p0 "com/example/hold/hold/check/ComponentSolver" "columnCount" "[I" .null := Fld.other W118 fx106 (Or.inr (slot_ne (t := (.array .int)) (t' := (.array .int)) (Or.inr (hw _ (List.mem_of_getElem? (i := 34) rfl))) (Or.inr (hw _ (List.mem_of_getElem? (i := 21) rfl))) (by decide) (by decide) (by decide)))
  have fx125 : Exa Z h118 p0 "com/example/hold/hold/check/ComponentSolver" := Exa.wr W118 fx107
  have fx126 : Fld Z h118 p0 "com/example/hold/hold/check/ComponentSolver" "size" "I" (.int (2 : Int32)) := Fld.other W118 fx108 (Or.inr (slot_ne (t := .int) (t' := (.array .int)) (Or.inr (hw _ (List.mem_of_getElem? (i := 10) rfl))) (Or.inr (hw _ (List.mem_of_getElem? (i := 21) rfl))) (by decide) (by decide) (by decide)))
  have fx127 : Ar Z h118 a17 (.array .int) [.null, .null] := Ar.other fx109 W118 (Ne.symm (Nat.ne_of_lt lt18))
  have fx128 : Ovc Z h118 a17 "[I" := Ovc.wr fx110 W118
  have fx129 : Fld Z h118 p0 "com/example/hold/hold/check/ComponentSolver" "columns" "[[I" (.ref a17) := Fld.other W118 fx111 (Or.inr (slot_ne (t := (.array (.array .int))) (t' := (.array .int)) (Or.inr (hw _ (List.mem_of_getElem? (i := 14) rfl))) (Or.inr (hw _ (List.mem_of_getElem? (i := 21) rfl))) (by decide) (by decide) (by decide)))
  have fx130 : Ar Z h118 a53 (.array .double) [.null, .null] := Ar.other fx112 W118 (Ne.symm (Nat.ne_of_lt lt54))
  have fx131 : Ovc Z h118 a53 "[D" := Ovc.wr fx113 W118
  have fx132 : Fld Z h118 p0 "com/example/hold/hold/check/ComponentSolver" "values" "[[D" (.ref a53) := Fld.other W118 fx114 (Or.inr (slot_ne (t := (.array (.array .double))) (t' := (.array .int)) (Or.inr (hw _ (List.mem_of_getElem? (i := 18) rfl))) (Or.inr (hw _ (List.mem_of_getElem? (i := 21) rfl))) (by decide) (by decide) (by decide)))
  have fx133 : Ar Z h118 a94 .int [(.int (0 : Int32)), (.int (0 : Int32))] := Ar.other fx117 W118 (Ne.symm (Nat.ne_of_lt lt95))
  have fx134 : Exa Z h118 a94 "[I" := Exa.wr W118 Ea94
  have fx135 : Fld Z h118 p0 "com/example/hold/hold/check/ComponentSolver" "length" "[I" (.ref a94) := Fld.same W118 fx100
  have N136 := Fr.snoc X118 N91 ga
  have Z137 : n0 ≤ h118.size := by rw [W118.size]; exact Z115
  have K138 : Keep h0 h118 [p0] := Keep.wr K116 W118 (Or.inl (List.mem_of_getElem? (i := 0) rfl))
  show Goes p.tables e below (T118.setTop (mkF m 32 #[.val (.ref p0), .val (.int (2 : Int32)), .unset] [])) _
  refine g_aloadN X118 hx (hb hby d1_32) rfl rfl ?_
  refine g_iloadN X118 hx (hb hby d1_33) rfl ?_
  refine g_newarr X118 hx hZ e118 (hw _ (List.mem_of_getElem? (i := 22) rfl)) (hb hby d1_34) (n := 2) (by decide) 2 (by decide) (by decide) (by decide) (by decide) (ad := "[D") (by decide) rfl (fun T139 h139 a139 ga139 X139 e139 Ex139 Aa139 Ea139 => ?_)
  have lt140 : p0 < a139 := by rw [ga139]; exact fx119.lt
  have lt141 : a17 < a139 := by rw [ga139]; exact fx127.lt
  have lt142 : a53 < a139 := by rw [ga139]; exact fx130.lt
  have lt143 : a94 < a139 := by rw [ga139]; exact fx133.lt
  have ge144 : n0 ≤ a139 := by rw [ga139]; exact Z137
  have ge145 : h0.size ≤ a139 := by rw [ga139]; exact K138.1
  have fx146 : Fld Z h139 p0 "com/example/hold/hold/check/ComponentSolver" "leaving" "[D" .null := Fld.ext Ex139 fx119
  have fx147 : Fld Z h139 p0 "com/example/hold/hold/check/ComponentSolver" "exits" "[D" .null := Fld.ext Ex139 fx120
  have fx148 : Fld Z h139 p0 "com/example/hold/hold/check/ComponentSolver" "surplus" "[D" .null := Fld.ext Ex139 fx121
  have fx149 : Fld Z h139 p0 "com/example/hold/hold/check/ComponentSolver" "rowsUsing" "[[I" .null := Fld.ext Ex139 fx122
  have fx150 : Fld Z h139 p0 "com/example/hold/hold/check/ComponentSolver" "rowsUsingCount" "[I" .null := Fld.ext Ex139 fx123
  have fx151 : Fld Z h139 p0 "com/example/hold/hold/check/ComponentSolver" "columnCount" "[I" .null := Fld.ext Ex139 fx124
  have fx152 : Exa Z h139 p0 "com/example/hold/hold/check/ComponentSolver" := Exa.ext Ex139 fx125
  have fx153 : Fld Z h139 p0 "com/example/hold/hold/check/ComponentSolver" "size" "I" (.int (2 : Int32)) := Fld.ext Ex139 fx126
  have fx154 : Ar Z h139 a17 (.array .int) [.null, .null] := Ar.ext fx127 Ex139
  have fx155 : Ovc Z h139 a17 "[I" := Ovc.ext fx128 Ex139
  have fx156 : Fld Z h139 p0 "com/example/hold/hold/check/ComponentSolver" "columns" "[[I" (.ref a17) := Fld.ext Ex139 fx129
  have fx157 : Ar Z h139 a53 (.array .double) [.null, .null] := Ar.ext fx130 Ex139
  have fx158 : Ovc Z h139 a53 "[D" := Ovc.ext fx131 Ex139
  have fx159 : Fld Z h139 p0 "com/example/hold/hold/check/ComponentSolver" "values" "[[D" (.ref a53) := Fld.ext Ex139 fx132
  have fx160 : Ar Z h139 a94 .int [(.int (0 : Int32)), (.int (0 : Int32))] := Ar.ext fx133 Ex139
  have fx161 : Fld Z h139 p0 "com/example/hold/hold/check/ComponentSolver" "length" "[I" (.ref a94) := Fld.ext Ex139 fx135
  have Z162 : n0 ≤ h139.size := Nat.le_trans Z137 Ex139.1
  have K163 : Keep h0 h139 [p0] := Keep.ext K138 Ex139
  have fx164 : Ar Z h139 a139 .double [(.double (FP.l2d 0)), (.double (FP.l2d 0))] := (by rw [l2d_zero]; exact Aa139)
  show Goes p.tables e below (T139.setTop (mkF m 36 #[.val (.ref p0), .val (.int (2 : Int32)), .unset] [(.ref a139), (.ref p0)])) _
  refine g_putF X139 hx hZ hown e139 (hw _ (List.mem_of_getElem? (i := 23) rfl)) Via.refl (v' := (.ref a139)) fx146 fx152 (Or.inr ⟨(hw _ (List.mem_of_getElem? (i := 24) rfl)), rfl, hnm⟩) (hw _ (List.mem_of_getElem? (i := 1) rfl)) (ty := (.array .double)) (by decide) rfl rfl (hb hby d1_36) (fun T165 h165 X165 e165 W165 => ?_)
  have fx166 : Fld Z h165 p0 "com/example/hold/hold/check/ComponentSolver" "exits" "[D" .null := Fld.other W165 fx147 (Or.inr (slot_ne (t := (.array .double)) (t' := (.array .double)) (Or.inr (hw _ (List.mem_of_getElem? (i := 26) rfl))) (Or.inr (hw _ (List.mem_of_getElem? (i := 24) rfl))) (by decide) (by decide) (by decide)))
  have fx167 : Fld Z h165 p0 "com/example/hold/hold/check/ComponentSolver" "surplus" "[D" .null := Fld.other W165 fx148 (Or.inr (slot_ne (t := (.array .double)) (t' := (.array .double)) (Or.inr (hw _ (List.mem_of_getElem? (i := 28) rfl))) (Or.inr (hw _ (List.mem_of_getElem? (i := 24) rfl))) (by decide) (by decide) (by decide)))
  have fx168 : Fld Z h165 p0 "com/example/hold/hold/check/ComponentSolver" "rowsUsing" "[[I" .null := Fld.other W165 fx149 (Or.inr (slot_ne (t := (.array (.array .int))) (t' := (.array .double)) (Or.inr (hw _ (List.mem_of_getElem? (i := 30) rfl))) (Or.inr (hw _ (List.mem_of_getElem? (i := 24) rfl))) (by decide) (by decide) (by decide)))
  have fx169 : Fld Z h165 p0 "com/example/hold/hold/check/ComponentSolver" "rowsUsingCount" "[I" .null := Fld.other W165 fx150 (Or.inr (slot_ne (t := (.array .int)) (t' := (.array .double)) (Or.inr (hw _ (List.mem_of_getElem? (i := 32) rfl))) (Or.inr (hw _ (List.mem_of_getElem? (i := 24) rfl))) (by decide) (by decide) (by decide)))
  have fx170 : Fld Z h165 p0 "com/example/hold/hold/check/ComponentSolver" "columnCount" "[I" .null := Fld.other W165 fx151 (Or.inr (slot_ne (t := (.array .int)) (t' := (.array .double)) (Or.inr (hw _ (List.mem_of_getElem? (i := 34) rfl))) (Or.inr (hw _ (List.mem_of_getElem? (i := 24) rfl))) (by decide) (by decide) (by decide)))
  have fx171 : Exa Z h165 p0 "com/example/hold/hold/check/ComponentSolver" := Exa.wr W165 fx152
  have fx172 : Fld Z h165 p0 "com/example/hold/hold/check/ComponentSolver" "size" "I" (.int (2 : Int32)) := Fld.other W165 fx153 (Or.inr (slot_ne (t := .int) (t' := (.array .double)) (Or.inr (hw _ (List.mem_of_getElem? (i := 10) rfl))) (Or.inr (hw _ (List.mem_of_getElem? (i := 24) rfl))) (by decide) (by decide) (by decide)))
  have fx173 : Ar Z h165 a17 (.array .int) [.null, .null] := Ar.other fx154 W165 (Ne.symm (Nat.ne_of_lt lt18))
  have fx174 : Ovc Z h165 a17 "[I" := Ovc.wr fx155 W165
  have fx175 : Fld Z h165 p0 "com/example/hold/hold/check/ComponentSolver" "columns" "[[I" (.ref a17) := Fld.other W165 fx156 (Or.inr (slot_ne (t := (.array (.array .int))) (t' := (.array .double)) (Or.inr (hw _ (List.mem_of_getElem? (i := 14) rfl))) (Or.inr (hw _ (List.mem_of_getElem? (i := 24) rfl))) (by decide) (by decide) (by decide)))
  have fx176 : Ar Z h165 a53 (.array .double) [.null, .null] := Ar.other fx157 W165 (Ne.symm (Nat.ne_of_lt lt54))
  have fx177 : Ovc Z h165 a53 "[D" := Ovc.wr fx158 W165
  have fx178 : Fld Z h165 p0 "com/example/hold/hold/check/ComponentSolver" "values" "[[D" (.ref a53) := Fld.other W165 fx159 (Or.inr (slot_ne (t := (.array (.array .double))) (t' := (.array .double)) (Or.inr (hw _ (List.mem_of_getElem? (i := 18) rfl))) (Or.inr (hw _ (List.mem_of_getElem? (i := 24) rfl))) (by decide) (by decide) (by decide)))
  have fx179 : Ar Z h165 a94 .int [(.int (0 : Int32)), (.int (0 : Int32))] := Ar.other fx160 W165 (Ne.symm (Nat.ne_of_lt lt95))
  have fx180 : Fld Z h165 p0 "com/example/hold/hold/check/ComponentSolver" "length" "[I" (.ref a94) := Fld.other W165 fx161 (Or.inr (slot_ne (t := (.array .int)) (t' := (.array .double)) (Or.inr (hw _ (List.mem_of_getElem? (i := 21) rfl))) (Or.inr (hw _ (List.mem_of_getElem? (i := 24) rfl))) (by decide) (by decide) (by decide)))
  have fx181 : Ar Z h165 a139 .double [(.double (FP.l2d 0)), (.double (FP.l2d 0))] := Ar.other fx164 W165 (Ne.symm (Nat.ne_of_lt lt140))
  have fx182 : Exa Z h165 a139 "[D" := Exa.wr W165 Ea139
  have fx183 : Fld Z h165 p0 "com/example/hold/hold/check/ComponentSolver" "leaving" "[D" (.ref a139) := Fld.same W165 fx146
  have N184 := Fr.snoc X165 N136 ga
  have Z185 : n0 ≤ h165.size := by rw [W165.size]; exact Z162
  have K186 : Keep h0 h165 [p0] := Keep.wr K163 W165 (Or.inl (List.mem_of_getElem? (i := 0) rfl))
  show Goes p.tables e below (T165.setTop (mkF m 39 #[.val (.ref p0), .val (.int (2 : Int32)), .unset] [])) _
  refine g_aloadN X165 hx (hb hby d1_39) rfl rfl ?_
  refine g_iloadN X165 hx (hb hby d1_40) rfl ?_
  refine g_newarr X165 hx hZ e165 (hw _ (List.mem_of_getElem? (i := 22) rfl)) (hb hby d1_41) (n := 2) (by decide) 2 (by decide) (by decide) (by decide) (by decide) (ad := "[D") (by decide) rfl (fun T187 h187 a187 ga187 X187 e187 Ex187 Aa187 Ea187 => ?_)
  have lt188 : p0 < a187 := by rw [ga187]; exact fx166.lt
  have lt189 : a17 < a187 := by rw [ga187]; exact fx173.lt
  have lt190 : a53 < a187 := by rw [ga187]; exact fx176.lt
  have lt191 : a94 < a187 := by rw [ga187]; exact fx179.lt
  have lt192 : a139 < a187 := by rw [ga187]; exact fx181.lt
  have ge193 : n0 ≤ a187 := by rw [ga187]; exact Z185
  have ge194 : h0.size ≤ a187 := by rw [ga187]; exact K186.1
  have fx195 : Fld Z h187 p0 "com/example/hold/hold/check/ComponentSolver" "exits" "[D" .null := Fld.ext Ex187 fx166
  have fx196 : Fld Z h187 p0 "com/example/hold/hold/check/ComponentSolver" "surplus" "[D" .null := Fld.ext Ex187 fx167
  have fx197 : Fld Z h187 p0 "com/example/hold/hold/check/ComponentSolver" "rowsUsing" "[[I" .null := Fld.ext Ex187 fx168
  have fx198 : Fld Z h187 p0 "com/example/hold/hold/check/ComponentSolver" "rowsUsingCount" "[I" .null := Fld.ext Ex187 fx169
  have fx199 : Fld Z h187 p0 "com/example/hold/hold/check/ComponentSolver" "columnCount" "[I" .null := Fld.ext Ex187 fx170
  have fx200 : Exa Z h187 p0 "com/example/hold/hold/check/ComponentSolver" := Exa.ext Ex187 fx171
  have fx201 : Fld Z h187 p0 "com/example/hold/hold/check/ComponentSolver" "size" "I" (.int (2 : Int32)) := Fld.ext Ex187 fx172
  have fx202 : Ar Z h187 a17 (.array .int) [.null, .null] := Ar.ext fx173 Ex187
  have fx203 : Ovc Z h187 a17 "[I" := Ovc.ext fx174 Ex187
  have fx204 : Fld Z h187 p0 "com/example/hold/hold/check/ComponentSolver" "columns" "[[I" (.ref a17) := Fld.ext Ex187 fx175
  have fx205 : Ar Z h187 a53 (.array .double) [.null, .null] := Ar.ext fx176 Ex187
  have fx206 : Ovc Z h187 a53 "[D" := Ovc.ext fx177 Ex187
  have fx207 : Fld Z h187 p0 "com/example/hold/hold/check/ComponentSolver" "values" "[[D" (.ref a53) := Fld.ext Ex187 fx178
  have fx208 : Ar Z h187 a94 .int [(.int (0 : Int32)), (.int (0 : Int32))] := Ar.ext fx179 Ex187
  have fx209 : Fld Z h187 p0 "com/example/hold/hold/check/ComponentSolver" "length" "[I" (.ref a94) := Fld.ext Ex187 fx180
  have fx210 : Ar Z h187 a139 .double [(.double (FP.l2d 0)), (.double (FP.l2d 0))] := Ar.ext fx181 Ex187
  have fx211 : Fld Z h187 p0 "com/example/hold/hold/check/ComponentSolver" "leaving" "[D" (.ref a139) := Fld.ext Ex187 fx183
  have Z212 : n0 ≤ h187.size := Nat.le_trans Z185 Ex187.1
  have K213 : Keep h0 h187 [p0] := Keep.ext K186 Ex187
  have fx214 : Ar Z h187 a187 .double [(.double (FP.l2d 0)), (.double (FP.l2d 0))] := (by rw [l2d_zero]; exact Aa187)
  show Goes p.tables e below (T187.setTop (mkF m 43 #[.val (.ref p0), .val (.int (2 : Int32)), .unset] [(.ref a187), (.ref p0)])) _
  refine g_putF X187 hx hZ hown e187 (hw _ (List.mem_of_getElem? (i := 25) rfl)) Via.refl (v' := (.ref a187)) fx195 fx200 (Or.inr ⟨(hw _ (List.mem_of_getElem? (i := 26) rfl)), rfl, hnm⟩) (hw _ (List.mem_of_getElem? (i := 1) rfl)) (ty := (.array .double)) (by decide) rfl rfl (hb hby d1_43) (fun T215 h215 X215 e215 W215 => ?_)
  have fx216 : Fld Z h215 p0 "com/example/hold/hold/check/ComponentSolver" "surplus" "[D" .null := Fld.other W215 fx196 (Or.inr (slot_ne (t := (.array .double)) (t' := (.array .double)) (Or.inr (hw _ (List.mem_of_getElem? (i := 28) rfl))) (Or.inr (hw _ (List.mem_of_getElem? (i := 26) rfl))) (by decide) (by decide) (by decide)))
  have fx217 : Fld Z h215 p0 "com/example/hold/hold/check/ComponentSolver" "rowsUsing" "[[I" .null := Fld.other W215 fx197 (Or.inr (slot_ne (t := (.array (.array .int))) (t' := (.array .double)) (Or.inr (hw _ (List.mem_of_getElem? (i := 30) rfl))) (Or.inr (hw _ (List.mem_of_getElem? (i := 26) rfl))) (by decide) (by decide) (by decide)))
  have fx218 : Fld Z h215 p0 "com/example/hold/hold/check/ComponentSolver" "rowsUsingCount" "[I" .null := Fld.other W215 fx198 (Or.inr (slot_ne (t := (.array .int)) (t' := (.array .double)) (Or.inr (hw _ (List.mem_of_getElem? (i := 32) rfl))) (Or.inr (hw _ (List.mem_of_getElem? (i := 26) rfl))) (by decide) (by decide) (by decide)))
  have fx219 : Fld Z h215 p0 "com/example/hold/hold/check/ComponentSolver" "columnCount" "[I" .null := Fld.other W215 fx199 (Or.inr (slot_ne (t := (.array .int)) (t' := (.array .double)) (Or.inr (hw _ (List.mem_of_getElem? (i := 34) rfl))) (Or.inr (hw _ (List.mem_of_getElem? (i := 26) rfl))) (by decide) (by decide) (by decide)))
  have fx220 : Exa Z h215 p0 "com/example/hold/hold/check/ComponentSolver" := Exa.wr W215 fx200
  have fx221 : Fld Z h215 p0 "com/example/hold/hold/check/ComponentSolver" "size" "I" (.int (2 : Int32)) := Fld.other W215 fx201 (Or.inr (slot_ne (t := .int) (t' := (.array .double)) (Or.inr (hw _ (List.mem_of_getElem? (i := 10) rfl))) (Or.inr (hw _ (List.mem_of_getElem? (i := 26) rfl))) (by decide) (by decide) (by decide)))
  have fx222 : Ar Z h215 a17 (.array .int) [.null, .null] := Ar.other fx202 W215 (Ne.symm (Nat.ne_of_lt lt18))
  have fx223 : Ovc Z h215 a17 "[I" := Ovc.wr fx203 W215
  have fx224 : Fld Z h215 p0 "com/example/hold/hold/check/ComponentSolver" "columns" "[[I" (.ref a17) := Fld.other W215 fx204 (Or.inr (slot_ne (t := (.array (.array .int))) (t' := (.array .double)) (Or.inr (hw _ (List.mem_of_getElem? (i := 14) rfl))) (Or.inr (hw _ (List.mem_of_getElem? (i := 26) rfl))) (by decide) (by decide) (by decide)))
  have fx225 : Ar Z h215 a53 (.array .double) [.null, .null] := Ar.other fx205 W215 (Ne.symm (Nat.ne_of_lt lt54))
  have fx226 : Ovc Z h215 a53 "[D" := Ovc.wr fx206 W215
  have fx227 : Fld Z h215 p0 "com/example/hold/hold/check/ComponentSolver" "values" "[[D" (.ref a53) := Fld.other W215 fx207 (Or.inr (slot_ne (t := (.array (.array .double))) (t' := (.array .double)) (Or.inr (hw _ (List.mem_of_getElem? (i := 18) rfl))) (Or.inr (hw _ (List.mem_of_getElem? (i := 26) rfl))) (by decide) (by decide) (by decide)))
  have fx228 : Ar Z h215 a94 .int [(.int (0 : Int32)), (.int (0 : Int32))] := Ar.other fx208 W215 (Ne.symm (Nat.ne_of_lt lt95))
  have fx229 : Fld Z h215 p0 "com/example/hold/hold/check/ComponentSolver" "length" "[I" (.ref a94) := Fld.other W215 fx209 (Or.inr (slot_ne (t := (.array .int)) (t' := (.array .double)) (Or.inr (hw _ (List.mem_of_getElem? (i := 21) rfl))) (Or.inr (hw _ (List.mem_of_getElem? (i := 26) rfl))) (by decide) (by decide) (by decide)))
  have fx230 : Ar Z h215 a139 .double [(.double (FP.l2d 0)), (.double (FP.l2d 0))] := Ar.other fx210 W215 (Ne.symm (Nat.ne_of_lt lt140))
  have fx231 : Fld Z h215 p0 "com/example/hold/hold/check/ComponentSolver" "leaving" "[D" (.ref a139) := Fld.other W215 fx211 (Or.inr (slot_ne (t := (.array .double)) (t' := (.array .double)) (Or.inr (hw _ (List.mem_of_getElem? (i := 24) rfl))) (Or.inr (hw _ (List.mem_of_getElem? (i := 26) rfl))) (by decide) (by decide) (by decide)))
  have fx232 : Ar Z h215 a187 .double [(.double (FP.l2d 0)), (.double (FP.l2d 0))] := Ar.other fx214 W215 (Ne.symm (Nat.ne_of_lt lt188))
  have fx233 : Exa Z h215 a187 "[D" := Exa.wr W215 Ea187
  have fx234 : Fld Z h215 p0 "com/example/hold/hold/check/ComponentSolver" "exits" "[D" (.ref a187) := Fld.same W215 fx195
  have N235 := Fr.snoc X215 N184 ga
  have Z236 : n0 ≤ h215.size := by rw [W215.size]; exact Z212
  have K237 : Keep h0 h215 [p0] := Keep.wr K213 W215 (Or.inl (List.mem_of_getElem? (i := 0) rfl))
  show Goes p.tables e below (T215.setTop (mkF m 46 #[.val (.ref p0), .val (.int (2 : Int32)), .unset] [])) _
  refine g_aloadN X215 hx (hb hby d1_46) rfl rfl ?_
  refine g_iloadN X215 hx (hb hby d1_47) rfl ?_
  refine g_newarr X215 hx hZ e215 (hw _ (List.mem_of_getElem? (i := 22) rfl)) (hb hby d1_48) (n := 2) (by decide) 2 (by decide) (by decide) (by decide) (by decide) (ad := "[D") (by decide) rfl (fun T238 h238 a238 ga238 X238 e238 Ex238 Aa238 Ea238 => ?_)
  have lt239 : p0 < a238 := by rw [ga238]; exact fx216.lt
  have lt240 : a17 < a238 := by rw [ga238]; exact fx222.lt
  have lt241 : a53 < a238 := by rw [ga238]; exact fx225.lt
  have lt242 : a94 < a238 := by rw [ga238]; exact fx228.lt
  have lt243 : a139 < a238 := by rw [ga238]; exact fx230.lt
  have lt244 : a187 < a238 := by rw [ga238]; exact fx232.lt
  have ge245 : n0 ≤ a238 := by rw [ga238]; exact Z236
  have ge246 : h0.size ≤ a238 := by rw [ga238]; exact K237.1
  have fx247 : Fld Z h238 p0 "com/example/hold/hold/check/ComponentSolver" "surplus" "[D" .null := Fld.ext Ex238 fx216
  have fx248 : Fld Z h238 p0 "com/example/hold/hold/check/ComponentSolver" "rowsUsing" "[[I" .null := Fld.ext Ex238 fx217
  have fx249 : Fld Z h238 p0 "com/example/hold/hold/check/ComponentSolver" "rowsUsingCount" "[I" .null := Fld.ext Ex238 fx218
  have fx250 : Fld Z h238 p0 "com/example/hold/hold/check/ComponentSolver" "columnCount" "[I" .null := Fld.ext Ex238 fx219
  have fx251 : Exa Z h238 p0 "com/example/hold/hold/check/ComponentSolver" := Exa.ext Ex238 fx220
  have fx252 : Fld Z h238 p0 "com/example/hold/hold/check/ComponentSolver" "size" "I" (.int (2 : Int32)) := Fld.ext Ex238 fx221
  have fx253 : Ar Z h238 a17 (.array .int) [.null, .null] := Ar.ext fx222 Ex238
  have fx254 : Ovc Z h238 a17 "[I" := Ovc.ext fx223 Ex238
  have fx255 : Fld Z h238 p0 "com/example/hold/hold/check/ComponentSolver" "columns" "[[I" (.ref a17) := Fld.ext Ex238 fx224
  have fx256 : Ar Z h238 a53 (.array .double) [.null, .null] := Ar.ext fx225 Ex238
  have fx257 : Ovc Z h238 a53 "[D" := Ovc.ext fx226 Ex238
  have fx258 : Fld Z h238 p0 "com/example/hold/hold/check/ComponentSolver" "values" "[[D" (.ref a53) := Fld.ext Ex238 fx227
  have fx259 : Ar Z h238 a94 .int [(.int (0 : Int32)), (.int (0 : Int32))] := Ar.ext fx228 Ex238
  have fx260 : Fld Z h238 p0 "com/example/hold/hold/check/ComponentSolver" "length" "[I" (.ref a94) := Fld.ext Ex238 fx229
  have fx261 : Ar Z h238 a139 .double [(.double (FP.l2d 0)), (.double (FP.l2d 0))] := Ar.ext fx230 Ex238
  have fx262 : Fld Z h238 p0 "com/example/hold/hold/check/ComponentSolver" "leaving" "[D" (.ref a139) := Fld.ext Ex238 fx231
  have fx263 : Ar Z h238 a187 .double [(.double (FP.l2d 0)), (.double (FP.l2d 0))] := Ar.ext fx232 Ex238
  have fx264 : Fld Z h238 p0 "com/example/hold/hold/check/ComponentSolver" "exits" "[D" (.ref a187) := Fld.ext Ex238 fx234
  have Z265 : n0 ≤ h238.size := Nat.le_trans Z236 Ex238.1
  have K266 : Keep h0 h238 [p0] := Keep.ext K237 Ex238
  have fx267 : Ar Z h238 a238 .double [(.double (FP.l2d 0)), (.double (FP.l2d 0))] := (by rw [l2d_zero]; exact Aa238)
  show Goes p.tables e below (T238.setTop (mkF m 50 #[.val (.ref p0), .val (.int (2 : Int32)), .unset] [(.ref a238), (.ref p0)])) _
  refine g_putF X238 hx hZ hown e238 (hw _ (List.mem_of_getElem? (i := 27) rfl)) Via.refl (v' := (.ref a238)) fx247 fx251 (Or.inr ⟨(hw _ (List.mem_of_getElem? (i := 28) rfl)), rfl, hnm⟩) (hw _ (List.mem_of_getElem? (i := 1) rfl)) (ty := (.array .double)) (by decide) rfl rfl (hb hby d1_50) (fun T268 h268 X268 e268 W268 => ?_)
  have fx269 : Fld Z h268 p0 "com/example/hold/hold/check/ComponentSolver" "rowsUsing" "[[I" .null := Fld.other W268 fx248 (Or.inr (slot_ne (t := (.array (.array .int))) (t' := (.array .double)) (Or.inr (hw _ (List.mem_of_getElem? (i := 30) rfl))) (Or.inr (hw _ (List.mem_of_getElem? (i := 28) rfl))) (by decide) (by decide) (by decide)))
  have fx270 : Fld Z h268 p0 "com/example/hold/hold/check/ComponentSolver" "rowsUsingCount" "[I" .null := Fld.other W268 fx249 (Or.inr (slot_ne (t := (.array .int)) (t' := (.array .double)) (Or.inr (hw _ (List.mem_of_getElem? (i := 32) rfl))) (Or.inr (hw _ (List.mem_of_getElem? (i := 28) rfl))) (by decide) (by decide) (by decide)))
  have fx271 : Fld Z h268 p0 "com/example/hold/hold/check/ComponentSolver" "columnCount" "[I" .null := Fld.other W268 fx250 (Or.inr (slot_ne (t := (.array .int)) (t' := (.array .double)) (Or.inr (hw _ (List.mem_of_getElem? (i := 34) rfl))) (Or.inr (hw _ (List.mem_of_getElem? (i := 28) rfl))) (by decide) (by decide) (by decide)))
  have fx272 : Exa Z h268 p0 "com/example/hold/hold/check/ComponentSolver" := Exa.wr W268 fx251
  have fx273 : Fld Z h268 p0 "com/example/hold/hold/check/ComponentSolver" "size" "I" (.int (2 : Int32)) := Fld.other W268 fx252 (Or.inr (slot_ne (t := .int) (t' := (.array .double)) (Or.inr (hw _ (List.mem_of_getElem? (i := 10) rfl))) (Or.inr (hw _ (List.mem_of_getElem? (i := 28) rfl))) (by decide) (by decide) (by decide)))
  have fx274 : Ar Z h268 a17 (.array .int) [.null, .null] := Ar.other fx253 W268 (Ne.symm (Nat.ne_of_lt lt18))
  have fx275 : Ovc Z h268 a17 "[I" := Ovc.wr fx254 W268
  have fx276 : Fld Z h268 p0 "com/example/hold/hold/check/ComponentSolver" "columns" "[[I" (.ref a17) := Fld.other W268 fx255 (Or.inr (slot_ne (t := (.array (.array .int))) (t' := (.array .double)) (Or.inr (hw _ (List.mem_of_getElem? (i := 14) rfl))) (Or.inr (hw _ (List.mem_of_getElem? (i := 28) rfl))) (by decide) (by decide) (by decide)))
  have fx277 : Ar Z h268 a53 (.array .double) [.null, .null] := Ar.other fx256 W268 (Ne.symm (Nat.ne_of_lt lt54))
  have fx278 : Ovc Z h268 a53 "[D" := Ovc.wr fx257 W268
  have fx279 : Fld Z h268 p0 "com/example/hold/hold/check/ComponentSolver" "values" "[[D" (.ref a53) := Fld.other W268 fx258 (Or.inr (slot_ne (t := (.array (.array .double))) (t' := (.array .double)) (Or.inr (hw _ (List.mem_of_getElem? (i := 18) rfl))) (Or.inr (hw _ (List.mem_of_getElem? (i := 28) rfl))) (by decide) (by decide) (by decide)))
  have fx280 : Ar Z h268 a94 .int [(.int (0 : Int32)), (.int (0 : Int32))] := Ar.other fx259 W268 (Ne.symm (Nat.ne_of_lt lt95))
  have fx281 : Fld Z h268 p0 "com/example/hold/hold/check/ComponentSolver" "length" "[I" (.ref a94) := Fld.other W268 fx260 (Or.inr (slot_ne (t := (.array .int)) (t' := (.array .double)) (Or.inr (hw _ (List.mem_of_getElem? (i := 21) rfl))) (Or.inr (hw _ (List.mem_of_getElem? (i := 28) rfl))) (by decide) (by decide) (by decide)))
  have fx282 : Ar Z h268 a139 .double [(.double (FP.l2d 0)), (.double (FP.l2d 0))] := Ar.other fx261 W268 (Ne.symm (Nat.ne_of_lt lt140))
  have fx283 : Fld Z h268 p0 "com/example/hold/hold/check/ComponentSolver" "leaving" "[D" (.ref a139) := Fld.other W268 fx262 (Or.inr (slot_ne (t := (.array .double)) (t' := (.array .double)) (Or.inr (hw _ (List.mem_of_getElem? (i := 24) rfl))) (Or.inr (hw _ (List.mem_of_getElem? (i := 28) rfl))) (by decide) (by decide) (by decide)))
  have fx284 : Ar Z h268 a187 .double [(.double (FP.l2d 0)), (.double (FP.l2d 0))] := Ar.other fx263 W268 (Ne.symm (Nat.ne_of_lt lt188))
  have fx285 : Fld Z h268 p0 "com/example/hold/hold/check/ComponentSolver" "exits" "[D" (.ref a187) := Fld.other W268 fx264 (Or.inr (slot_ne (t := (.array .double)) (t' := (.array .double)) (Or.inr (hw _ (List.mem_of_getElem? (i := 26) rfl))) (Or.inr (hw _ (List.mem_of_getElem? (i := 28) rfl))) (by decide) (by decide) (by decide)))
  have fx286 : Ar Z h268 a238 .double [(.double (FP.l2d 0)), (.double (FP.l2d 0))] := Ar.other fx267 W268 (Ne.symm (Nat.ne_of_lt lt239))
  have fx287 : Exa Z h268 a238 "[D" := Exa.wr W268 Ea238
  have fx288 : Fld Z h268 p0 "com/example/hold/hold/check/ComponentSolver" "surplus" "[D" (.ref a238) := Fld.same W268 fx247
  have N289 := Fr.snoc X268 N235 ga
  have Z290 : n0 ≤ h268.size := by rw [W268.size]; exact Z265
  have K291 : Keep h0 h268 [p0] := Keep.wr K266 W268 (Or.inl (List.mem_of_getElem? (i := 0) rfl))
  show Goes p.tables e below (T268.setTop (mkF m 53 #[.val (.ref p0), .val (.int (2 : Int32)), .unset] [])) _
  refine g_aloadN X268 hx (hb hby d1_53) rfl rfl ?_
  refine g_iloadN X268 hx (hb hby d1_54) rfl ?_
  refine g_newrefA X268 hx hZ hown e268 (ty := .int) (by decide) (hw _ (List.mem_of_getElem? (i := 11) rfl)) (hw _ (List.mem_of_getElem? (i := 12) rfl)) (hb hby d1_55) (n := 2) (by decide) 2 (by decide) (by decide) (by decide) (by decide) (ad := "[[I") (by decide) (fun T292 h292 a292 ga292 X292 e292 Ex292 Aa292 Ea292 Oa292 => ?_)
  have lt293 : p0 < a292 := by rw [ga292]; exact fx269.lt
  have lt294 : a17 < a292 := by rw [ga292]; exact fx274.lt
  have lt295 : a53 < a292 := by rw [ga292]; exact fx277.lt
  have lt296 : a94 < a292 := by rw [ga292]; exact fx280.lt
  have lt297 : a139 < a292 := by rw [ga292]; exact fx282.lt
  have lt298 : a187 < a292 := by rw [ga292]; exact fx284.lt
  have lt299 : a238 < a292 := by rw [ga292]; exact fx286.lt
  have ge300 : n0 ≤ a292 := by rw [ga292]; exact Z290
  have ge301 : h0.size ≤ a292 := by rw [ga292]; exact K291.1
  have fx302 : Fld Z h292 p0 "com/example/hold/hold/check/ComponentSolver" "rowsUsing" "[[I" .null := Fld.ext Ex292 fx269
  have fx303 : Fld Z h292 p0 "com/example/hold/hold/check/ComponentSolver" "rowsUsingCount" "[I" .null := Fld.ext Ex292 fx270
  have fx304 : Fld Z h292 p0 "com/example/hold/hold/check/ComponentSolver" "columnCount" "[I" .null := Fld.ext Ex292 fx271
  have fx305 : Exa Z h292 p0 "com/example/hold/hold/check/ComponentSolver" := Exa.ext Ex292 fx272
  have fx306 : Fld Z h292 p0 "com/example/hold/hold/check/ComponentSolver" "size" "I" (.int (2 : Int32)) := Fld.ext Ex292 fx273
  have fx307 : Ar Z h292 a17 (.array .int) [.null, .null] := Ar.ext fx274 Ex292
  have fx308 : Ovc Z h292 a17 "[I" := Ovc.ext fx275 Ex292
  have fx309 : Fld Z h292 p0 "com/example/hold/hold/check/ComponentSolver" "columns" "[[I" (.ref a17) := Fld.ext Ex292 fx276
  have fx310 : Ar Z h292 a53 (.array .double) [.null, .null] := Ar.ext fx277 Ex292
  have fx311 : Ovc Z h292 a53 "[D" := Ovc.ext fx278 Ex292
  have fx312 : Fld Z h292 p0 "com/example/hold/hold/check/ComponentSolver" "values" "[[D" (.ref a53) := Fld.ext Ex292 fx279
  have fx313 : Ar Z h292 a94 .int [(.int (0 : Int32)), (.int (0 : Int32))] := Ar.ext fx280 Ex292
  have fx314 : Fld Z h292 p0 "com/example/hold/hold/check/ComponentSolver" "length" "[I" (.ref a94) := Fld.ext Ex292 fx281
  have fx315 : Ar Z h292 a139 .double [(.double (FP.l2d 0)), (.double (FP.l2d 0))] := Ar.ext fx282 Ex292
  have fx316 : Fld Z h292 p0 "com/example/hold/hold/check/ComponentSolver" "leaving" "[D" (.ref a139) := Fld.ext Ex292 fx283
  have fx317 : Ar Z h292 a187 .double [(.double (FP.l2d 0)), (.double (FP.l2d 0))] := Ar.ext fx284 Ex292
  have fx318 : Fld Z h292 p0 "com/example/hold/hold/check/ComponentSolver" "exits" "[D" (.ref a187) := Fld.ext Ex292 fx285
  have fx319 : Ar Z h292 a238 .double [(.double (FP.l2d 0)), (.double (FP.l2d 0))] := Ar.ext fx286 Ex292
  have fx320 : Fld Z h292 p0 "com/example/hold/hold/check/ComponentSolver" "surplus" "[D" (.ref a238) := Fld.ext Ex292 fx288
  have Z321 : n0 ≤ h292.size := Nat.le_trans Z290 Ex292.1
  have K322 : Keep h0 h292 [p0] := Keep.ext K291 Ex292
  have fx323 : Ar Z h292 a292 (.array .int) [.null, .null] := Aa292
  show Goes p.tables e below (T292.setTop (mkF m 58 #[.val (.ref p0), .val (.int (2 : Int32)), .unset] [(.ref a292), (.ref p0)])) _
  refine g_putF X292 hx hZ hown e292 (hw _ (List.mem_of_getElem? (i := 29) rfl)) Via.refl (v' := (.ref a292)) fx302 fx305 (Or.inr ⟨(hw _ (List.mem_of_getElem? (i := 30) rfl)), rfl, hnm⟩) (hw _ (List.mem_of_getElem? (i := 1) rfl)) (ty := (.array (.array .int))) (by decide) rfl rfl (hb hby d1_58) (fun T324 h324 X324 e324 W324 => ?_)
  have fx325 : Fld Z h324 p0 "com/example/hold/hold/check/ComponentSolver" "rowsUsingCount" "[I" .null := Fld.other W324 fx303 (Or.inr (slot_ne (t := (.array .int)) (t' := (.array (.array .int))) (Or.inr (hw _ (List.mem_of_getElem? (i := 32) rfl))) (Or.inr (hw _ (List.mem_of_getElem? (i := 30) rfl))) (by decide) (by decide) (by decide)))
  have fx326 : Fld Z h324 p0 "com/example/hold/hold/check/ComponentSolver" "columnCount" "[I" .null := Fld.other W324 fx304 (Or.inr (slot_ne (t := (.array .int)) (t' := (.array (.array .int))) (Or.inr (hw _ (List.mem_of_getElem? (i := 34) rfl))) (Or.inr (hw _ (List.mem_of_getElem? (i := 30) rfl))) (by decide) (by decide) (by decide)))
  have fx327 : Exa Z h324 p0 "com/example/hold/hold/check/ComponentSolver" := Exa.wr W324 fx305
  have fx328 : Fld Z h324 p0 "com/example/hold/hold/check/ComponentSolver" "size" "I" (.int (2 : Int32)) := Fld.other W324 fx306 (Or.inr (slot_ne (t := .int) (t' := (.array (.array .int))) (Or.inr (hw _ (List.mem_of_getElem? (i := 10) rfl))) (Or.inr (hw _ (List.mem_of_getElem? (i := 30) rfl))) (by decide) (by decide) (by decide)))
  have fx329 : Ar Z h324 a17 (.array .int) [.null, .null] := Ar.other fx307 W324 (Ne.symm (Nat.ne_of_lt lt18))
  have fx330 : Ovc Z h324 a17 "[I" := Ovc.wr fx308 W324
  have fx331 : Fld Z h324 p0 "com/example/hold/hold/check/ComponentSolver" "columns" "[[I" (.ref a17) := Fld.other W324 fx309 (Or.inr (slot_ne (t := (.array (.array .int))) (t' := (.array (.array .int))) (Or.inr (hw _ (List.mem_of_getElem? (i := 14) rfl))) (Or.inr (hw _ (List.mem_of_getElem? (i := 30) rfl))) (by decide) (by decide) (by decide)))
  have fx332 : Ar Z h324 a53 (.array .double) [.null, .null] := Ar.other fx310 W324 (Ne.symm (Nat.ne_of_lt lt54))
  have fx333 : Ovc Z h324 a53 "[D" := Ovc.wr fx311 W324
  have fx334 : Fld Z h324 p0 "com/example/hold/hold/check/ComponentSolver" "values" "[[D" (.ref a53) := Fld.other W324 fx312 (Or.inr (slot_ne (t := (.array (.array .double))) (t' := (.array (.array .int))) (Or.inr (hw _ (List.mem_of_getElem? (i := 18) rfl))) (Or.inr (hw _ (List.mem_of_getElem? (i := 30) rfl))) (by decide) (by decide) (by decide)))
  have fx335 : Ar Z h324 a94 .int [(.int (0 : Int32)), (.int (0 : Int32))] := Ar.other fx313 W324 (Ne.symm (Nat.ne_of_lt lt95))
  have fx336 : Fld Z h324 p0 "com/example/hold/hold/check/ComponentSolver" "length" "[I" (.ref a94) := Fld.other W324 fx314 (Or.inr (slot_ne (t := (.array .int)) (t' := (.array (.array .int))) (Or.inr (hw _ (List.mem_of_getElem? (i := 21) rfl))) (Or.inr (hw _ (List.mem_of_getElem? (i := 30) rfl))) (by decide) (by decide) (by decide)))
  have fx337 : Ar Z h324 a139 .double [(.double (FP.l2d 0)), (.double (FP.l2d 0))] := Ar.other fx315 W324 (Ne.symm (Nat.ne_of_lt lt140))
  have fx338 : Fld Z h324 p0 "com/example/hold/hold/check/ComponentSolver" "leaving" "[D" (.ref a139) := Fld.other W324 fx316 (Or.inr (slot_ne (t := (.array .double)) (t' := (.array (.array .int))) (Or.inr (hw _ (List.mem_of_getElem? (i := 24) rfl))) (Or.inr (hw _ (List.mem_of_getElem? (i := 30) rfl))) (by decide) (by decide) (by decide)))
  have fx339 : Ar Z h324 a187 .double [(.double (FP.l2d 0)), (.double (FP.l2d 0))] := Ar.other fx317 W324 (Ne.symm (Nat.ne_of_lt lt188))
  have fx340 : Fld Z h324 p0 "com/example/hold/hold/check/ComponentSolver" "exits" "[D" (.ref a187) := Fld.other W324 fx318 (Or.inr (slot_ne (t := (.array .double)) (t' := (.array (.array .int))) (Or.inr (hw _ (List.mem_of_getElem? (i := 26) rfl))) (Or.inr (hw _ (List.mem_of_getElem? (i := 30) rfl))) (by decide) (by decide) (by decide)))
  have fx341 : Ar Z h324 a238 .double [(.double (FP.l2d 0)), (.double (FP.l2d 0))] := Ar.other fx319 W324 (Ne.symm (Nat.ne_of_lt lt239))
  have fx342 : Fld Z h324 p0 "com/example/hold/hold/check/ComponentSolver" "surplus" "[D" (.ref a238) := Fld.other W324 fx320 (Or.inr (slot_ne (t := (.array .double)) (t' := (.array (.array .int))) (Or.inr (hw _ (List.mem_of_getElem? (i := 28) rfl))) (Or.inr (hw _ (List.mem_of_getElem? (i := 30) rfl))) (by decide) (by decide) (by decide)))
  have fx343 : Ar Z h324 a292 (.array .int) [.null, .null] := Ar.other fx323 W324 (Ne.symm (Nat.ne_of_lt lt293))
  have fx344 : Exa Z h324 a292 "[[I" := Exa.wr W324 Ea292
  have fx345 : Ovc Z h324 a292 "[I" := Ovc.wr Oa292 W324
  have fx346 : Fld Z h324 p0 "com/example/hold/hold/check/ComponentSolver" "rowsUsing" "[[I" (.ref a292) := Fld.same W324 fx302
  have N347 := Fr.snoc X324 N289 ga
  have Z348 : n0 ≤ h324.size := by rw [W324.size]; exact Z321
  have K349 : Keep h0 h324 [p0] := Keep.wr K322 W324 (Or.inl (List.mem_of_getElem? (i := 0) rfl))
  show Goes p.tables e below (T324.setTop (mkF m 61 #[.val (.ref p0), .val (.int (2 : Int32)), .unset] [])) _
  refine g_aloadN X324 hx (hb hby d1_61) rfl rfl ?_
  refine g_iloadN X324 hx (hb hby d1_62) rfl ?_
  refine g_newarr X324 hx hZ e324 (hw _ (List.mem_of_getElem? (i := 19) rfl)) (hb hby d1_63) (n := 2) (by decide) 2 (by decide) (by decide) (by decide) (by decide) (ad := "[I") (by decide) rfl (fun T350 h350 a350 ga350 X350 e350 Ex350 Aa350 Ea350 => ?_)
  have lt351 : p0 < a350 := by rw [ga350]; exact fx325.lt
  have lt352 : a17 < a350 := by rw [ga350]; exact fx329.lt
  have lt353 : a53 < a350 := by rw [ga350]; exact fx332.lt
  have lt354 : a94 < a350 := by rw [ga350]; exact fx335.lt
  have lt355 : a139 < a350 := by rw [ga350]; exact fx337.lt
  have lt356 : a187 < a350 := by rw [ga350]; exact fx339.lt
  have lt357 : a238 < a350 := by rw [ga350]; exact fx341.lt
  have lt358 : a292 < a350 := by rw [ga350]; exact fx343.lt
  have ge359 : n0 ≤ a350 := by rw [ga350]; exact Z348
  have ge360 : h0.size ≤ a350 := by rw [ga350]; exact K349.1
  have fx361 : Fld Z h350 p0 "com/example/hold/hold/check/ComponentSolver" "rowsUsingCount" "[I" .null := Fld.ext Ex350 fx325
  have fx362 : Fld Z h350 p0 "com/example/hold/hold/check/ComponentSolver" "columnCount" "[I" .null := Fld.ext Ex350 fx326
  have fx363 : Exa Z h350 p0 "com/example/hold/hold/check/ComponentSolver" := Exa.ext Ex350 fx327
  have fx364 : Fld Z h350 p0 "com/example/hold/hold/check/ComponentSolver" "size" "I" (.int (2 : Int32)) := Fld.ext Ex350 fx328
  have fx365 : Ar Z h350 a17 (.array .int) [.null, .null] := Ar.ext fx329 Ex350
  have fx366 : Ovc Z h350 a17 "[I" := Ovc.ext fx330 Ex350
  have fx367 : Fld Z h350 p0 "com/example/hold/hold/check/ComponentSolver" "columns" "[[I" (.ref a17) := Fld.ext Ex350 fx331
  have fx368 : Ar Z h350 a53 (.array .double) [.null, .null] := Ar.ext fx332 Ex350
  have fx369 : Ovc Z h350 a53 "[D" := Ovc.ext fx333 Ex350
  have fx370 : Fld Z h350 p0 "com/example/hold/hold/check/ComponentSolver" "values" "[[D" (.ref a53) := Fld.ext Ex350 fx334
  have fx371 : Ar Z h350 a94 .int [(.int (0 : Int32)), (.int (0 : Int32))] := Ar.ext fx335 Ex350
  have fx372 : Fld Z h350 p0 "com/example/hold/hold/check/ComponentSolver" "length" "[I" (.ref a94) := Fld.ext Ex350 fx336
  have fx373 : Ar Z h350 a139 .double [(.double (FP.l2d 0)), (.double (FP.l2d 0))] := Ar.ext fx337 Ex350
  have fx374 : Fld Z h350 p0 "com/example/hold/hold/check/ComponentSolver" "leaving" "[D" (.ref a139) := Fld.ext Ex350 fx338
  have fx375 : Ar Z h350 a187 .double [(.double (FP.l2d 0)), (.double (FP.l2d 0))] := Ar.ext fx339 Ex350
  have fx376 : Fld Z h350 p0 "com/example/hold/hold/check/ComponentSolver" "exits" "[D" (.ref a187) := Fld.ext Ex350 fx340
  have fx377 : Ar Z h350 a238 .double [(.double (FP.l2d 0)), (.double (FP.l2d 0))] := Ar.ext fx341 Ex350
  have fx378 : Fld Z h350 p0 "com/example/hold/hold/check/ComponentSolver" "surplus" "[D" (.ref a238) := Fld.ext Ex350 fx342
  have fx379 : Ar Z h350 a292 (.array .int) [.null, .null] := Ar.ext fx343 Ex350
  have fx380 : Ovc Z h350 a292 "[I" := Ovc.ext fx345 Ex350
  have fx381 : Fld Z h350 p0 "com/example/hold/hold/check/ComponentSolver" "rowsUsing" "[[I" (.ref a292) := Fld.ext Ex350 fx346
  have Z382 : n0 ≤ h350.size := Nat.le_trans Z348 Ex350.1
  have K383 : Keep h0 h350 [p0] := Keep.ext K349 Ex350
  have fx384 : Ar Z h350 a350 .int [(.int (0 : Int32)), (.int (0 : Int32))] := Aa350
  show Goes p.tables e below (T350.setTop (mkF m 65 #[.val (.ref p0), .val (.int (2 : Int32)), .unset] [(.ref a350), (.ref p0)])) _
  refine g_putF X350 hx hZ hown e350 (hw _ (List.mem_of_getElem? (i := 31) rfl)) Via.refl (v' := (.ref a350)) fx361 fx363 (Or.inr ⟨(hw _ (List.mem_of_getElem? (i := 32) rfl)), rfl, hnm⟩) (hw _ (List.mem_of_getElem? (i := 1) rfl)) (ty := (.array .int)) (by decide) rfl rfl (hb hby d1_65) (fun T385 h385 X385 e385 W385 => ?_)
  have fx386 : Fld Z h385 p0 "com/example/hold/hold/check/ComponentSolver" "columnCount" "[I" .null := Fld.other W385 fx362 (Or.inr (slot_ne (t := (.array .int)) (t' := (.array .int)) (Or.inr (hw _ (List.mem_of_getElem? (i := 34) rfl))) (Or.inr (hw _ (List.mem_of_getElem? (i := 32) rfl))) (by decide) (by decide) (by decide)))
  have fx387 : Exa Z h385 p0 "com/example/hold/hold/check/ComponentSolver" := Exa.wr W385 fx363
  have fx388 : Fld Z h385 p0 "com/example/hold/hold/check/ComponentSolver" "size" "I" (.int (2 : Int32)) := Fld.other W385 fx364 (Or.inr (slot_ne (t := .int) (t' := (.array .int)) (Or.inr (hw _ (List.mem_of_getElem? (i := 10) rfl))) (Or.inr (hw _ (List.mem_of_getElem? (i := 32) rfl))) (by decide) (by decide) (by decide)))
  have fx389 : Ar Z h385 a17 (.array .int) [.null, .null] := Ar.other fx365 W385 (Ne.symm (Nat.ne_of_lt lt18))
  have fx390 : Ovc Z h385 a17 "[I" := Ovc.wr fx366 W385
  have fx391 : Fld Z h385 p0 "com/example/hold/hold/check/ComponentSolver" "columns" "[[I" (.ref a17) := Fld.other W385 fx367 (Or.inr (slot_ne (t := (.array (.array .int))) (t' := (.array .int)) (Or.inr (hw _ (List.mem_of_getElem? (i := 14) rfl))) (Or.inr (hw _ (List.mem_of_getElem? (i := 32) rfl))) (by decide) (by decide) (by decide)))
  have fx392 : Ar Z h385 a53 (.array .double) [.null, .null] := Ar.other fx368 W385 (Ne.symm (Nat.ne_of_lt lt54))
  have fx393 : Ovc Z h385 a53 "[D" := Ovc.wr fx369 W385
  have fx394 : Fld Z h385 p0 "com/example/hold/hold/check/ComponentSolver" "values" "[[D" (.ref a53) := Fld.other W385 fx370 (Or.inr (slot_ne (t := (.array (.array .double))) (t' := (.array .int)) (Or.inr (hw _ (List.mem_of_getElem? (i := 18) rfl))) (Or.inr (hw _ (List.mem_of_getElem? (i := 32) rfl))) (by decide) (by decide) (by decide)))
  have fx395 : Ar Z h385 a94 .int [(.int (0 : Int32)), (.int (0 : Int32))] := Ar.other fx371 W385 (Ne.symm (Nat.ne_of_lt lt95))
  have fx396 : Fld Z h385 p0 "com/example/hold/hold/check/ComponentSolver" "length" "[I" (.ref a94) := Fld.other W385 fx372 (Or.inr (slot_ne (t := (.array .int)) (t' := (.array .int)) (Or.inr (hw _ (List.mem_of_getElem? (i := 21) rfl))) (Or.inr (hw _ (List.mem_of_getElem? (i := 32) rfl))) (by decide) (by decide) (by decide)))
  have fx397 : Ar Z h385 a139 .double [(.double (FP.l2d 0)), (.double (FP.l2d 0))] := Ar.other fx373 W385 (Ne.symm (Nat.ne_of_lt lt140))
  have fx398 : Fld Z h385 p0 "com/example/hold/hold/check/ComponentSolver" "leaving" "[D" (.ref a139) := Fld.other W385 fx374 (Or.inr (slot_ne (t := (.array .double)) (t' := (.array .int)) (Or.inr (hw _ (List.mem_of_getElem? (i := 24) rfl))) (Or.inr (hw _ (List.mem_of_getElem? (i := 32) rfl))) (by decide) (by decide) (by decide)))
  have fx399 : Ar Z h385 a187 .double [(.double (FP.l2d 0)), (.double (FP.l2d 0))] := Ar.other fx375 W385 (Ne.symm (Nat.ne_of_lt lt188))
  have fx400 : Fld Z h385 p0 "com/example/hold/hold/check/ComponentSolver" "exits" "[D" (.ref a187) := Fld.other W385 fx376 (Or.inr (slot_ne (t := (.array .double)) (t' := (.array .int)) (Or.inr (hw _ (List.mem_of_getElem? (i := 26) rfl))) (Or.inr (hw _ (List.mem_of_getElem? (i := 32) rfl))) (by decide) (by decide) (by decide)))
  have fx401 : Ar Z h385 a238 .double [(.double (FP.l2d 0)), (.double (FP.l2d 0))] := Ar.other fx377 W385 (Ne.symm (Nat.ne_of_lt lt239))
  have fx402 : Fld Z h385 p0 "com/example/hold/hold/check/ComponentSolver" "surplus" "[D" (.ref a238) := Fld.other W385 fx378 (Or.inr (slot_ne (t := (.array .double)) (t' := (.array .int)) (Or.inr (hw _ (List.mem_of_getElem? (i := 28) rfl))) (Or.inr (hw _ (List.mem_of_getElem? (i := 32) rfl))) (by decide) (by decide) (by decide)))
  have fx403 : Ar Z h385 a292 (.array .int) [.null, .null] := Ar.other fx379 W385 (Ne.symm (Nat.ne_of_lt lt293))
  have fx404 : Ovc Z h385 a292 "[I" := Ovc.wr fx380 W385
  have fx405 : Fld Z h385 p0 "com/example/hold/hold/check/ComponentSolver" "rowsUsing" "[[I" (.ref a292) := Fld.other W385 fx381 (Or.inr (slot_ne (t := (.array (.array .int))) (t' := (.array .int)) (Or.inr (hw _ (List.mem_of_getElem? (i := 30) rfl))) (Or.inr (hw _ (List.mem_of_getElem? (i := 32) rfl))) (by decide) (by decide) (by decide)))
  have fx406 : Ar Z h385 a350 .int [(.int (0 : Int32)), (.int (0 : Int32))] := Ar.other fx384 W385 (Ne.symm (Nat.ne_of_lt lt351))
  have fx407 : Exa Z h385 a350 "[I" := Exa.wr W385 Ea350
  have fx408 : Fld Z h385 p0 "com/example/hold/hold/check/ComponentSolver" "rowsUsingCount" "[I" (.ref a350) := Fld.same W385 fx361
  have N409 := Fr.snoc X385 N347 ga
  have Z410 : n0 ≤ h385.size := by rw [W385.size]; exact Z382
  have K411 : Keep h0 h385 [p0] := Keep.wr K383 W385 (Or.inl (List.mem_of_getElem? (i := 0) rfl))
  show Goes p.tables e below (T385.setTop (mkF m 68 #[.val (.ref p0), .val (.int (2 : Int32)), .unset] [])) _
  refine g_aloadN X385 hx (hb hby d1_68) rfl rfl ?_
  refine g_iloadN X385 hx (hb hby d1_69) rfl ?_
  refine g_newarr X385 hx hZ e385 (hw _ (List.mem_of_getElem? (i := 19) rfl)) (hb hby d1_70) (n := 2) (by decide) 2 (by decide) (by decide) (by decide) (by decide) (ad := "[I") (by decide) rfl (fun T412 h412 a412 ga412 X412 e412 Ex412 Aa412 Ea412 => ?_)
  have lt413 : p0 < a412 := by rw [ga412]; exact fx386.lt
  have lt414 : a17 < a412 := by rw [ga412]; exact fx389.lt
  have lt415 : a53 < a412 := by rw [ga412]; exact fx392.lt
  have lt416 : a94 < a412 := by rw [ga412]; exact fx395.lt
  have lt417 : a139 < a412 := by rw [ga412]; exact fx397.lt
  have lt418 : a187 < a412 := by rw [ga412]; exact fx399.lt
  have lt419 : a238 < a412 := by rw [ga412]; exact fx401.lt
  have lt420 : a292 < a412 := by rw [ga412]; exact fx403.lt
  have lt421 : a350 < a412 := by rw [ga412]; exact fx406.lt
  have ge422 : n0 ≤ a412 := by rw [ga412]; exact Z410
  have ge423 : h0.size ≤ a412 := by rw [ga412]; exact K411.1
  have fx424 : Fld Z h412 p0 "com/example/hold/hold/check/ComponentSolver" "columnCount" "[I" .null := Fld.ext Ex412 fx386
  have fx425 : Exa Z h412 p0 "com/example/hold/hold/check/ComponentSolver" := Exa.ext Ex412 fx387
  have fx426 : Fld Z h412 p0 "com/example/hold/hold/check/ComponentSolver" "size" "I" (.int (2 : Int32)) := Fld.ext Ex412 fx388
  have fx427 : Ar Z h412 a17 (.array .int) [.null, .null] := Ar.ext fx389 Ex412
  have fx428 : Ovc Z h412 a17 "[I" := Ovc.ext fx390 Ex412
  have fx429 : Fld Z h412 p0 "com/example/hold/hold/check/ComponentSolver" "columns" "[[I" (.ref a17) := Fld.ext Ex412 fx391
  have fx430 : Ar Z h412 a53 (.array .double) [.null, .null] := Ar.ext fx392 Ex412
  have fx431 : Ovc Z h412 a53 "[D" := Ovc.ext fx393 Ex412
  have fx432 : Fld Z h412 p0 "com/example/hold/hold/check/ComponentSolver" "values" "[[D" (.ref a53) := Fld.ext Ex412 fx394
  have fx433 : Ar Z h412 a94 .int [(.int (0 : Int32)), (.int (0 : Int32))] := Ar.ext fx395 Ex412
  have fx434 : Fld Z h412 p0 "com/example/hold/hold/check/ComponentSolver" "length" "[I" (.ref a94) := Fld.ext Ex412 fx396
  have fx435 : Ar Z h412 a139 .double [(.double (FP.l2d 0)), (.double (FP.l2d 0))] := Ar.ext fx397 Ex412
  have fx436 : Fld Z h412 p0 "com/example/hold/hold/check/ComponentSolver" "leaving" "[D" (.ref a139) := Fld.ext Ex412 fx398
  have fx437 : Ar Z h412 a187 .double [(.double (FP.l2d 0)), (.double (FP.l2d 0))] := Ar.ext fx399 Ex412
  have fx438 : Fld Z h412 p0 "com/example/hold/hold/check/ComponentSolver" "exits" "[D" (.ref a187) := Fld.ext Ex412 fx400
  have fx439 : Ar Z h412 a238 .double [(.double (FP.l2d 0)), (.double (FP.l2d 0))] := Ar.ext fx401 Ex412
  have fx440 : Fld Z h412 p0 "com/example/hold/hold/check/ComponentSolver" "surplus" "[D" (.ref a238) := Fld.ext Ex412 fx402
  have fx441 : Ar Z h412 a292 (.array .int) [.null, .null] := Ar.ext fx403 Ex412
  have fx442 : Ovc Z h412 a292 "[I" := Ovc.ext fx404 Ex412
  have fx443 : Fld Z h412 p0 "com/example/hold/hold/check/ComponentSolver" "rowsUsing" "[[I" (.ref a292) := Fld.ext Ex412 fx405
  have fx444 : Ar Z h412 a350 .int [(.int (0 : Int32)), (.int (0 : Int32))] := Ar.ext fx406 Ex412
  have fx445 : Fld Z h412 p0 "com/example/hold/hold/check/ComponentSolver" "rowsUsingCount" "[I" (.ref a350) := Fld.ext Ex412 fx408
  have Z446 : n0 ≤ h412.size := Nat.le_trans Z410 Ex412.1
  have K447 : Keep h0 h412 [p0] := Keep.ext K411 Ex412
  have fx448 : Ar Z h412 a412 .int [(.int (0 : Int32)), (.int (0 : Int32))] := Aa412
  show Goes p.tables e below (T412.setTop (mkF m 72 #[.val (.ref p0), .val (.int (2 : Int32)), .unset] [(.ref a412), (.ref p0)])) _
  refine g_putF X412 hx hZ hown e412 (hw _ (List.mem_of_getElem? (i := 33) rfl)) Via.refl (v' := (.ref a412)) fx424 fx425 (Or.inr ⟨(hw _ (List.mem_of_getElem? (i := 34) rfl)), rfl, hnm⟩) (hw _ (List.mem_of_getElem? (i := 1) rfl)) (ty := (.array .int)) (by decide) rfl rfl (hb hby d1_72) (fun T449 h449 X449 e449 W449 => ?_)
  have fx450 : Exa Z h449 p0 "com/example/hold/hold/check/ComponentSolver" := Exa.wr W449 fx425
  have fx451 : Fld Z h449 p0 "com/example/hold/hold/check/ComponentSolver" "size" "I" (.int (2 : Int32)) := Fld.other W449 fx426 (Or.inr (slot_ne (t := .int) (t' := (.array .int)) (Or.inr (hw _ (List.mem_of_getElem? (i := 10) rfl))) (Or.inr (hw _ (List.mem_of_getElem? (i := 34) rfl))) (by decide) (by decide) (by decide)))
  have fx452 : Ar Z h449 a17 (.array .int) [.null, .null] := Ar.other fx427 W449 (Ne.symm (Nat.ne_of_lt lt18))
  have fx453 : Ovc Z h449 a17 "[I" := Ovc.wr fx428 W449
  have fx454 : Fld Z h449 p0 "com/example/hold/hold/check/ComponentSolver" "columns" "[[I" (.ref a17) := Fld.other W449 fx429 (Or.inr (slot_ne (t := (.array (.array .int))) (t' := (.array .int)) (Or.inr (hw _ (List.mem_of_getElem? (i := 14) rfl))) (Or.inr (hw _ (List.mem_of_getElem? (i := 34) rfl))) (by decide) (by decide) (by decide)))
  have fx455 : Ar Z h449 a53 (.array .double) [.null, .null] := Ar.other fx430 W449 (Ne.symm (Nat.ne_of_lt lt54))
  have fx456 : Ovc Z h449 a53 "[D" := Ovc.wr fx431 W449
  have fx457 : Fld Z h449 p0 "com/example/hold/hold/check/ComponentSolver" "values" "[[D" (.ref a53) := Fld.other W449 fx432 (Or.inr (slot_ne (t := (.array (.array .double))) (t' := (.array .int)) (Or.inr (hw _ (List.mem_of_getElem? (i := 18) rfl))) (Or.inr (hw _ (List.mem_of_getElem? (i := 34) rfl))) (by decide) (by decide) (by decide)))
  have fx458 : Ar Z h449 a94 .int [(.int (0 : Int32)), (.int (0 : Int32))] := Ar.other fx433 W449 (Ne.symm (Nat.ne_of_lt lt95))
  have fx459 : Fld Z h449 p0 "com/example/hold/hold/check/ComponentSolver" "length" "[I" (.ref a94) := Fld.other W449 fx434 (Or.inr (slot_ne (t := (.array .int)) (t' := (.array .int)) (Or.inr (hw _ (List.mem_of_getElem? (i := 21) rfl))) (Or.inr (hw _ (List.mem_of_getElem? (i := 34) rfl))) (by decide) (by decide) (by decide)))
  have fx460 : Ar Z h449 a139 .double [(.double (FP.l2d 0)), (.double (FP.l2d 0))] := Ar.other fx435 W449 (Ne.symm (Nat.ne_of_lt lt140))
  have fx461 : Fld Z h449 p0 "com/example/hold/hold/check/ComponentSolver" "leaving" "[D" (.ref a139) := Fld.other W449 fx436 (Or.inr (slot_ne (t := (.array .double)) (t' := (.array .int)) (Or.inr (hw _ (List.mem_of_getElem? (i := 24) rfl))) (Or.inr (hw _ (List.mem_of_getElem? (i := 34) rfl))) (by decide) (by decide) (by decide)))
  have fx462 : Ar Z h449 a187 .double [(.double (FP.l2d 0)), (.double (FP.l2d 0))] := Ar.other fx437 W449 (Ne.symm (Nat.ne_of_lt lt188))
  have fx463 : Fld Z h449 p0 "com/example/hold/hold/check/ComponentSolver" "exits" "[D" (.ref a187) := Fld.other W449 fx438 (Or.inr (slot_ne (t := (.array .double)) (t' := (.array .int)) (Or.inr (hw _ (List.mem_of_getElem? (i := 26) rfl))) (Or.inr (hw _ (List.mem_of_getElem? (i := 34) rfl))) (by decide) (by decide) (by decide)))
  have fx464 : Ar Z h449 a238 .double [(.double (FP.l2d 0)), (.double (FP.l2d 0))] := Ar.other fx439 W449 (Ne.symm (Nat.ne_of_lt lt239))
  have fx465 : Fld Z h449 p0 "com/example/hold/hold/check/ComponentSolver" "surplus" "[D" (.ref a238) := Fld.other W449 fx440 (Or.inr (slot_ne (t := (.array .double)) (t' := (.array .int)) (Or.inr (hw _ (List.mem_of_getElem? (i := 28) rfl))) (Or.inr (hw _ (List.mem_of_getElem? (i := 34) rfl))) (by decide) (by decide) (by decide)))
  have fx466 : Ar Z h449 a292 (.array .int) [.null, .null] := Ar.other fx441 W449 (Ne.symm (Nat.ne_of_lt lt293))
  have fx467 : Ovc Z h449 a292 "[I" := Ovc.wr fx442 W449
  have fx468 : Fld Z h449 p0 "com/example/hold/hold/check/ComponentSolver" "rowsUsing" "[[I" (.ref a292) := Fld.other W449 fx443 (Or.inr (slot_ne (t := (.array (.array .int))) (t' := (.array .int)) (Or.inr (hw _ (List.mem_of_getElem? (i := 30) rfl))) (Or.inr (hw _ (List.mem_of_getElem? (i := 34) rfl))) (by decide) (by decide) (by decide)))
  have fx469 : Ar Z h449 a350 .int [(.int (0 : Int32)), (.int (0 : Int32))] := Ar.other fx444 W449 (Ne.symm (Nat.ne_of_lt lt351))
  have fx470 : Fld Z h449 p0 "com/example/hold/hold/check/ComponentSolver" "rowsUsingCount" "[I" (.ref a350) := Fld.other W449 fx445 (Or.inr (slot_ne (t := (.array .int)) (t' := (.array .int)) (Or.inr (hw _ (List.mem_of_getElem? (i := 32) rfl))) (Or.inr (hw _ (List.mem_of_getElem? (i := 34) rfl))) (by decide) (by decide) (by decide)))
  have fx471 : Ar Z h449 a412 .int [(.int (0 : Int32)), (.int (0 : Int32))] := Ar.other fx448 W449 (Ne.symm (Nat.ne_of_lt lt413))
  have fx472 : Exa Z h449 a412 "[I" := Exa.wr W449 Ea412
  have fx473 : Fld Z h449 p0 "com/example/hold/hold/check/ComponentSolver" "columnCount" "[I" (.ref a412) := Fld.same W449 fx424
  have N474 := Fr.snoc X449 N409 ga
  have Z475 : n0 ≤ h449.size := by rw [W449.size]; exact Z446
  have K476 : Keep h0 h449 [p0] := Keep.wr K447 W449 (Or.inl (List.mem_of_getElem? (i := 0) rfl))
  show Goes p.tables e below (T449.setTop (mkF m 75 #[.val (.ref p0), .val (.int (2 : Int32)), .unset] [])) _
  refine g_iconst X449 hx (0 : Int32) (hb hby d1_75) rfl ?_
  refine g_istoreN X449 hx (hb hby d1_76) (l' := #[.val (.ref p0), .val (.int (2 : Int32)), .val (.int (0 : Int32))]) rfl ?_
  refine g_iloadN X449 hx (hb hby d1_77) rfl ?_
  refine g_iloadN X449 hx (hb hby d1_78) rfl ?_
  refine g_icmp_ge X449 hx (hb hby d1_79) (by decide) (pc' := 115) (by decide) (fun q => absurd (by decide) q) (fun _ => ?_)
  show Goes p.tables e below (T449.setTop (mkF m 82 #[.val (.ref p0), .val (.int (2 : Int32)), .val (.int (0 : Int32))] [])) _
  refine g_aloadN X449 hx (hb hby d1_82) rfl rfl ?_
  refine g_getF X449 hx hZ hown e449 (host := "") (Or.inl (hw _ (List.mem_of_getElem? (i := 13) rfl))) Via.refl fx454 (hb hby d1_83) (fun T477 X477 e477 => ?_)
  show Goes p.tables e below (T477.setTop (mkF m 86 #[.val (.ref p0), .val (.int (2 : Int32)), .val (.int (0 : Int32))] [(.ref a17)])) _
  refine g_iloadN X477 hx (hb hby d1_86) rfl ?_
  refine g_iconst X477 hx (2 : Int32) (hb hby d1_87) rfl ?_
  refine g_newarr X477 hx hZ e477 (hw _ (List.mem_of_getElem? (i := 19) rfl)) (hb hby d1_88) (n := 2) (by decide) 2 (by decide) (by decide) (by decide) (by decide) (ad := "[I") (by decide) rfl (fun T478 h478 a478 ga478 X478 e478 Ex478 Aa478 Ea478 => ?_)
  have lt479 : p0 < a478 := by rw [ga478]; exact fx450.lt
  have lt480 : a17 < a478 := by rw [ga478]; exact fx452.lt
  have lt481 : a53 < a478 := by rw [ga478]; exact fx455.lt
  have lt482 : a94 < a478 := by rw [ga478]; exact fx458.lt
  have lt483 : a139 < a478 := by rw [ga478]; exact fx460.lt
  have lt484 : a187 < a478 := by rw [ga478]; exact fx462.lt
  have lt485 : a238 < a478 := by rw [ga478]; exact fx464.lt
  have lt486 : a292 < a478 := by rw [ga478]; exact fx466.lt
  have lt487 : a350 < a478 := by rw [ga478]; exact fx469.lt
  have lt488 : a412 < a478 := by rw [ga478]; exact fx471.lt
  have ge489 : n0 ≤ a478 := by rw [ga478]; exact Z475
  have ge490 : h0.size ≤ a478 := by rw [ga478]; exact K476.1
  have fx491 : Exa Z h478 p0 "com/example/hold/hold/check/ComponentSolver" := Exa.ext Ex478 fx450
  have fx492 : Fld Z h478 p0 "com/example/hold/hold/check/ComponentSolver" "size" "I" (.int (2 : Int32)) := Fld.ext Ex478 fx451
  have fx493 : Ar Z h478 a17 (.array .int) [.null, .null] := Ar.ext fx452 Ex478
  have fx494 : Ovc Z h478 a17 "[I" := Ovc.ext fx453 Ex478
  have fx495 : Fld Z h478 p0 "com/example/hold/hold/check/ComponentSolver" "columns" "[[I" (.ref a17) := Fld.ext Ex478 fx454
  have fx496 : Ar Z h478 a53 (.array .double) [.null, .null] := Ar.ext fx455 Ex478
  have fx497 : Ovc Z h478 a53 "[D" := Ovc.ext fx456 Ex478
  have fx498 : Fld Z h478 p0 "com/example/hold/hold/check/ComponentSolver" "values" "[[D" (.ref a53) := Fld.ext Ex478 fx457
  have fx499 : Ar Z h478 a94 .int [(.int (0 : Int32)), (.int (0 : Int32))] := Ar.ext fx458 Ex478
  have fx500 : Fld Z h478 p0 "com/example/hold/hold/check/ComponentSolver" "length" "[I" (.ref a94) := Fld.ext Ex478 fx459
  have fx501 : Ar Z h478 a139 .double [(.double (FP.l2d 0)), (.double (FP.l2d 0))] := Ar.ext fx460 Ex478
  have fx502 : Fld Z h478 p0 "com/example/hold/hold/check/ComponentSolver" "leaving" "[D" (.ref a139) := Fld.ext Ex478 fx461
  have fx503 : Ar Z h478 a187 .double [(.double (FP.l2d 0)), (.double (FP.l2d 0))] := Ar.ext fx462 Ex478
  have fx504 : Fld Z h478 p0 "com/example/hold/hold/check/ComponentSolver" "exits" "[D" (.ref a187) := Fld.ext Ex478 fx463
  have fx505 : Ar Z h478 a238 .double [(.double (FP.l2d 0)), (.double (FP.l2d 0))] := Ar.ext fx464 Ex478
  have fx506 : Fld Z h478 p0 "com/example/hold/hold/check/ComponentSolver" "surplus" "[D" (.ref a238) := Fld.ext Ex478 fx465
  have fx507 : Ar Z h478 a292 (.array .int) [.null, .null] := Ar.ext fx466 Ex478
  have fx508 : Ovc Z h478 a292 "[I" := Ovc.ext fx467 Ex478
  have fx509 : Fld Z h478 p0 "com/example/hold/hold/check/ComponentSolver" "rowsUsing" "[[I" (.ref a292) := Fld.ext Ex478 fx468
  have fx510 : Ar Z h478 a350 .int [(.int (0 : Int32)), (.int (0 : Int32))] := Ar.ext fx469 Ex478
  have fx511 : Fld Z h478 p0 "com/example/hold/hold/check/ComponentSolver" "rowsUsingCount" "[I" (.ref a350) := Fld.ext Ex478 fx470
  have fx512 : Ar Z h478 a412 .int [(.int (0 : Int32)), (.int (0 : Int32))] := Ar.ext fx471 Ex478
  have fx513 : Fld Z h478 p0 "com/example/hold/hold/check/ComponentSolver" "columnCount" "[I" (.ref a412) := Fld.ext Ex478 fx473
  have Z514 : n0 ≤ h478.size := Nat.le_trans Z475 Ex478.1
  have K515 : Keep h0 h478 [p0] := Keep.ext K476 Ex478
  have fx516 : Ar Z h478 a478 .int [(.int (0 : Int32)), (.int (0 : Int32))] := Aa478
  show Goes p.tables e below (T478.setTop (mkF m 90 #[.val (.ref p0), .val (.int (2 : Int32)), .val (.int (0 : Int32))] [(.ref a478), (.int (0 : Int32)), (.ref a17)])) _
  refine g_aastore X478 hx hZ e478 fx493 rfl (v := (.ref a478)) rfl (Ovc.sto fx494 fx493 (Ins.self Ea478)) 0 (by decide) (by show 0 < 2; decide) (hb hby d1_90) (fun T517 h517 X517 e517 W517 A517 => ?_)
  have fx518 : Exa Z h517 p0 "com/example/hold/hold/check/ComponentSolver" := Exa.wr W517 fx491
  have fx519 : Fld Z h517 p0 "com/example/hold/hold/check/ComponentSolver" "size" "I" (.int (2 : Int32)) := Fld.other W517 fx492 (Or.inl (Nat.ne_of_lt lt18))
  have fx520 : Ovc Z h517 a17 "[I" := Ovc.wr fx494 W517
  have fx521 : Fld Z h517 p0 "com/example/hold/hold/check/ComponentSolver" "columns" "[[I" (.ref a17) := Fld.other W517 fx495 (Or.inl (Nat.ne_of_lt lt18))
  have fx522 : Ar Z h517 a53 (.array .double) [.null, .null] := Ar.other fx496 W517 (Ne.symm (Nat.ne_of_lt lt55))
  have fx523 : Ovc Z h517 a53 "[D" := Ovc.wr fx497 W517
  have fx524 : Fld Z h517 p0 "com/example/hold/hold/check/ComponentSolver" "values" "[[D" (.ref a53) := Fld.other W517 fx498 (Or.inl (Nat.ne_of_lt lt18))
  have fx525 : Ar Z h517 a94 .int [(.int (0 : Int32)), (.int (0 : Int32))] := Ar.other fx499 W517 (Ne.symm (Nat.ne_of_lt lt96))
  have fx526 : Fld Z h517 p0 "com/example/hold/hold/check/ComponentSolver" "length" "[I" (.ref a94) := Fld.other W517 fx500 (Or.inl (Nat.ne_of_lt lt18))
  have fx527 : Ar Z h517 a139 .double [(.double (FP.l2d 0)), (.double (FP.l2d 0))] := Ar.other fx501 W517 (Ne.symm (Nat.ne_of_lt lt141))
  have fx528 : Fld Z h517 p0 "com/example/hold/hold/check/ComponentSolver" "leaving" "[D" (.ref a139) := Fld.other W517 fx502 (Or.inl (Nat.ne_of_lt lt18))
  have fx529 : Ar Z h517 a187 .double [(.double (FP.l2d 0)), (.double (FP.l2d 0))] := Ar.other fx503 W517 (Ne.symm (Nat.ne_of_lt lt189))
  have fx530 : Fld Z h517 p0 "com/example/hold/hold/check/ComponentSolver" "exits" "[D" (.ref a187) := Fld.other W517 fx504 (Or.inl (Nat.ne_of_lt lt18))
  have fx531 : Ar Z h517 a238 .double [(.double (FP.l2d 0)), (.double (FP.l2d 0))] := Ar.other fx505 W517 (Ne.symm (Nat.ne_of_lt lt240))
  have fx532 : Fld Z h517 p0 "com/example/hold/hold/check/ComponentSolver" "surplus" "[D" (.ref a238) := Fld.other W517 fx506 (Or.inl (Nat.ne_of_lt lt18))
  have fx533 : Ar Z h517 a292 (.array .int) [.null, .null] := Ar.other fx507 W517 (Ne.symm (Nat.ne_of_lt lt294))
  have fx534 : Ovc Z h517 a292 "[I" := Ovc.wr fx508 W517
  have fx535 : Fld Z h517 p0 "com/example/hold/hold/check/ComponentSolver" "rowsUsing" "[[I" (.ref a292) := Fld.other W517 fx509 (Or.inl (Nat.ne_of_lt lt18))
  have fx536 : Ar Z h517 a350 .int [(.int (0 : Int32)), (.int (0 : Int32))] := Ar.other fx510 W517 (Ne.symm (Nat.ne_of_lt lt352))
  have fx537 : Fld Z h517 p0 "com/example/hold/hold/check/ComponentSolver" "rowsUsingCount" "[I" (.ref a350) := Fld.other W517 fx511 (Or.inl (Nat.ne_of_lt lt18))
  have fx538 : Ar Z h517 a412 .int [(.int (0 : Int32)), (.int (0 : Int32))] := Ar.other fx512 W517 (Ne.symm (Nat.ne_of_lt lt414))
  have fx539 : Fld Z h517 p0 "com/example/hold/hold/check/ComponentSolver" "columnCount" "[I" (.ref a412) := Fld.other W517 fx513 (Or.inl (Nat.ne_of_lt lt18))
  have fx540 : Ar Z h517 a478 .int [(.int (0 : Int32)), (.int (0 : Int32))] := Ar.other fx516 W517 (Ne.symm (Nat.ne_of_lt lt480))
  have fx541 : Exa Z h517 a478 "[I" := Exa.wr W517 Ea478
  have fx542 : Ar Z h517 a17 (.array .int) [(.ref a478), .null] := A517
  have N543 := Fr.snoc X517 N474 ge19
  have Z544 : n0 ≤ h517.size := by rw [W517.size]; exact Z514
  have K545 : Keep h0 h517 [p0] := Keep.wr K515 W517 (Or.inr ge20)
  show Goes p.tables e below (T517.setTop (mkF m 91 #[.val (.ref p0), .val (.int (2 : Int32)), .val (.int (0 : Int32))] [])) _
  refine g_aloadN X517 hx (hb hby d1_91) rfl rfl ?_
  refine g_getF X517 hx hZ hown e517 (host := "") (Or.inl (hw _ (List.mem_of_getElem? (i := 17) rfl))) Via.refl fx524 (hb hby d1_92) (fun T546 X546 e546 => ?_)
  show Goes p.tables e below (T546.setTop (mkF m 95 #[.val (.ref p0), .val (.int (2 : Int32)), .val (.int (0 : Int32))] [(.ref a53)])) _
  refine g_iloadN X546 hx (hb hby d1_95) rfl ?_
  refine g_iconst X546 hx (2 : Int32) (hb hby d1_96) rfl ?_
  refine g_newarr X546 hx hZ e546 (hw _ (List.mem_of_getElem? (i := 22) rfl)) (hb hby d1_97) (n := 2) (by decide) 2 (by decide) (by decide) (by decide) (by decide) (ad := "[D") (by decide) rfl (fun T547 h547 a547 ga547 X547 e547 Ex547 Aa547 Ea547 => ?_)
  have lt548 : p0 < a547 := by rw [ga547]; exact fx518.lt
  have lt549 : a53 < a547 := by rw [ga547]; exact fx522.lt
  have lt550 : a94 < a547 := by rw [ga547]; exact fx525.lt
  have lt551 : a139 < a547 := by rw [ga547]; exact fx527.lt
  have lt552 : a187 < a547 := by rw [ga547]; exact fx529.lt
  have lt553 : a238 < a547 := by rw [ga547]; exact fx531.lt
  have lt554 : a292 < a547 := by rw [ga547]; exact fx533.lt
  have lt555 : a350 < a547 := by rw [ga547]; exact fx536.lt
  have lt556 : a412 < a547 := by rw [ga547]; exact fx538.lt
  have lt557 : a17 < a547 := by rw [ga547]; exact fx542.lt
  have ge558 : n0 ≤ a547 := by rw [ga547]; exact Z544
  have ge559 : h0.size ≤ a547 := by rw [ga547]; exact K545.1
  have fx560 : Exa Z h547 p0 "com/example/hold/hold/check/ComponentSolver" := Exa.ext Ex547 fx518
  have fx561 : Fld Z h547 p0 "com/example/hold/hold/check/ComponentSolver" "size" "I" (.int (2 : Int32)) := Fld.ext Ex547 fx519
  have fx562 : Ovc Z h547 a17 "[I" := Ovc.ext fx520 Ex547
  have fx563 : Fld Z h547 p0 "com/example/hold/hold/check/ComponentSolver" "columns" "[[I" (.ref a17) := Fld.ext Ex547 fx521
  have fx564 : Ar Z h547 a53 (.array .double) [.null, .null] := Ar.ext fx522 Ex547
  have fx565 : Ovc Z h547 a53 "[D" := Ovc.ext fx523 Ex547
  have fx566 : Fld Z h547 p0 "com/example/hold/hold/check/ComponentSolver" "values" "[[D" (.ref a53) := Fld.ext Ex547 fx524
  have fx567 : Ar Z h547 a94 .int [(.int (0 : Int32)), (.int (0 : Int32))] := Ar.ext fx525 Ex547
  have fx568 : Fld Z h547 p0 "com/example/hold/hold/check/ComponentSolver" "length" "[I" (.ref a94) := Fld.ext Ex547 fx526
  have fx569 : Ar Z h547 a139 .double [(.double (FP.l2d 0)), (.double (FP.l2d 0))] := Ar.ext fx527 Ex547
  have fx570 : Fld Z h547 p0 "com/example/hold/hold/check/ComponentSolver" "leaving" "[D" (.ref a139) := Fld.ext Ex547 fx528
  have fx571 : Ar Z h547 a187 .double [(.double (FP.l2d 0)), (.double (FP.l2d 0))] := Ar.ext fx529 Ex547
  have fx572 : Fld Z h547 p0 "com/example/hold/hold/check/ComponentSolver" "exits" "[D" (.ref a187) := Fld.ext Ex547 fx530
  have fx573 : Ar Z h547 a238 .double [(.double (FP.l2d 0)), (.double (FP.l2d 0))] := Ar.ext fx531 Ex547
  have fx574 : Fld Z h547 p0 "com/example/hold/hold/check/ComponentSolver" "surplus" "[D" (.ref a238) := Fld.ext Ex547 fx532
  have fx575 : Ar Z h547 a292 (.array .int) [.null, .null] := Ar.ext fx533 Ex547
  have fx576 : Ovc Z h547 a292 "[I" := Ovc.ext fx534 Ex547
  have fx577 : Fld Z h547 p0 "com/example/hold/hold/check/ComponentSolver" "rowsUsing" "[[I" (.ref a292) := Fld.ext Ex547 fx535
  have fx578 : Ar Z h547 a350 .int [(.int (0 : Int32)), (.int (0 : Int32))] := Ar.ext fx536 Ex547
  have fx579 : Fld Z h547 p0 "com/example/hold/hold/check/ComponentSolver" "rowsUsingCount" "[I" (.ref a350) := Fld.ext Ex547 fx537
  have fx580 : Ar Z h547 a412 .int [(.int (0 : Int32)), (.int (0 : Int32))] := Ar.ext fx538 Ex547
  have fx581 : Fld Z h547 p0 "com/example/hold/hold/check/ComponentSolver" "columnCount" "[I" (.ref a412) := Fld.ext Ex547 fx539
  have fx582 : Ar Z h547 a17 (.array .int) [(.ref a478), .null] := Ar.ext fx542 Ex547
  have Z583 : n0 ≤ h547.size := Nat.le_trans Z544 Ex547.1
  have K584 : Keep h0 h547 [p0] := Keep.ext K545 Ex547
  have fx585 : Ar Z h547 a547 .double [(.double (FP.l2d 0)), (.double (FP.l2d 0))] := (by rw [l2d_zero]; exact Aa547)
  show Goes p.tables e below (T547.setTop (mkF m 99 #[.val (.ref p0), .val (.int (2 : Int32)), .val (.int (0 : Int32))] [(.ref a547), (.int (0 : Int32)), (.ref a53)])) _
  refine g_aastore X547 hx hZ e547 fx564 rfl (v := (.ref a547)) rfl (Ovc.sto fx565 fx564 (Ins.self Ea547)) 0 (by decide) (by show 0 < 2; decide) (hb hby d1_99) (fun T586 h586 X586 e586 W586 A586 => ?_)
  have fx587 : Exa Z h586 p0 "com/example/hold/hold/check/ComponentSolver" := Exa.wr W586 fx560
  have fx588 : Fld Z h586 p0 "com/example/hold/hold/check/ComponentSolver" "size" "I" (.int (2 : Int32)) := Fld.other W586 fx561 (Or.inl (Nat.ne_of_lt lt54))
  have fx589 : Ovc Z h586 a17 "[I" := Ovc.wr fx562 W586
  have fx590 : Fld Z h586 p0 "com/example/hold/hold/check/ComponentSolver" "columns" "[[I" (.ref a17) := Fld.other W586 fx563 (Or.inl (Nat.ne_of_lt lt54))
  have fx591 : Ovc Z h586 a53 "[D" := Ovc.wr fx565 W586
  have fx592 : Fld Z h586 p0 "com/example/hold/hold/check/ComponentSolver" "values" "[[D" (.ref a53) := Fld.other W586 fx566 (Or.inl (Nat.ne_of_lt lt54))
  have fx593 : Ar Z h586 a94 .int [(.int (0 : Int32)), (.int (0 : Int32))] := Ar.other fx567 W586 (Ne.symm (Nat.ne_of_lt lt97))
  have fx594 : Fld Z h586 p0 "com/example/hold/hold/check/ComponentSolver" "length" "[I" (.ref a94) := Fld.other W586 fx568 (Or.inl (Nat.ne_of_lt lt54))
  have fx595 : Ar Z h586 a139 .double [(.double (FP.l2d 0)), (.double (FP.l2d 0))] := Ar.other fx569 W586 (Ne.symm (Nat.ne_of_lt lt142))
  have fx596 : Fld Z h586 p0 "com/example/hold/hold/check/ComponentSolver" "leaving" "[D" (.ref a139) := Fld.other W586 fx570 (Or.inl (Nat.ne_of_lt lt54))
  have fx597 : Ar Z h586 a187 .double [(.double (FP.l2d 0)), (.double (FP.l2d 0))] := Ar.other fx571 W586 (Ne.symm (Nat.ne_of_lt lt190))
  have fx598 : Fld Z h586 p0 "com/example/hold/hold/check/ComponentSolver" "exits" "[D" (.ref a187) := Fld.other W586 fx572 (Or.inl (Nat.ne_of_lt lt54))
  have fx599 : Ar Z h586 a238 .double [(.double (FP.l2d 0)), (.double (FP.l2d 0))] := Ar.other fx573 W586 (Ne.symm (Nat.ne_of_lt lt241))
  have fx600 : Fld Z h586 p0 "com/example/hold/hold/check/ComponentSolver" "surplus" "[D" (.ref a238) := Fld.other W586 fx574 (Or.inl (Nat.ne_of_lt lt54))
  have fx601 : Ar Z h586 a292 (.array .int) [.null, .null] := Ar.other fx575 W586 (Ne.symm (Nat.ne_of_lt lt295))
  have fx602 : Ovc Z h586 a292 "[I" := Ovc.wr fx576 W586
  have fx603 : Fld Z h586 p0 "com/example/hold/hold/check/ComponentSolver" "rowsUsing" "[[I" (.ref a292) := Fld.other W586 fx577 (Or.inl (Nat.ne_of_lt lt54))
  have fx604 : Ar Z h586 a350 .int [(.int (0 : Int32)), (.int (0 : Int32))] := Ar.other fx578 W586 (Ne.symm (Nat.ne_of_lt lt353))
  have fx605 : Fld Z h586 p0 "com/example/hold/hold/check/ComponentSolver" "rowsUsingCount" "[I" (.ref a350) := Fld.other W586 fx579 (Or.inl (Nat.ne_of_lt lt54))
  have fx606 : Ar Z h586 a412 .int [(.int (0 : Int32)), (.int (0 : Int32))] := Ar.other fx580 W586 (Ne.symm (Nat.ne_of_lt lt415))
  have fx607 : Fld Z h586 p0 "com/example/hold/hold/check/ComponentSolver" "columnCount" "[I" (.ref a412) := Fld.other W586 fx581 (Or.inl (Nat.ne_of_lt lt54))
  have fx608 : Ar Z h586 a17 (.array .int) [(.ref a478), .null] := Ar.other fx582 W586 (Nat.ne_of_lt lt55)
  have fx609 : Ar Z h586 a547 .double [(.double (FP.l2d 0)), (.double (FP.l2d 0))] := Ar.other fx585 W586 (Ne.symm (Nat.ne_of_lt lt549))
  have fx610 : Exa Z h586 a547 "[D" := Exa.wr W586 Ea547
  have fx611 : Ar Z h586 a53 (.array .double) [(.ref a547), .null] := A586
  have N612 := Fr.snoc X586 N543 ge56
  have Z613 : n0 ≤ h586.size := by rw [W586.size]; exact Z583
  have K614 : Keep h0 h586 [p0] := Keep.wr K584 W586 (Or.inr ge57)
  show Goes p.tables e below (T586.setTop (mkF m 100 #[.val (.ref p0), .val (.int (2 : Int32)), .val (.int (0 : Int32))] [])) _
  refine g_aloadN X586 hx (hb hby d1_100) rfl rfl ?_
  refine g_getF X586 hx hZ hown e586 (host := "") (Or.inl (hw _ (List.mem_of_getElem? (i := 29) rfl))) Via.refl fx603 (hb hby d1_101) (fun T615 X615 e615 => ?_)
  show Goes p.tables e below (T615.setTop (mkF m 104 #[.val (.ref p0), .val (.int (2 : Int32)), .val (.int (0 : Int32))] [(.ref a292)])) _
  refine g_iloadN X615 hx (hb hby d1_104) rfl ?_
  refine g_iconst X615 hx (2 : Int32) (hb hby d1_105) rfl ?_
  refine g_newarr X615 hx hZ e615 (hw _ (List.mem_of_getElem? (i := 19) rfl)) (hb hby d1_106) (n := 2) (by decide) 2 (by decide) (by decide) (by decide) (by decide) (ad := "[I") (by decide) rfl (fun T616 h616 a616 ga616 X616 e616 Ex616 Aa616 Ea616 => ?_)
  have lt617 : p0 < a616 := by rw [ga616]; exact fx587.lt
  have lt618 : a94 < a616 := by rw [ga616]; exact fx593.lt
  have lt619 : a139 < a616 := by rw [ga616]; exact fx595.lt
  have lt620 : a187 < a616 := by rw [ga616]; exact fx597.lt
  have lt621 : a238 < a616 := by rw [ga616]; exact fx599.lt
  have lt622 : a292 < a616 := by rw [ga616]; exact fx601.lt
  have lt623 : a350 < a616 := by rw [ga616]; exact fx604.lt
  have lt624 : a412 < a616 := by rw [ga616]; exact fx606.lt
  have lt625 : a17 < a616 := by rw [ga616]; exact fx608.lt
  have lt626 : a53 < a616 := by rw [ga616]; exact fx611.lt
  have ge627 : n0 ≤ a616 := by rw [ga616]; exact Z613
  have ge628 : h0.size ≤ a616 := by rw [ga616]; exact K614.1
  have fx629 : Exa Z h616 p0 "com/example/hold/hold/check/ComponentSolver" := Exa.ext Ex616 fx587
  have fx630 : Fld Z h616 p0 "com/example/hold/hold/check/ComponentSolver" "size" "I" (.int (2 : Int32)) := Fld.ext Ex616 fx588
  have fx631 : Ovc Z h616 a17 "[I" := Ovc.ext fx589 Ex616
  have fx632 : Fld Z h616 p0 "com/example/hold/hold/check/ComponentSolver" "columns" "[[I" (.ref a17) := Fld.ext Ex616 fx590
  have fx633 : Ovc Z h616 a53 "[D" := Ovc.ext fx591 Ex616
  have fx634 : Fld Z h616 p0 "com/example/hold/hold/check/ComponentSolver" "values" "[[D" (.ref a53) := Fld.ext Ex616 fx592
  have fx635 : Ar Z h616 a94 .int [(.int (0 : Int32)), (.int (0 : Int32))] := Ar.ext fx593 Ex616
  have fx636 : Fld Z h616 p0 "com/example/hold/hold/check/ComponentSolver" "length" "[I" (.ref a94) := Fld.ext Ex616 fx594
  have fx637 : Ar Z h616 a139 .double [(.double (FP.l2d 0)), (.double (FP.l2d 0))] := Ar.ext fx595 Ex616
  have fx638 : Fld Z h616 p0 "com/example/hold/hold/check/ComponentSolver" "leaving" "[D" (.ref a139) := Fld.ext Ex616 fx596
  have fx639 : Ar Z h616 a187 .double [(.double (FP.l2d 0)), (.double (FP.l2d 0))] := Ar.ext fx597 Ex616
  have fx640 : Fld Z h616 p0 "com/example/hold/hold/check/ComponentSolver" "exits" "[D" (.ref a187) := Fld.ext Ex616 fx598
  have fx641 : Ar Z h616 a238 .double [(.double (FP.l2d 0)), (.double (FP.l2d 0))] := Ar.ext fx599 Ex616
  have fx642 : Fld Z h616 p0 "com/example/hold/hold/check/ComponentSolver" "surplus" "[D" (.ref a238) := Fld.ext Ex616 fx600
  have fx643 : Ar Z h616 a292 (.array .int) [.null, .null] := Ar.ext fx601 Ex616
  have fx644 : Ovc Z h616 a292 "[I" := Ovc.ext fx602 Ex616
  have fx645 : Fld Z h616 p0 "com/example/hold/hold/check/ComponentSolver" "rowsUsing" "[[I" (.ref a292) := Fld.ext Ex616 fx603
  have fx646 : Ar Z h616 a350 .int [(.int (0 : Int32)), (.int (0 : Int32))] := Ar.ext fx604 Ex616
  have fx647 : Fld Z h616 p0 "com/example/hold/hold/check/ComponentSolver" "rowsUsingCount" "[I" (.ref a350) := Fld.ext Ex616 fx605
  have fx648 : Ar Z h616 a412 .int [(.int (0 : Int32)), (.int (0 : Int32))] := Ar.ext fx606 Ex616
  have fx649 : Fld Z h616 p0 "com/example/hold/hold/check/ComponentSolver" "columnCount" "[I" (.ref a412) := Fld.ext Ex616 fx607
  have fx650 : Ar Z h616 a17 (.array .int) [(.ref a478), .null] := Ar.ext fx608 Ex616
  have fx651 : Ar Z h616 a53 (.array .double) [(.ref a547), .null] := Ar.ext fx611 Ex616
  have Z652 : n0 ≤ h616.size := Nat.le_trans Z613 Ex616.1
  have K653 : Keep h0 h616 [p0] := Keep.ext K614 Ex616
  have fx654 : Ar Z h616 a616 .int [(.int (0 : Int32)), (.int (0 : Int32))] := Aa616
  show Goes p.tables e below (T616.setTop (mkF m 108 #[.val (.ref p0), .val (.int (2 : Int32)), .val (.int (0 : Int32))] [(.ref a616), (.int (0 : Int32)), (.ref a292)])) _
  refine g_aastore X616 hx hZ e616 fx643 rfl (v := (.ref a616)) rfl (Ovc.sto fx644 fx643 (Ins.self Ea616)) 0 (by decide) (by show 0 < 2; decide) (hb hby d1_108) (fun T655 h655 X655 e655 W655 A655 => ?_)
  have fx656 : Exa Z h655 p0 "com/example/hold/hold/check/ComponentSolver" := Exa.wr W655 fx629
  have fx657 : Fld Z h655 p0 "com/example/hold/hold/check/ComponentSolver" "size" "I" (.int (2 : Int32)) := Fld.other W655 fx630 (Or.inl (Nat.ne_of_lt lt293))
  have fx658 : Ovc Z h655 a17 "[I" := Ovc.wr fx631 W655
  have fx659 : Fld Z h655 p0 "com/example/hold/hold/check/ComponentSolver" "columns" "[[I" (.ref a17) := Fld.other W655 fx632 (Or.inl (Nat.ne_of_lt lt293))
  have fx660 : Ovc Z h655 a53 "[D" := Ovc.wr fx633 W655
  have fx661 : Fld Z h655 p0 "com/example/hold/hold/check/ComponentSolver" "values" "[[D" (.ref a53) := Fld.other W655 fx634 (Or.inl (Nat.ne_of_lt lt293))
  have fx662 : Ar Z h655 a94 .int [(.int (0 : Int32)), (.int (0 : Int32))] := Ar.other fx635 W655 (Nat.ne_of_lt lt296)
  have fx663 : Fld Z h655 p0 "com/example/hold/hold/check/ComponentSolver" "length" "[I" (.ref a94) := Fld.other W655 fx636 (Or.inl (Nat.ne_of_lt lt293))
  have fx664 : Ar Z h655 a139 .double [(.double (FP.l2d 0)), (.double (FP.l2d 0))] := Ar.other fx637 W655 (Nat.ne_of_lt lt297)
  have fx665 : Fld Z h655 p0 "com/example/hold/hold/check/ComponentSolver" "leaving" "[D" (.ref a139) := Fld.other W655 fx638 (Or.inl (Nat.ne_of_lt lt293))
  have fx666 : Ar Z h655 a187 .double [(.double (FP.l2d 0)), (.double (FP.l2d 0))] := Ar.other fx639 W655 (Nat.ne_of_lt lt298)
  have fx667 : Fld Z h655 p0 "com/example/hold/hold/check/ComponentSolver" "exits" "[D" (.ref a187) := Fld.other W655 fx640 (Or.inl (Nat.ne_of_lt lt293))
  have fx668 : Ar Z h655 a238 .double [(.double (FP.l2d 0)), (.double (FP.l2d 0))] := Ar.other fx641 W655 (Nat.ne_of_lt lt299)
  have fx669 : Fld Z h655 p0 "com/example/hold/hold/check/ComponentSolver" "surplus" "[D" (.ref a238) := Fld.other W655 fx642 (Or.inl (Nat.ne_of_lt lt293))
  have fx670 : Ovc Z h655 a292 "[I" := Ovc.wr fx644 W655
  have fx671 : Fld Z h655 p0 "com/example/hold/hold/check/ComponentSolver" "rowsUsing" "[[I" (.ref a292) := Fld.other W655 fx645 (Or.inl (Nat.ne_of_lt lt293))
  have fx672 : Ar Z h655 a350 .int [(.int (0 : Int32)), (.int (0 : Int32))] := Ar.other fx646 W655 (Ne.symm (Nat.ne_of_lt lt358))
  have fx673 : Fld Z h655 p0 "com/example/hold/hold/check/ComponentSolver" "rowsUsingCount" "[I" (.ref a350) := Fld.other W655 fx647 (Or.inl (Nat.ne_of_lt lt293))
  have fx674 : Ar Z h655 a412 .int [(.int (0 : Int32)), (.int (0 : Int32))] := Ar.other fx648 W655 (Ne.symm (Nat.ne_of_lt lt420))
  have fx675 : Fld Z h655 p0 "com/example/hold/hold/check/ComponentSolver" "columnCount" "[I" (.ref a412) := Fld.other W655 fx649 (Or.inl (Nat.ne_of_lt lt293))
  have fx676 : Ar Z h655 a17 (.array .int) [(.ref a478), .null] := Ar.other fx650 W655 (Nat.ne_of_lt lt294)
  have fx677 : Ar Z h655 a53 (.array .double) [(.ref a547), .null] := Ar.other fx651 W655 (Nat.ne_of_lt lt295)
  have fx678 : Ar Z h655 a616 .int [(.int (0 : Int32)), (.int (0 : Int32))] := Ar.other fx654 W655 (Ne.symm (Nat.ne_of_lt lt622))
  have fx679 : Exa Z h655 a616 "[I" := Exa.wr W655 Ea616
  have fx680 : Ar Z h655 a292 (.array .int) [(.ref a616), .null] := A655
  have N681 := Fr.snoc X655 N612 ge300
  have Z682 : n0 ≤ h655.size := by rw [W655.size]; exact Z652
  have K683 : Keep h0 h655 [p0] := Keep.wr K653 W655 (Or.inr ge301)
  show Goes p.tables e below (T655.setTop (mkF m 109 #[.val (.ref p0), .val (.int (2 : Int32)), .val (.int (0 : Int32))] [])) _
  refine g_iinc X655 hx (1 : Int32) (hb hby d1_109) rfl rfl (l' := #[.val (.ref p0), .val (.int (2 : Int32)), .val (.int (1 : Int32))]) rfl ?_
  refine g_goto X655 hx (hb hby d1_112) (by decide) (pc' := 77) (by decide) ?_
  refine g_iloadN X655 hx (hb hby d1_77) rfl ?_
  refine g_iloadN X655 hx (hb hby d1_78) rfl ?_
  refine g_icmp_ge X655 hx (hb hby d1_79) (by decide) (pc' := 115) (by decide) (fun q => absurd (by decide) q) (fun _ => ?_)
  show Goes p.tables e below (T655.setTop (mkF m 82 #[.val (.ref p0), .val (.int (2 : Int32)), .val (.int (1 : Int32))] [])) _
  refine g_aloadN X655 hx (hb hby d1_82) rfl rfl ?_
  refine g_getF X655 hx hZ hown e655 (host := "") (Or.inl (hw _ (List.mem_of_getElem? (i := 13) rfl))) Via.refl fx659 (hb hby d1_83) (fun T684 X684 e684 => ?_)
  show Goes p.tables e below (T684.setTop (mkF m 86 #[.val (.ref p0), .val (.int (2 : Int32)), .val (.int (1 : Int32))] [(.ref a17)])) _
  refine g_iloadN X684 hx (hb hby d1_86) rfl ?_
  refine g_iconst X684 hx (2 : Int32) (hb hby d1_87) rfl ?_
  refine g_newarr X684 hx hZ e684 (hw _ (List.mem_of_getElem? (i := 19) rfl)) (hb hby d1_88) (n := 2) (by decide) 2 (by decide) (by decide) (by decide) (by decide) (ad := "[I") (by decide) rfl (fun T685 h685 a685 ga685 X685 e685 Ex685 Aa685 Ea685 => ?_)
  have lt686 : p0 < a685 := by rw [ga685]; exact fx656.lt
  have lt687 : a94 < a685 := by rw [ga685]; exact fx662.lt
  have lt688 : a139 < a685 := by rw [ga685]; exact fx664.lt
  have lt689 : a187 < a685 := by rw [ga685]; exact fx666.lt
  have lt690 : a238 < a685 := by rw [ga685]; exact fx668.lt
  have lt691 : a350 < a685 := by rw [ga685]; exact fx672.lt
  have lt692 : a412 < a685 := by rw [ga685]; exact fx674.lt
  have lt693 : a17 < a685 := by rw [ga685]; exact fx676.lt
  have lt694 : a53 < a685 := by rw [ga685]; exact fx677.lt
  have lt695 : a292 < a685 := by rw [ga685]; exact fx680.lt
  have ge696 : n0 ≤ a685 := by rw [ga685]; exact Z682
  have ge697 : h0.size ≤ a685 := by rw [ga685]; exact K683.1
  have fx698 : Exa Z h685 p0 "com/example/hold/hold/check/ComponentSolver" := Exa.ext Ex685 fx656
  have fx699 : Fld Z h685 p0 "com/example/hold/hold/check/ComponentSolver" "size" "I" (.int (2 : Int32)) := Fld.ext Ex685 fx657
  have fx700 : Ovc Z h685 a17 "[I" := Ovc.ext fx658 Ex685
  have fx701 : Fld Z h685 p0 "com/example/hold/hold/check/ComponentSolver" "columns" "[[I" (.ref a17) := Fld.ext Ex685 fx659
  have fx702 : Ovc Z h685 a53 "[D" := Ovc.ext fx660 Ex685
  have fx703 : Fld Z h685 p0 "com/example/hold/hold/check/ComponentSolver" "values" "[[D" (.ref a53) := Fld.ext Ex685 fx661
  have fx704 : Ar Z h685 a94 .int [(.int (0 : Int32)), (.int (0 : Int32))] := Ar.ext fx662 Ex685
  have fx705 : Fld Z h685 p0 "com/example/hold/hold/check/ComponentSolver" "length" "[I" (.ref a94) := Fld.ext Ex685 fx663
  have fx706 : Ar Z h685 a139 .double [(.double (FP.l2d 0)), (.double (FP.l2d 0))] := Ar.ext fx664 Ex685
  have fx707 : Fld Z h685 p0 "com/example/hold/hold/check/ComponentSolver" "leaving" "[D" (.ref a139) := Fld.ext Ex685 fx665
  have fx708 : Ar Z h685 a187 .double [(.double (FP.l2d 0)), (.double (FP.l2d 0))] := Ar.ext fx666 Ex685
  have fx709 : Fld Z h685 p0 "com/example/hold/hold/check/ComponentSolver" "exits" "[D" (.ref a187) := Fld.ext Ex685 fx667
  have fx710 : Ar Z h685 a238 .double [(.double (FP.l2d 0)), (.double (FP.l2d 0))] := Ar.ext fx668 Ex685
  have fx711 : Fld Z h685 p0 "com/example/hold/hold/check/ComponentSolver" "surplus" "[D" (.ref a238) := Fld.ext Ex685 fx669
  have fx712 : Ovc Z h685 a292 "[I" := Ovc.ext fx670 Ex685
  have fx713 : Fld Z h685 p0 "com/example/hold/hold/check/ComponentSolver" "rowsUsing" "[[I" (.ref a292) := Fld.ext Ex685 fx671
  have fx714 : Ar Z h685 a350 .int [(.int (0 : Int32)), (.int (0 : Int32))] := Ar.ext fx672 Ex685
  have fx715 : Fld Z h685 p0 "com/example/hold/hold/check/ComponentSolver" "rowsUsingCount" "[I" (.ref a350) := Fld.ext Ex685 fx673
  have fx716 : Ar Z h685 a412 .int [(.int (0 : Int32)), (.int (0 : Int32))] := Ar.ext fx674 Ex685
  have fx717 : Fld Z h685 p0 "com/example/hold/hold/check/ComponentSolver" "columnCount" "[I" (.ref a412) := Fld.ext Ex685 fx675
  have fx718 : Ar Z h685 a17 (.array .int) [(.ref a478), .null] := Ar.ext fx676 Ex685
  have fx719 : Ar Z h685 a53 (.array .double) [(.ref a547), .null] := Ar.ext fx677 Ex685
  have fx720 : Ar Z h685 a292 (.array .int) [(.ref a616), .null] := Ar.ext fx680 Ex685
  have Z721 : n0 ≤ h685.size := Nat.le_trans Z682 Ex685.1
  have K722 : Keep h0 h685 [p0] := Keep.ext K683 Ex685
  have fx723 : Ar Z h685 a685 .int [(.int (0 : Int32)), (.int (0 : Int32))] := Aa685
  show Goes p.tables e below (T685.setTop (mkF m 90 #[.val (.ref p0), .val (.int (2 : Int32)), .val (.int (1 : Int32))] [(.ref a685), (.int (1 : Int32)), (.ref a17)])) _
  refine g_aastore X685 hx hZ e685 fx718 rfl (v := (.ref a685)) rfl (Ovc.sto fx700 fx718 (Ins.self Ea685)) 1 (by decide) (by show 1 < 2; decide) (hb hby d1_90) (fun T724 h724 X724 e724 W724 A724 => ?_)
  have fx725 : Exa Z h724 p0 "com/example/hold/hold/check/ComponentSolver" := Exa.wr W724 fx698
  have fx726 : Fld Z h724 p0 "com/example/hold/hold/check/ComponentSolver" "size" "I" (.int (2 : Int32)) := Fld.other W724 fx699 (Or.inl (Nat.ne_of_lt lt18))
  have fx727 : Ovc Z h724 a17 "[I" := Ovc.wr fx700 W724
  have fx728 : Fld Z h724 p0 "com/example/hold/hold/check/ComponentSolver" "columns" "[[I" (.ref a17) := Fld.other W724 fx701 (Or.inl (Nat.ne_of_lt lt18))
  have fx729 : Ovc Z h724 a53 "[D" := Ovc.wr fx702 W724
  have fx730 : Fld Z h724 p0 "com/example/hold/hold/check/ComponentSolver" "values" "[[D" (.ref a53) := Fld.other W724 fx703 (Or.inl (Nat.ne_of_lt lt18))
  have fx731 : Ar Z h724 a94 .int [(.int (0 : Int32)), (.int (0 : Int32))] := Ar.other fx704 W724 (Ne.symm (Nat.ne_of_lt lt96))
  have fx732 : Fld Z h724 p0 "com/example/hold/hold/check/ComponentSolver" "length" "[I" (.ref a94) := Fld.other W724 fx705 (Or.inl (Nat.ne_of_lt lt18))
  have fx733 : Ar Z h724 a139 .double [(.double (FP.l2d 0)), (.double (FP.l2d 0))] := Ar.other fx706 W724 (Ne.symm (Nat.ne_of_lt lt141))
  have fx734 : Fld Z h724 p0 "com/example/hold/hold/check/ComponentSolver" "leaving" "[D" (.ref a139) := Fld.other W724 fx707 (Or.inl (Nat.ne_of_lt lt18))
  have fx735 : Ar Z h724 a187 .double [(.double (FP.l2d 0)), (.double (FP.l2d 0))] := Ar.other fx708 W724 (Ne.symm (Nat.ne_of_lt lt189))
  have fx736 : Fld Z h724 p0 "com/example/hold/hold/check/ComponentSolver" "exits" "[D" (.ref a187) := Fld.other W724 fx709 (Or.inl (Nat.ne_of_lt lt18))
  have fx737 : Ar Z h724 a238 .double [(.double (FP.l2d 0)), (.double (FP.l2d 0))] := Ar.other fx710 W724 (Ne.symm (Nat.ne_of_lt lt240))
  have fx738 : Fld Z h724 p0 "com/example/hold/hold/check/ComponentSolver" "surplus" "[D" (.ref a238) := Fld.other W724 fx711 (Or.inl (Nat.ne_of_lt lt18))
  have fx739 : Ovc Z h724 a292 "[I" := Ovc.wr fx712 W724
  have fx740 : Fld Z h724 p0 "com/example/hold/hold/check/ComponentSolver" "rowsUsing" "[[I" (.ref a292) := Fld.other W724 fx713 (Or.inl (Nat.ne_of_lt lt18))
  have fx741 : Ar Z h724 a350 .int [(.int (0 : Int32)), (.int (0 : Int32))] := Ar.other fx714 W724 (Ne.symm (Nat.ne_of_lt lt352))
  have fx742 : Fld Z h724 p0 "com/example/hold/hold/check/ComponentSolver" "rowsUsingCount" "[I" (.ref a350) := Fld.other W724 fx715 (Or.inl (Nat.ne_of_lt lt18))
  have fx743 : Ar Z h724 a412 .int [(.int (0 : Int32)), (.int (0 : Int32))] := Ar.other fx716 W724 (Ne.symm (Nat.ne_of_lt lt414))
  have fx744 : Fld Z h724 p0 "com/example/hold/hold/check/ComponentSolver" "columnCount" "[I" (.ref a412) := Fld.other W724 fx717 (Or.inl (Nat.ne_of_lt lt18))
  have fx745 : Ar Z h724 a53 (.array .double) [(.ref a547), .null] := Ar.other fx719 W724 (Ne.symm (Nat.ne_of_lt lt55))
  have fx746 : Ar Z h724 a292 (.array .int) [(.ref a616), .null] := Ar.other fx720 W724 (Ne.symm (Nat.ne_of_lt lt294))
  have fx747 : Ar Z h724 a685 .int [(.int (0 : Int32)), (.int (0 : Int32))] := Ar.other fx723 W724 (Ne.symm (Nat.ne_of_lt lt693))
  have fx748 : Exa Z h724 a685 "[I" := Exa.wr W724 Ea685
  have fx749 : Ar Z h724 a17 (.array .int) [(.ref a478), (.ref a685)] := A724
  have N750 := Fr.snoc X724 N681 ge19
  have Z751 : n0 ≤ h724.size := by rw [W724.size]; exact Z721
  have K752 : Keep h0 h724 [p0] := Keep.wr K722 W724 (Or.inr ge20)
  show Goes p.tables e below (T724.setTop (mkF m 91 #[.val (.ref p0), .val (.int (2 : Int32)), .val (.int (1 : Int32))] [])) _
  refine g_aloadN X724 hx (hb hby d1_91) rfl rfl ?_
  refine g_getF X724 hx hZ hown e724 (host := "") (Or.inl (hw _ (List.mem_of_getElem? (i := 17) rfl))) Via.refl fx730 (hb hby d1_92) (fun T753 X753 e753 => ?_)
  show Goes p.tables e below (T753.setTop (mkF m 95 #[.val (.ref p0), .val (.int (2 : Int32)), .val (.int (1 : Int32))] [(.ref a53)])) _
  refine g_iloadN X753 hx (hb hby d1_95) rfl ?_
  refine g_iconst X753 hx (2 : Int32) (hb hby d1_96) rfl ?_
  refine g_newarr X753 hx hZ e753 (hw _ (List.mem_of_getElem? (i := 22) rfl)) (hb hby d1_97) (n := 2) (by decide) 2 (by decide) (by decide) (by decide) (by decide) (ad := "[D") (by decide) rfl (fun T754 h754 a754 ga754 X754 e754 Ex754 Aa754 Ea754 => ?_)
  have lt755 : p0 < a754 := by rw [ga754]; exact fx725.lt
  have lt756 : a94 < a754 := by rw [ga754]; exact fx731.lt
  have lt757 : a139 < a754 := by rw [ga754]; exact fx733.lt
  have lt758 : a187 < a754 := by rw [ga754]; exact fx735.lt
  have lt759 : a238 < a754 := by rw [ga754]; exact fx737.lt
  have lt760 : a350 < a754 := by rw [ga754]; exact fx741.lt
  have lt761 : a412 < a754 := by rw [ga754]; exact fx743.lt
  have lt762 : a53 < a754 := by rw [ga754]; exact fx745.lt
  have lt763 : a292 < a754 := by rw [ga754]; exact fx746.lt
  have lt764 : a17 < a754 := by rw [ga754]; exact fx749.lt
  have ge765 : n0 ≤ a754 := by rw [ga754]; exact Z751
  have ge766 : h0.size ≤ a754 := by rw [ga754]; exact K752.1
  have fx767 : Exa Z h754 p0 "com/example/hold/hold/check/ComponentSolver" := Exa.ext Ex754 fx725
  have fx768 : Fld Z h754 p0 "com/example/hold/hold/check/ComponentSolver" "size" "I" (.int (2 : Int32)) := Fld.ext Ex754 fx726
  have fx769 : Ovc Z h754 a17 "[I" := Ovc.ext fx727 Ex754
  have fx770 : Fld Z h754 p0 "com/example/hold/hold/check/ComponentSolver" "columns" "[[I" (.ref a17) := Fld.ext Ex754 fx728
  have fx771 : Ovc Z h754 a53 "[D" := Ovc.ext fx729 Ex754
  have fx772 : Fld Z h754 p0 "com/example/hold/hold/check/ComponentSolver" "values" "[[D" (.ref a53) := Fld.ext Ex754 fx730
  have fx773 : Ar Z h754 a94 .int [(.int (0 : Int32)), (.int (0 : Int32))] := Ar.ext fx731 Ex754
  have fx774 : Fld Z h754 p0 "com/example/hold/hold/check/ComponentSolver" "length" "[I" (.ref a94) := Fld.ext Ex754 fx732
  have fx775 : Ar Z h754 a139 .double [(.double (FP.l2d 0)), (.double (FP.l2d 0))] := Ar.ext fx733 Ex754
  have fx776 : Fld Z h754 p0 "com/example/hold/hold/check/ComponentSolver" "leaving" "[D" (.ref a139) := Fld.ext Ex754 fx734
  have fx777 : Ar Z h754 a187 .double [(.double (FP.l2d 0)), (.double (FP.l2d 0))] := Ar.ext fx735 Ex754
  have fx778 : Fld Z h754 p0 "com/example/hold/hold/check/ComponentSolver" "exits" "[D" (.ref a187) := Fld.ext Ex754 fx736
  have fx779 : Ar Z h754 a238 .double [(.double (FP.l2d 0)), (.double (FP.l2d 0))] := Ar.ext fx737 Ex754
  have fx780 : Fld Z h754 p0 "com/example/hold/hold/check/ComponentSolver" "surplus" "[D" (.ref a238) := Fld.ext Ex754 fx738
  have fx781 : Ovc Z h754 a292 "[I" := Ovc.ext fx739 Ex754
  have fx782 : Fld Z h754 p0 "com/example/hold/hold/check/ComponentSolver" "rowsUsing" "[[I" (.ref a292) := Fld.ext Ex754 fx740
  have fx783 : Ar Z h754 a350 .int [(.int (0 : Int32)), (.int (0 : Int32))] := Ar.ext fx741 Ex754
  have fx784 : Fld Z h754 p0 "com/example/hold/hold/check/ComponentSolver" "rowsUsingCount" "[I" (.ref a350) := Fld.ext Ex754 fx742
  have fx785 : Ar Z h754 a412 .int [(.int (0 : Int32)), (.int (0 : Int32))] := Ar.ext fx743 Ex754
  have fx786 : Fld Z h754 p0 "com/example/hold/hold/check/ComponentSolver" "columnCount" "[I" (.ref a412) := Fld.ext Ex754 fx744
  have fx787 : Ar Z h754 a53 (.array .double) [(.ref a547), .null] := Ar.ext fx745 Ex754
  have fx788 : Ar Z h754 a292 (.array .int) [(.ref a616), .null] := Ar.ext fx746 Ex754
  have fx789 : Ar Z h754 a17 (.array .int) [(.ref a478), (.ref a685)] := Ar.ext fx749 Ex754
  have Z790 : n0 ≤ h754.size := Nat.le_trans Z751 Ex754.1
  have K791 : Keep h0 h754 [p0] := Keep.ext K752 Ex754
  have fx792 : Ar Z h754 a754 .double [(.double (FP.l2d 0)), (.double (FP.l2d 0))] := (by rw [l2d_zero]; exact Aa754)
  show Goes p.tables e below (T754.setTop (mkF m 99 #[.val (.ref p0), .val (.int (2 : Int32)), .val (.int (1 : Int32))] [(.ref a754), (.int (1 : Int32)), (.ref a53)])) _
  refine g_aastore X754 hx hZ e754 fx787 rfl (v := (.ref a754)) rfl (Ovc.sto fx771 fx787 (Ins.self Ea754)) 1 (by decide) (by show 1 < 2; decide) (hb hby d1_99) (fun T793 h793 X793 e793 W793 A793 => ?_)
  have fx794 : Exa Z h793 p0 "com/example/hold/hold/check/ComponentSolver" := Exa.wr W793 fx767
  have fx795 : Fld Z h793 p0 "com/example/hold/hold/check/ComponentSolver" "size" "I" (.int (2 : Int32)) := Fld.other W793 fx768 (Or.inl (Nat.ne_of_lt lt54))
  have fx796 : Ovc Z h793 a17 "[I" := Ovc.wr fx769 W793
  have fx797 : Fld Z h793 p0 "com/example/hold/hold/check/ComponentSolver" "columns" "[[I" (.ref a17) := Fld.other W793 fx770 (Or.inl (Nat.ne_of_lt lt54))
  have fx798 : Ovc Z h793 a53 "[D" := Ovc.wr fx771 W793
  have fx799 : Fld Z h793 p0 "com/example/hold/hold/check/ComponentSolver" "values" "[[D" (.ref a53) := Fld.other W793 fx772 (Or.inl (Nat.ne_of_lt lt54))
  have fx800 : Ar Z h793 a94 .int [(.int (0 : Int32)), (.int (0 : Int32))] := Ar.other fx773 W793 (Ne.symm (Nat.ne_of_lt lt97))
  have fx801 : Fld Z h793 p0 "com/example/hold/hold/check/ComponentSolver" "length" "[I" (.ref a94) := Fld.other W793 fx774 (Or.inl (Nat.ne_of_lt lt54))
  have fx802 : Ar Z h793 a139 .double [(.double (FP.l2d 0)), (.double (FP.l2d 0))] := Ar.other fx775 W793 (Ne.symm (Nat.ne_of_lt lt142))
  have fx803 : Fld Z h793 p0 "com/example/hold/hold/check/ComponentSolver" "leaving" "[D" (.ref a139) := Fld.other W793 fx776 (Or.inl (Nat.ne_of_lt lt54))
  have fx804 : Ar Z h793 a187 .double [(.double (FP.l2d 0)), (.double (FP.l2d 0))] := Ar.other fx777 W793 (Ne.symm (Nat.ne_of_lt lt190))
  have fx805 : Fld Z h793 p0 "com/example/hold/hold/check/ComponentSolver" "exits" "[D" (.ref a187) := Fld.other W793 fx778 (Or.inl (Nat.ne_of_lt lt54))
  have fx806 : Ar Z h793 a238 .double [(.double (FP.l2d 0)), (.double (FP.l2d 0))] := Ar.other fx779 W793 (Ne.symm (Nat.ne_of_lt lt241))
  have fx807 : Fld Z h793 p0 "com/example/hold/hold/check/ComponentSolver" "surplus" "[D" (.ref a238) := Fld.other W793 fx780 (Or.inl (Nat.ne_of_lt lt54))
  have fx808 : Ovc Z h793 a292 "[I" := Ovc.wr fx781 W793
  have fx809 : Fld Z h793 p0 "com/example/hold/hold/check/ComponentSolver" "rowsUsing" "[[I" (.ref a292) := Fld.other W793 fx782 (Or.inl (Nat.ne_of_lt lt54))
  have fx810 : Ar Z h793 a350 .int [(.int (0 : Int32)), (.int (0 : Int32))] := Ar.other fx783 W793 (Ne.symm (Nat.ne_of_lt lt353))
  have fx811 : Fld Z h793 p0 "com/example/hold/hold/check/ComponentSolver" "rowsUsingCount" "[I" (.ref a350) := Fld.other W793 fx784 (Or.inl (Nat.ne_of_lt lt54))
  have fx812 : Ar Z h793 a412 .int [(.int (0 : Int32)), (.int (0 : Int32))] := Ar.other fx785 W793 (Ne.symm (Nat.ne_of_lt lt415))
  have fx813 : Fld Z h793 p0 "com/example/hold/hold/check/ComponentSolver" "columnCount" "[I" (.ref a412) := Fld.other W793 fx786 (Or.inl (Nat.ne_of_lt lt54))
  have fx814 : Ar Z h793 a292 (.array .int) [(.ref a616), .null] := Ar.other fx788 W793 (Ne.symm (Nat.ne_of_lt lt295))
  have fx815 : Ar Z h793 a17 (.array .int) [(.ref a478), (.ref a685)] := Ar.other fx789 W793 (Nat.ne_of_lt lt55)
  have fx816 : Ar Z h793 a754 .double [(.double (FP.l2d 0)), (.double (FP.l2d 0))] := Ar.other fx792 W793 (Ne.symm (Nat.ne_of_lt lt762))
  have fx817 : Exa Z h793 a754 "[D" := Exa.wr W793 Ea754
  have fx818 : Ar Z h793 a53 (.array .double) [(.ref a547), (.ref a754)] := A793
  have N819 := Fr.snoc X793 N750 ge56
  have Z820 : n0 ≤ h793.size := by rw [W793.size]; exact Z790
  have K821 : Keep h0 h793 [p0] := Keep.wr K791 W793 (Or.inr ge57)
  show Goes p.tables e below (T793.setTop (mkF m 100 #[.val (.ref p0), .val (.int (2 : Int32)), .val (.int (1 : Int32))] [])) _
  refine g_aloadN X793 hx (hb hby d1_100) rfl rfl ?_
  refine g_getF X793 hx hZ hown e793 (host := "") (Or.inl (hw _ (List.mem_of_getElem? (i := 29) rfl))) Via.refl fx809 (hb hby d1_101) (fun T822 X822 e822 => ?_)
  show Goes p.tables e below (T822.setTop (mkF m 104 #[.val (.ref p0), .val (.int (2 : Int32)), .val (.int (1 : Int32))] [(.ref a292)])) _
  refine g_iloadN X822 hx (hb hby d1_104) rfl ?_
  refine g_iconst X822 hx (2 : Int32) (hb hby d1_105) rfl ?_
  refine g_newarr X822 hx hZ e822 (hw _ (List.mem_of_getElem? (i := 19) rfl)) (hb hby d1_106) (n := 2) (by decide) 2 (by decide) (by decide) (by decide) (by decide) (ad := "[I") (by decide) rfl (fun T823 h823 a823 ga823 X823 e823 Ex823 Aa823 Ea823 => ?_)
  have lt824 : p0 < a823 := by rw [ga823]; exact fx794.lt
  have lt825 : a94 < a823 := by rw [ga823]; exact fx800.lt
  have lt826 : a139 < a823 := by rw [ga823]; exact fx802.lt
  have lt827 : a187 < a823 := by rw [ga823]; exact fx804.lt
  have lt828 : a238 < a823 := by rw [ga823]; exact fx806.lt
  have lt829 : a350 < a823 := by rw [ga823]; exact fx810.lt
  have lt830 : a412 < a823 := by rw [ga823]; exact fx812.lt
  have lt831 : a292 < a823 := by rw [ga823]; exact fx814.lt
  have lt832 : a17 < a823 := by rw [ga823]; exact fx815.lt
  have lt833 : a53 < a823 := by rw [ga823]; exact fx818.lt
  have ge834 : n0 ≤ a823 := by rw [ga823]; exact Z820
  have ge835 : h0.size ≤ a823 := by rw [ga823]; exact K821.1
  have fx836 : Exa Z h823 p0 "com/example/hold/hold/check/ComponentSolver" := Exa.ext Ex823 fx794
  have fx837 : Fld Z h823 p0 "com/example/hold/hold/check/ComponentSolver" "size" "I" (.int (2 : Int32)) := Fld.ext Ex823 fx795
  have fx838 : Ovc Z h823 a17 "[I" := Ovc.ext fx796 Ex823
  have fx839 : Fld Z h823 p0 "com/example/hold/hold/check/ComponentSolver" "columns" "[[I" (.ref a17) := Fld.ext Ex823 fx797
  have fx840 : Ovc Z h823 a53 "[D" := Ovc.ext fx798 Ex823
  have fx841 : Fld Z h823 p0 "com/example/hold/hold/check/ComponentSolver" "values" "[[D" (.ref a53) := Fld.ext Ex823 fx799
  have fx842 : Ar Z h823 a94 .int [(.int (0 : Int32)), (.int (0 : Int32))] := Ar.ext fx800 Ex823
  have fx843 : Fld Z h823 p0 "com/example/hold/hold/check/ComponentSolver" "length" "[I" (.ref a94) := Fld.ext Ex823 fx801
  have fx844 : Ar Z h823 a139 .double [(.double (FP.l2d 0)), (.double (FP.l2d 0))] := Ar.ext fx802 Ex823
  have fx845 : Fld Z h823 p0 "com/example/hold/hold/check/ComponentSolver" "leaving" "[D" (.ref a139) := Fld.ext Ex823 fx803
  have fx846 : Ar Z h823 a187 .double [(.double (FP.l2d 0)), (.double (FP.l2d 0))] := Ar.ext fx804 Ex823
  have fx847 : Fld Z h823 p0 "com/example/hold/hold/check/ComponentSolver" "exits" "[D" (.ref a187) := Fld.ext Ex823 fx805
  have fx848 : Ar Z h823 a238 .double [(.double (FP.l2d 0)), (.double (FP.l2d 0))] := Ar.ext fx806 Ex823
  have fx849 : Fld Z h823 p0 "com/example/hold/hold/check/ComponentSolver" "surplus" "[D" (.ref a238) := Fld.ext Ex823 fx807
  have fx850 : Ovc Z h823 a292 "[I" := Ovc.ext fx808 Ex823
  have fx851 : Fld Z h823 p0 "com/example/hold/hold/check/ComponentSolver" "rowsUsing" "[[I" (.ref a292) := Fld.ext Ex823 fx809
  have fx852 : Ar Z h823 a350 .int [(.int (0 : Int32)), (.int (0 : Int32))] := Ar.ext fx810 Ex823
  have fx853 : Fld Z h823 p0 "com/example/hold/hold/check/ComponentSolver" "rowsUsingCount" "[I" (.ref a350) := Fld.ext Ex823 fx811
  have fx854 : Ar Z h823 a412 .int [(.int (0 : Int32)), (.int (0 : Int32))] := Ar.ext fx812 Ex823
  have fx855 : Fld Z h823 p0 "com/example/hold/hold/check/ComponentSolver" "columnCount" "[I" (.ref a412) := Fld.ext Ex823 fx813
  have fx856 : Ar Z h823 a292 (.array .int) [(.ref a616), .null] := Ar.ext fx814 Ex823
  have fx857 : Ar Z h823 a17 (.array .int) [(.ref a478), (.ref a685)] := Ar.ext fx815 Ex823
  have fx858 : Ar Z h823 a53 (.array .double) [(.ref a547), (.ref a754)] := Ar.ext fx818 Ex823
  have Z859 : n0 ≤ h823.size := Nat.le_trans Z820 Ex823.1
  have K860 : Keep h0 h823 [p0] := Keep.ext K821 Ex823
  have fx861 : Ar Z h823 a823 .int [(.int (0 : Int32)), (.int (0 : Int32))] := Aa823
  show Goes p.tables e below (T823.setTop (mkF m 108 #[.val (.ref p0), .val (.int (2 : Int32)), .val (.int (1 : Int32))] [(.ref a823), (.int (1 : Int32)), (.ref a292)])) _
  refine g_aastore X823 hx hZ e823 fx856 rfl (v := (.ref a823)) rfl (Ovc.sto fx850 fx856 (Ins.self Ea823)) 1 (by decide) (by show 1 < 2; decide) (hb hby d1_108) (fun T862 h862 X862 e862 W862 A862 => ?_)
  have fx863 : Exa Z h862 p0 "com/example/hold/hold/check/ComponentSolver" := Exa.wr W862 fx836
  have fx864 : Fld Z h862 p0 "com/example/hold/hold/check/ComponentSolver" "size" "I" (.int (2 : Int32)) := Fld.other W862 fx837 (Or.inl (Nat.ne_of_lt lt293))
  have fx865 : Ovc Z h862 a17 "[I" := Ovc.wr fx838 W862
  have fx866 : Fld Z h862 p0 "com/example/hold/hold/check/ComponentSolver" "columns" "[[I" (.ref a17) := Fld.other W862 fx839 (Or.inl (Nat.ne_of_lt lt293))
  have fx867 : Ovc Z h862 a53 "[D" := Ovc.wr fx840 W862
  have fx868 : Fld Z h862 p0 "com/example/hold/hold/check/ComponentSolver" "values" "[[D" (.ref a53) := Fld.other W862 fx841 (Or.inl (Nat.ne_of_lt lt293))
  have fx869 : Ar Z h862 a94 .int [(.int (0 : Int32)), (.int (0 : Int32))] := Ar.other fx842 W862 (Nat.ne_of_lt lt296)
  have fx870 : Fld Z h862 p0 "com/example/hold/hold/check/ComponentSolver" "length" "[I" (.ref a94) := Fld.other W862 fx843 (Or.inl (Nat.ne_of_lt lt293))
  have fx871 : Ar Z h862 a139 .double [(.double (FP.l2d 0)), (.double (FP.l2d 0))] := Ar.other fx844 W862 (Nat.ne_of_lt lt297)
  have fx872 : Fld Z h862 p0 "com/example/hold/hold/check/ComponentSolver" "leaving" "[D" (.ref a139) := Fld.other W862 fx845 (Or.inl (Nat.ne_of_lt lt293))
  have fx873 : Ar Z h862 a187 .double [(.double (FP.l2d 0)), (.double (FP.l2d 0))] := Ar.other fx846 W862 (Nat.ne_of_lt lt298)
  have fx874 : Fld Z h862 p0 "com/example/hold/hold/check/ComponentSolver" "exits" "[D" (.ref a187) := Fld.other W862 fx847 (Or.inl (Nat.ne_of_lt lt293))
  have fx875 : Ar Z h862 a238 .double [(.double (FP.l2d 0)), (.double (FP.l2d 0))] := Ar.other fx848 W862 (Nat.ne_of_lt lt299)
  have fx876 : Fld Z h862 p0 "com/example/hold/hold/check/ComponentSolver" "surplus" "[D" (.ref a238) := Fld.other W862 fx849 (Or.inl (Nat.ne_of_lt lt293))
  have fx877 : Ovc Z h862 a292 "[I" := Ovc.wr fx850 W862
  have fx878 : Fld Z h862 p0 "com/example/hold/hold/check/ComponentSolver" "rowsUsing" "[[I" (.ref a292) := Fld.other W862 fx851 (Or.inl (Nat.ne_of_lt lt293))
  have fx879 : Ar Z h862 a350 .int [(.int (0 : Int32)), (.int (0 : Int32))] := Ar.other fx852 W862 (Ne.symm (Nat.ne_of_lt lt358))
  have fx880 : Fld Z h862 p0 "com/example/hold/hold/check/ComponentSolver" "rowsUsingCount" "[I" (.ref a350) := Fld.other W862 fx853 (Or.inl (Nat.ne_of_lt lt293))
  have fx881 : Ar Z h862 a412 .int [(.int (0 : Int32)), (.int (0 : Int32))] := Ar.other fx854 W862 (Ne.symm (Nat.ne_of_lt lt420))
  have fx882 : Fld Z h862 p0 "com/example/hold/hold/check/ComponentSolver" "columnCount" "[I" (.ref a412) := Fld.other W862 fx855 (Or.inl (Nat.ne_of_lt lt293))
  have fx883 : Ar Z h862 a17 (.array .int) [(.ref a478), (.ref a685)] := Ar.other fx857 W862 (Nat.ne_of_lt lt294)
  have fx884 : Ar Z h862 a53 (.array .double) [(.ref a547), (.ref a754)] := Ar.other fx858 W862 (Nat.ne_of_lt lt295)
  have fx885 : Ar Z h862 a823 .int [(.int (0 : Int32)), (.int (0 : Int32))] := Ar.other fx861 W862 (Ne.symm (Nat.ne_of_lt lt831))
  have fx886 : Exa Z h862 a823 "[I" := Exa.wr W862 Ea823
  have fx887 : Ar Z h862 a292 (.array .int) [(.ref a616), (.ref a823)] := A862
  have N888 := Fr.snoc X862 N819 ge300
  have Z889 : n0 ≤ h862.size := by rw [W862.size]; exact Z859
  have K890 : Keep h0 h862 [p0] := Keep.wr K860 W862 (Or.inr ge301)
  show Goes p.tables e below (T862.setTop (mkF m 109 #[.val (.ref p0), .val (.int (2 : Int32)), .val (.int (1 : Int32))] [])) _
  refine g_iinc X862 hx (1 : Int32) (hb hby d1_109) rfl rfl (l' := #[.val (.ref p0), .val (.int (2 : Int32)), .val (.int (2 : Int32))]) rfl ?_
  refine g_goto X862 hx (hb hby d1_112) (by decide) (pc' := 77) (by decide) ?_
  refine g_iloadN X862 hx (hb hby d1_77) rfl ?_
  refine g_iloadN X862 hx (hb hby d1_78) rfl ?_
  refine g_icmp_ge X862 hx (hb hby d1_79) (by decide) (pc' := 115) (by decide) (fun _ => ?_) (fun q => absurd q (by decide))
  show Goes p.tables e below (T862.setTop (mkF m 115 #[.val (.ref p0), .val (.int (2 : Int32)), .val (.int (2 : Int32))] [])) _
  exact g_ret0 X862 hx hret hlk (hb hby d1_115) (by decide) (by decide) (by rw [e862]; exact ⟨rfl, N888, K890, a17, a53, a94, a139, a187, a238, a350, a412, ⟨ga, lt18, lt55, lt97, lt143, lt192, lt244, lt357, lt421⟩, ⟨fx863, fx864, fx866, fx868, fx870, fx872, fx874, fx876, fx880, fx882, ⟨_, rfl, fx883⟩, fx865, ⟨_, rfl, fx884⟩, fx867, fx869, fx871, fx873, fx875, fx879, fx881⟩⟩)
theorem ef_rmAE (m : MethodId) (p0 : Addr) (p1 : Int32) (d2 : UInt64) (d4 : UInt64) : entryFrame m #[(.ref p0), (.int p1), (.double d2), (.double d4)] 6 = mkF m 0 #[.val (.ref p0), .val (.int p1), .val (.double d2), .second, .val (.double d4), .second] [] := by first | (simp [entryFrame, mkF, argsToLocals, Value.category]; done) | rfl
set_option maxRecDepth 65536 in
set_option maxHeartbeats 40000000 in
theorem rmAE (l : Launch) (Z : State) (a0 : Array Value) (hw : ∀ d ∈ tables_1, d.before a0 Z = true) (p0 : Addr) (p1 : Int32) (d2 : UInt64) (d4 : UInt64) (h0 : Heap) (n0 : Nat) (Z0 : n0 ≤ h0.size) (ca va la lv ex su rc cc : Addr) (a0' a1 y0 y1 pp qq r0 r1 t0 t1 : Int64) (zl : List Value) (K : Int) (hK : K < 9007199254740992) (ha0 : Bn K a0') (ha1 : Bn K a1) (hy0 : Bn K y0) (hy1 : Bn K y1) (hp : Bn 8388608 pp) (hq : Bn 8388608 qq) (e2 : d2 = FP.l2d pp) (e4 : d4 = FP.l2d qq) (hm : p1 = 0 ∨ p1 = 1) (hr0 : r0 = (if p1 = 0 then a0' + pp else a0')) (hr1 : r1 = (if p1 = 0 then a1 else a1 + pp)) (ht0 : t0 = (if p1 = 0 then y0 + pp * qq else y0)) (ht1 : t1 = (if p1 = 0 then y1 else y1 + pp * qq)) (hS : Sol Z h0 p0 ca va la lv ex su rc cc [(.double (FP.l2d a0')), (.double (FP.l2d a1))] [(.double (FP.l2d y0)), (.double (FP.l2d y1))] zl) (hC : Chn n0 p0 ca va la lv ex su rc cc) :
    Con l Z (⟨"com/example/hold/hold/check/ComponentSolver", "addExit", "(IDD)V"⟩ : MethodName) prog_35_method_4_code 6 none [] ({ frames := 0, cells := 0, slots := 0, locals := 0 } : Room) 0 0 #[(.ref p0), (.int p1), (.double d2), (.double d4)] h0 (fun v h L => v = none ∧ Fr n0 L ∧ Keep h0 h [lv, ex] ∧ Sol Z h p0 ca va la lv ex su rc cc [(.double (FP.l2d r0)), (.double (FP.l2d r1))] [(.double (FP.l2d t0)), (.double (FP.l2d t1))] zl) := by
  refine Con.body (plainFor_of_name (by first | (simp [plainName, overriddenIn]; done) | decide +kernel)) ?_
  intro p e s m below meth c T0 hx hby hml hown hnm hZ hret hlk X0 e0
  refine Goes.cast (ef_rmAE m p0 p1 d2 d4) ?_
  have N0 := Fr.nil n0
  have K0 : Keep h0 h0 [lv, ex] := Keep.refl _ _
  subst e2 e4
  rcases hm with rfl | rfl
  · skip
    rw [if_pos (rfl : (0 : Int32) = 0)] at hr0 hr1 ht0 ht1
    obtain ⟨Es, zs, scas, svas, slas, slvs, sexs, ssus, srcs, sccs, ⟨l1s, hl1s, Acs⟩, Ocs, ⟨l2s, hl2s, Avs⟩, Ovs, Alas, Alvs, Aexs, Asus, Arcs, Accs⟩ := hS
    obtain ⟨g0, g1, g2, g3, g4, g5, g6, g7, g8⟩ := hC
    have ge_p0 : n0 ≤ p0 := by omega
    have ne_p0_ca : p0 ≠ ca := Nat.ne_of_lt (by omega)
    have ne_p0_va : p0 ≠ va := Nat.ne_of_lt (by omega)
    have ne_p0_la : p0 ≠ la := Nat.ne_of_lt (by omega)
    have ne_p0_lv : p0 ≠ lv := Nat.ne_of_lt (by omega)
    have ne_p0_ex : p0 ≠ ex := Nat.ne_of_lt (by omega)
    have ne_p0_su : p0 ≠ su := Nat.ne_of_lt (by omega)
    have ne_p0_rc : p0 ≠ rc := Nat.ne_of_lt (by omega)
    have ne_p0_cc : p0 ≠ cc := Nat.ne_of_lt (by omega)
    have ge_ca : n0 ≤ ca := by omega
    have ne_ca_va : ca ≠ va := Nat.ne_of_lt (by omega)
    have ne_ca_la : ca ≠ la := Nat.ne_of_lt (by omega)
    have ne_ca_lv : ca ≠ lv := Nat.ne_of_lt (by omega)
    have ne_ca_ex : ca ≠ ex := Nat.ne_of_lt (by omega)
    have ne_ca_su : ca ≠ su := Nat.ne_of_lt (by omega)
    have ne_ca_rc : ca ≠ rc := Nat.ne_of_lt (by omega)
    have ne_ca_cc : ca ≠ cc := Nat.ne_of_lt (by omega)
    have ge_va : n0 ≤ va := by omega
    have ne_va_la : va ≠ la := Nat.ne_of_lt (by omega)
    have ne_va_lv : va ≠ lv := Nat.ne_of_lt (by omega)
    have ne_va_ex : va ≠ ex := Nat.ne_of_lt (by omega)
    have ne_va_su : va ≠ su := Nat.ne_of_lt (by omega)
    have ne_va_rc : va ≠ rc := Nat.ne_of_lt (by omega)
    have ne_va_cc : va ≠ cc := Nat.ne_of_lt (by omega)
    have ge_la : n0 ≤ la := by omega
    have ne_la_lv : la ≠ lv := Nat.ne_of_lt (by omega)
    have ne_la_ex : la ≠ ex := Nat.ne_of_lt (by omega)
    have ne_la_su : la ≠ su := Nat.ne_of_lt (by omega)
    have ne_la_rc : la ≠ rc := Nat.ne_of_lt (by omega)
    have ne_la_cc : la ≠ cc := Nat.ne_of_lt (by omega)
    have ge_lv : n0 ≤ lv := by omega
    have ne_lv_ex : lv ≠ ex := Nat.ne_of_lt (by omega)
    have ne_lv_su : lv ≠ su := Nat.ne_of_lt (by omega)
    have ne_lv_rc : lv ≠ rc := Nat.ne_of_lt (by omega)
    have ne_lv_cc : lv ≠ cc := Nat.ne_of_lt (by omega)
    have ge_ex : n0 ≤ ex := by omega
    have ne_ex_su : ex ≠ su := Nat.ne_of_lt (by omega)
    have ne_ex_rc : ex ≠ rc := Nat.ne_of_lt (by omega)
    have ne_ex_cc : ex ≠ cc := Nat.ne_of_lt (by omega)
    have ge_su : n0 ≤ su := by omega
    have ne_su_rc : su ≠ rc := Nat.ne_of_lt (by omega)
    have ne_su_cc : su ≠ cc := Nat.ne_of_lt (by omega)
    have ge_rc : n0 ≤ rc := by omega
    have ne_rc_cc : rc ≠ cc := Nat.ne_of_lt (by omega)
    have ge_cc : n0 ≤ cc := by omega
    show Goes p.tables e below (T0.setTop (mkF m 0 #[.val (.ref p0), .val (.int (0 : Int32)), .val (.double (FP.l2d pp)), .second, .val (.double (FP.l2d qq)), .second] [])) _
    refine g_aloadN X0 hx (hb hby d3_0) rfl rfl ?_
    refine g_getF X0 hx hZ hown e0 (host := "") (Or.inl (hw _ (List.mem_of_getElem? (i := 23) rfl))) Via.refl slvs (hb hby d3_1) (fun T1 X1 e1 => ?_)
    show Goes p.tables e below (T1.setTop (mkF m 4 #[.val (.ref p0), .val (.int (0 : Int32)), .val (.double (FP.l2d pp)), .second, .val (.double (FP.l2d qq)), .second] [(.ref lv)])) _
    refine g_iloadN X1 hx (hb hby d3_4) rfl ?_
    refine g_dup2 X1 hx (hb hby d3_5) rfl rfl ?_
    refine g_daload X1 hx hZ e1 Alvs (i := 0) (v := (.double (FP.l2d a0'))) (by decide) rfl (hb hby d3_6) ?_
    show Goes p.tables e below (T1.setTop (mkF m 7 #[.val (.ref p0), .val (.int (0 : Int32)), .val (.double (FP.l2d pp)), .second, .val (.double (FP.l2d qq)), .second] [(.double (FP.l2d a0')), (.int (0 : Int32)), (.ref lv)])) _
    refine g_dloadN X1 hx (hb hby d3_7) rfl ?_
    refine g_dadd X1 hx (FP.l2d (a0' + pp)) (dadd_w (ha0.b53 hK) (hp.b53 (by decide))) (nn_w rfl) (hb hby d3_8) ?_
    show Goes p.tables e below (T1.setTop (mkF m 9 #[.val (.ref p0), .val (.int (0 : Int32)), .val (.double (FP.l2d pp)), .second, .val (.double (FP.l2d qq)), .second] [(.double (FP.l2d (a0' + pp))), (.int (0 : Int32)), (.ref lv)])) _
    refine g_dastore X1 hx hZ e1 Alvs 0 (by decide) (by show 0 < 2; decide) (hb hby d3_9) (fun T2 h2 X2 e2 W2 A2 => ?_)
    have fx3 : Exa Z h2 p0 "com/example/hold/hold/check/ComponentSolver" := Exa.wr W2 Es
    have fx4 : Fld Z h2 p0 "com/example/hold/hold/check/ComponentSolver" "size" "I" (.int (2 : Int32)) := Fld.other W2 zs (Or.inl ne_p0_lv)
    have fx5 : Fld Z h2 p0 "com/example/hold/hold/check/ComponentSolver" "columns" "[[I" (.ref ca) := Fld.other W2 scas (Or.inl ne_p0_lv)
    have fx6 : Fld Z h2 p0 "com/example/hold/hold/check/ComponentSolver" "values" "[[D" (.ref va) := Fld.other W2 svas (Or.inl ne_p0_lv)
    have fx7 : Fld Z h2 p0 "com/example/hold/hold/check/ComponentSolver" "length" "[I" (.ref la) := Fld.other W2 slas (Or.inl ne_p0_lv)
    have fx8 : Fld Z h2 p0 "com/example/hold/hold/check/ComponentSolver" "leaving" "[D" (.ref lv) := Fld.other W2 slvs (Or.inl ne_p0_lv)
    have fx9 : Fld Z h2 p0 "com/example/hold/hold/check/ComponentSolver" "exits" "[D" (.ref ex) := Fld.other W2 sexs (Or.inl ne_p0_lv)
    have fx10 : Fld Z h2 p0 "com/example/hold/hold/check/ComponentSolver" "surplus" "[D" (.ref su) := Fld.other W2 ssus (Or.inl ne_p0_lv)
    have fx11 : Fld Z h2 p0 "com/example/hold/hold/check/ComponentSolver" "rowsUsingCount" "[I" (.ref rc) := Fld.other W2 srcs (Or.inl ne_p0_lv)
    have fx12 : Fld Z h2 p0 "com/example/hold/hold/check/ComponentSolver" "columnCount" "[I" (.ref cc) := Fld.other W2 sccs (Or.inl ne_p0_lv)
    have fx13 : Ar Z h2 ca (.array .int) l1s := Ar.other Acs W2 ne_ca_lv
    have fx14 : Ovc Z h2 ca "[I" := Ovc.wr Ocs W2
    have fx15 : Ar Z h2 va (.array .double) l2s := Ar.other Avs W2 ne_va_lv
    have fx16 : Ovc Z h2 va "[D" := Ovc.wr Ovs W2
    have fx17 : Ar Z h2 la .int [(.int (0 : Int32)), (.int (0 : Int32))] := Ar.other Alas W2 ne_la_lv
    have fx18 : Ar Z h2 ex .double [(.double (FP.l2d y0)), (.double (FP.l2d y1))] := Ar.other Aexs W2 (Ne.symm ne_lv_ex)
    have fx19 : Ar Z h2 su .double zl := Ar.other Asus W2 (Ne.symm ne_lv_su)
    have fx20 : Ar Z h2 rc .int [(.int (0 : Int32)), (.int (0 : Int32))] := Ar.other Arcs W2 (Ne.symm ne_lv_rc)
    have fx21 : Ar Z h2 cc .int [(.int (0 : Int32)), (.int (0 : Int32))] := Ar.other Accs W2 (Ne.symm ne_lv_cc)
    have fx22 : Ar Z h2 lv .double [(.double (FP.l2d (a0' + pp))), (.double (FP.l2d a1))] := A2
    have N23 := Fr.snoc X2 N0 ge_lv
    have Z24 : n0 ≤ h2.size := by rw [W2.size]; exact Z0
    have K25 : Keep h0 h2 [lv, ex] := Keep.wr K0 W2 (Or.inl (List.mem_of_getElem? (i := 0) rfl))
    show Goes p.tables e below (T2.setTop (mkF m 10 #[.val (.ref p0), .val (.int (0 : Int32)), .val (.double (FP.l2d pp)), .second, .val (.double (FP.l2d qq)), .second] [])) _
    refine g_aloadN X2 hx (hb hby d3_10) rfl rfl ?_
    refine g_getF X2 hx hZ hown e2 (host := "") (Or.inl (hw _ (List.mem_of_getElem? (i := 25) rfl))) Via.refl fx9 (hb hby d3_11) (fun T26 X26 e26 => ?_)
    show Goes p.tables e below (T26.setTop (mkF m 14 #[.val (.ref p0), .val (.int (0 : Int32)), .val (.double (FP.l2d pp)), .second, .val (.double (FP.l2d qq)), .second] [(.ref ex)])) _
    refine g_iloadN X26 hx (hb hby d3_14) rfl ?_
    refine g_dup2 X26 hx (hb hby d3_15) rfl rfl ?_
    refine g_daload X26 hx hZ e26 fx18 (i := 0) (v := (.double (FP.l2d y0))) (by decide) rfl (hb hby d3_16) ?_
    show Goes p.tables e below (T26.setTop (mkF m 17 #[.val (.ref p0), .val (.int (0 : Int32)), .val (.double (FP.l2d pp)), .second, .val (.double (FP.l2d qq)), .second] [(.double (FP.l2d y0)), (.int (0 : Int32)), (.ref ex)])) _
    refine g_dloadN X26 hx (hb hby d3_17) rfl ?_
    refine g_dload X26 hx (hb hby d3_18) rfl ?_
    refine g_dmul X26 hx (FP.dmul (FP.l2d pp) (FP.l2d qq)) rfl (own_mulNN hp hq) (hb hby d3_20) ?_
    show Goes p.tables e below (T26.setTop (mkF m 21 #[.val (.ref p0), .val (.int (0 : Int32)), .val (.double (FP.l2d pp)), .second, .val (.double (FP.l2d qq)), .second] [(.double (FP.dmul (FP.l2d pp) (FP.l2d qq))), (.double (FP.l2d y0)), (.int (0 : Int32)), (.ref ex)])) _
    refine g_dadd X26 hx (FP.l2d (y0 + pp * qq)) (own_addmul hy0 hK hp hq) (nn_w rfl) (hb hby d3_21) ?_
    show Goes p.tables e below (T26.setTop (mkF m 22 #[.val (.ref p0), .val (.int (0 : Int32)), .val (.double (FP.l2d pp)), .second, .val (.double (FP.l2d qq)), .second] [(.double (FP.l2d (y0 + pp * qq))), (.int (0 : Int32)), (.ref ex)])) _
    refine g_dastore X26 hx hZ e26 fx18 0 (by decide) (by show 0 < 2; decide) (hb hby d3_22) (fun T27 h27 X27 e27 W27 A27 => ?_)
    have fx28 : Exa Z h27 p0 "com/example/hold/hold/check/ComponentSolver" := Exa.wr W27 fx3
    have fx29 : Fld Z h27 p0 "com/example/hold/hold/check/ComponentSolver" "size" "I" (.int (2 : Int32)) := Fld.other W27 fx4 (Or.inl ne_p0_ex)
    have fx30 : Fld Z h27 p0 "com/example/hold/hold/check/ComponentSolver" "columns" "[[I" (.ref ca) := Fld.other W27 fx5 (Or.inl ne_p0_ex)
    have fx31 : Fld Z h27 p0 "com/example/hold/hold/check/ComponentSolver" "values" "[[D" (.ref va) := Fld.other W27 fx6 (Or.inl ne_p0_ex)
    have fx32 : Fld Z h27 p0 "com/example/hold/hold/check/ComponentSolver" "length" "[I" (.ref la) := Fld.other W27 fx7 (Or.inl ne_p0_ex)
    have fx33 : Fld Z h27 p0 "com/example/hold/hold/check/ComponentSolver" "leaving" "[D" (.ref lv) := Fld.other W27 fx8 (Or.inl ne_p0_ex)
    have fx34 : Fld Z h27 p0 "com/example/hold/hold/check/ComponentSolver" "exits" "[D" (.ref ex) := Fld.other W27 fx9 (Or.inl ne_p0_ex)
    have fx35 : Fld Z h27 p0 "com/example/hold/hold/check/ComponentSolver" "surplus" "[D" (.ref su) := Fld.other W27 fx10 (Or.inl ne_p0_ex)
    have fx36 : Fld Z h27 p0 "com/example/hold/hold/check/ComponentSolver" "rowsUsingCount" "[I" (.ref rc) := Fld.other W27 fx11 (Or.inl ne_p0_ex)
    have fx37 : Fld Z h27 p0 "com/example/hold/hold/check/ComponentSolver" "columnCount" "[I" (.ref cc) := Fld.other W27 fx12 (Or.inl ne_p0_ex)
    have fx38 : Ar Z h27 ca (.array .int) l1s := Ar.other fx13 W27 ne_ca_ex
    have fx39 : Ovc Z h27 ca "[I" := Ovc.wr fx14 W27
    have fx40 : Ar Z h27 va (.array .double) l2s := Ar.other fx15 W27 ne_va_ex
    have fx41 : Ovc Z h27 va "[D" := Ovc.wr fx16 W27
    have fx42 : Ar Z h27 la .int [(.int (0 : Int32)), (.int (0 : Int32))] := Ar.other fx17 W27 ne_la_ex
    have fx43 : Ar Z h27 su .double zl := Ar.other fx19 W27 (Ne.symm ne_ex_su)
    have fx44 : Ar Z h27 rc .int [(.int (0 : Int32)), (.int (0 : Int32))] := Ar.other fx20 W27 (Ne.symm ne_ex_rc)
    have fx45 : Ar Z h27 cc .int [(.int (0 : Int32)), (.int (0 : Int32))] := Ar.other fx21 W27 (Ne.symm ne_ex_cc)
    have fx46 : Ar Z h27 lv .double [(.double (FP.l2d (a0' + pp))), (.double (FP.l2d a1))] := Ar.other fx22 W27 ne_lv_ex
    have fx47 : Ar Z h27 ex .double [(.double (FP.l2d (y0 + pp * qq))), (.double (FP.l2d y1))] := A27
    have N48 := Fr.snoc X27 N23 ge_ex
    have Z49 : n0 ≤ h27.size := by rw [W27.size]; exact Z24
    have K50 : Keep h0 h27 [lv, ex] := Keep.wr K25 W27 (Or.inl (List.mem_of_getElem? (i := 1) rfl))
    show Goes p.tables e below (T27.setTop (mkF m 23 #[.val (.ref p0), .val (.int (0 : Int32)), .val (.double (FP.l2d pp)), .second, .val (.double (FP.l2d qq)), .second] [])) _
    exact g_ret0 X27 hx hret hlk (hb hby d3_23) (by decide) (by decide) (by rw [e27, hr0, hr1, ht0, ht1]; exact ⟨rfl, N48, K50, ⟨fx28, fx29, fx30, fx31, fx32, fx33, fx34, fx35, fx36, fx37, ⟨_, (by first | exact hl1s | (rw [List.length_set]; exact hl1s) | rfl), fx38⟩, fx39, ⟨_, (by first | exact hl2s | (rw [List.length_set]; exact hl2s) | rfl), fx40⟩, fx41, fx42, fx46, fx47, fx43, fx44, fx45⟩⟩)
  · skip
    rw [if_neg (by decide : ¬ (1 : Int32) = 0)] at hr0 hr1 ht0 ht1
    obtain ⟨Es, zs, scas, svas, slas, slvs, sexs, ssus, srcs, sccs, ⟨l1s, hl1s, Acs⟩, Ocs, ⟨l2s, hl2s, Avs⟩, Ovs, Alas, Alvs, Aexs, Asus, Arcs, Accs⟩ := hS
    obtain ⟨g0, g1, g2, g3, g4, g5, g6, g7, g8⟩ := hC
    have ge_p0 : n0 ≤ p0 := by omega
    have ne_p0_ca : p0 ≠ ca := Nat.ne_of_lt (by omega)
    have ne_p0_va : p0 ≠ va := Nat.ne_of_lt (by omega)
    have ne_p0_la : p0 ≠ la := Nat.ne_of_lt (by omega)
    have ne_p0_lv : p0 ≠ lv := Nat.ne_of_lt (by omega)
    have ne_p0_ex : p0 ≠ ex := Nat.ne_of_lt (by omega)
    have ne_p0_su : p0 ≠ su := Nat.ne_of_lt (by omega)
    have ne_p0_rc : p0 ≠ rc := Nat.ne_of_lt (by omega)
    have ne_p0_cc : p0 ≠ cc := Nat.ne_of_lt (by omega)
    have ge_ca : n0 ≤ ca := by omega
    have ne_ca_va : ca ≠ va := Nat.ne_of_lt (by omega)
    have ne_ca_la : ca ≠ la := Nat.ne_of_lt (by omega)
    have ne_ca_lv : ca ≠ lv := Nat.ne_of_lt (by omega)
    have ne_ca_ex : ca ≠ ex := Nat.ne_of_lt (by omega)
    have ne_ca_su : ca ≠ su := Nat.ne_of_lt (by omega)
    have ne_ca_rc : ca ≠ rc := Nat.ne_of_lt (by omega)
    have ne_ca_cc : ca ≠ cc := Nat.ne_of_lt (by omega)
    have ge_va : n0 ≤ va := by omega
    have ne_va_la : va ≠ la := Nat.ne_of_lt (by omega)
    have ne_va_lv : va ≠ lv := Nat.ne_of_lt (by omega)
    have ne_va_ex : va ≠ ex := Nat.ne_of_lt (by omega)
    have ne_va_su : va ≠ su := Nat.ne_of_lt (by omega)
    have ne_va_rc : va ≠ rc := Nat.ne_of_lt (by omega)
    have ne_va_cc : va ≠ cc := Nat.ne_of_lt (by omega)
    have ge_la : n0 ≤ la := by omega
    have ne_la_lv : la ≠ lv := Nat.ne_of_lt (by omega)
    have ne_la_ex : la ≠ ex := Nat.ne_of_lt (by omega)
    have ne_la_su : la ≠ su := Nat.ne_of_lt (by omega)
    have ne_la_rc : la ≠ rc := Nat.ne_of_lt (by omega)
    have ne_la_cc : la ≠ cc := Nat.ne_of_lt (by omega)
    have ge_lv : n0 ≤ lv := by omega
    have ne_lv_ex : lv ≠ ex := Nat.ne_of_lt (by omega)
    have ne_lv_su : lv ≠ su := Nat.ne_of_lt (by omega)
    have ne_lv_rc : lv ≠ rc := Nat.ne_of_lt (by omega)
    have ne_lv_cc : lv ≠ cc := Nat.ne_of_lt (by omega)
    have ge_ex : n0 ≤ ex := by omega
    have ne_ex_su : ex ≠ su := Nat.ne_of_lt (by omega)
    have ne_ex_rc : ex ≠ rc := Nat.ne_of_lt (by omega)
    have ne_ex_cc : ex ≠ cc := Nat.ne_of_lt (by omega)
    have ge_su : n0 ≤ su := by omega
    have ne_su_rc : su ≠ rc := Nat.ne_of_lt (by omega)
    have ne_su_cc : su ≠ cc := Nat.ne_of_lt (by omega)
    have ge_rc : n0 ≤ rc := by omega
    have ne_rc_cc : rc ≠ cc := Nat.ne_of_lt (by omega)
    have ge_cc : n0 ≤ cc := by omega
    show Goes p.tables e below (T0.setTop (mkF m 0 #[.val (.ref p0), .val (.int (1 : Int32)), .val (.double (FP.l2d pp)), .second, .val (.double (FP.l2d qq)), .second] [])) _
    refine g_aloadN X0 hx (hb hby d3_0) rfl rfl ?_
    refine g_getF X0 hx hZ hown e0 (host := "") (Or.inl (hw _ (List.mem_of_getElem? (i := 23) rfl))) Via.refl slvs (hb hby d3_1) (fun T51 X51 e51 => ?_)
    show Goes p.tables e below (T51.setTop (mkF m 4 #[.val (.ref p0), .val (.int (1 : Int32)), .val (.double (FP.l2d pp)), .second, .val (.double (FP.l2d qq)), .second] [(.ref lv)])) _
    refine g_iloadN X51 hx (hb hby d3_4) rfl ?_
    refine g_dup2 X51 hx (hb hby d3_5) rfl rfl ?_
    refine g_daload X51 hx hZ e51 Alvs (i := 1) (v := (.double (FP.l2d a1))) (by decide) rfl (hb hby d3_6) ?_
    show Goes p.tables e below (T51.setTop (mkF m 7 #[.val (.ref p0), .val (.int (1 : Int32)), .val (.double (FP.l2d pp)), .second, .val (.double (FP.l2d qq)), .second] [(.double (FP.l2d a1)), (.int (1 : Int32)), (.ref lv)])) _
    refine g_dloadN X51 hx (hb hby d3_7) rfl ?_
    refine g_dadd X51 hx (FP.l2d (a1 + pp)) (dadd_w (ha1.b53 hK) (hp.b53 (by decide))) (nn_w rfl) (hb hby d3_8) ?_
    show Goes p.tables e below (T51.setTop (mkF m 9 #[.val (.ref p0), .val (.int (1 : Int32)), .val (.double (FP.l2d pp)), .second, .val (.double (FP.l2d qq)), .second] [(.double (FP.l2d (a1 + pp))), (.int (1 : Int32)), (.ref lv)])) _
    refine g_dastore X51 hx hZ e51 Alvs 1 (by decide) (by show 1 < 2; decide) (hb hby d3_9) (fun T52 h52 X52 e52 W52 A52 => ?_)
    have fx53 : Exa Z h52 p0 "com/example/hold/hold/check/ComponentSolver" := Exa.wr W52 Es
    have fx54 : Fld Z h52 p0 "com/example/hold/hold/check/ComponentSolver" "size" "I" (.int (2 : Int32)) := Fld.other W52 zs (Or.inl ne_p0_lv)
    have fx55 : Fld Z h52 p0 "com/example/hold/hold/check/ComponentSolver" "columns" "[[I" (.ref ca) := Fld.other W52 scas (Or.inl ne_p0_lv)
    have fx56 : Fld Z h52 p0 "com/example/hold/hold/check/ComponentSolver" "values" "[[D" (.ref va) := Fld.other W52 svas (Or.inl ne_p0_lv)
    have fx57 : Fld Z h52 p0 "com/example/hold/hold/check/ComponentSolver" "length" "[I" (.ref la) := Fld.other W52 slas (Or.inl ne_p0_lv)
    have fx58 : Fld Z h52 p0 "com/example/hold/hold/check/ComponentSolver" "leaving" "[D" (.ref lv) := Fld.other W52 slvs (Or.inl ne_p0_lv)
    have fx59 : Fld Z h52 p0 "com/example/hold/hold/check/ComponentSolver" "exits" "[D" (.ref ex) := Fld.other W52 sexs (Or.inl ne_p0_lv)
    have fx60 : Fld Z h52 p0 "com/example/hold/hold/check/ComponentSolver" "surplus" "[D" (.ref su) := Fld.other W52 ssus (Or.inl ne_p0_lv)
    have fx61 : Fld Z h52 p0 "com/example/hold/hold/check/ComponentSolver" "rowsUsingCount" "[I" (.ref rc) := Fld.other W52 srcs (Or.inl ne_p0_lv)
    have fx62 : Fld Z h52 p0 "com/example/hold/hold/check/ComponentSolver" "columnCount" "[I" (.ref cc) := Fld.other W52 sccs (Or.inl ne_p0_lv)
    have fx63 : Ar Z h52 ca (.array .int) l1s := Ar.other Acs W52 ne_ca_lv
    have fx64 : Ovc Z h52 ca "[I" := Ovc.wr Ocs W52
    have fx65 : Ar Z h52 va (.array .double) l2s := Ar.other Avs W52 ne_va_lv
    have fx66 : Ovc Z h52 va "[D" := Ovc.wr Ovs W52
    have fx67 : Ar Z h52 la .int [(.int (0 : Int32)), (.int (0 : Int32))] := Ar.other Alas W52 ne_la_lv
    have fx68 : Ar Z h52 ex .double [(.double (FP.l2d y0)), (.double (FP.l2d y1))] := Ar.other Aexs W52 (Ne.symm ne_lv_ex)
    have fx69 : Ar Z h52 su .double zl := Ar.other Asus W52 (Ne.symm ne_lv_su)
    have fx70 : Ar Z h52 rc .int [(.int (0 : Int32)), (.int (0 : Int32))] := Ar.other Arcs W52 (Ne.symm ne_lv_rc)
    have fx71 : Ar Z h52 cc .int [(.int (0 : Int32)), (.int (0 : Int32))] := Ar.other Accs W52 (Ne.symm ne_lv_cc)
    have fx72 : Ar Z h52 lv .double [(.double (FP.l2d a0')), (.double (FP.l2d (a1 + pp)))] := A52
    have N73 := Fr.snoc X52 N0 ge_lv
    have Z74 : n0 ≤ h52.size := by rw [W52.size]; exact Z0
    have K75 : Keep h0 h52 [lv, ex] := Keep.wr K0 W52 (Or.inl (List.mem_of_getElem? (i := 0) rfl))
    show Goes p.tables e below (T52.setTop (mkF m 10 #[.val (.ref p0), .val (.int (1 : Int32)), .val (.double (FP.l2d pp)), .second, .val (.double (FP.l2d qq)), .second] [])) _
    refine g_aloadN X52 hx (hb hby d3_10) rfl rfl ?_
    refine g_getF X52 hx hZ hown e52 (host := "") (Or.inl (hw _ (List.mem_of_getElem? (i := 25) rfl))) Via.refl fx59 (hb hby d3_11) (fun T76 X76 e76 => ?_)
    show Goes p.tables e below (T76.setTop (mkF m 14 #[.val (.ref p0), .val (.int (1 : Int32)), .val (.double (FP.l2d pp)), .second, .val (.double (FP.l2d qq)), .second] [(.ref ex)])) _
    refine g_iloadN X76 hx (hb hby d3_14) rfl ?_
    refine g_dup2 X76 hx (hb hby d3_15) rfl rfl ?_
    refine g_daload X76 hx hZ e76 fx68 (i := 1) (v := (.double (FP.l2d y1))) (by decide) rfl (hb hby d3_16) ?_
    show Goes p.tables e below (T76.setTop (mkF m 17 #[.val (.ref p0), .val (.int (1 : Int32)), .val (.double (FP.l2d pp)), .second, .val (.double (FP.l2d qq)), .second] [(.double (FP.l2d y1)), (.int (1 : Int32)), (.ref ex)])) _
    refine g_dloadN X76 hx (hb hby d3_17) rfl ?_
    refine g_dload X76 hx (hb hby d3_18) rfl ?_
    refine g_dmul X76 hx (FP.dmul (FP.l2d pp) (FP.l2d qq)) rfl (own_mulNN hp hq) (hb hby d3_20) ?_
    show Goes p.tables e below (T76.setTop (mkF m 21 #[.val (.ref p0), .val (.int (1 : Int32)), .val (.double (FP.l2d pp)), .second, .val (.double (FP.l2d qq)), .second] [(.double (FP.dmul (FP.l2d pp) (FP.l2d qq))), (.double (FP.l2d y1)), (.int (1 : Int32)), (.ref ex)])) _
    refine g_dadd X76 hx (FP.l2d (y1 + pp * qq)) (own_addmul hy1 hK hp hq) (nn_w rfl) (hb hby d3_21) ?_
    show Goes p.tables e below (T76.setTop (mkF m 22 #[.val (.ref p0), .val (.int (1 : Int32)), .val (.double (FP.l2d pp)), .second, .val (.double (FP.l2d qq)), .second] [(.double (FP.l2d (y1 + pp * qq))), (.int (1 : Int32)), (.ref ex)])) _
    refine g_dastore X76 hx hZ e76 fx68 1 (by decide) (by show 1 < 2; decide) (hb hby d3_22) (fun T77 h77 X77 e77 W77 A77 => ?_)
    have fx78 : Exa Z h77 p0 "com/example/hold/hold/check/ComponentSolver" := Exa.wr W77 fx53
    have fx79 : Fld Z h77 p0 "com/example/hold/hold/check/ComponentSolver" "size" "I" (.int (2 : Int32)) := Fld.other W77 fx54 (Or.inl ne_p0_ex)
    have fx80 : Fld Z h77 p0 "com/example/hold/hold/check/ComponentSolver" "columns" "[[I" (.ref ca) := Fld.other W77 fx55 (Or.inl ne_p0_ex)
    have fx81 : Fld Z h77 p0 "com/example/hold/hold/check/ComponentSolver" "values" "[[D" (.ref va) := Fld.other W77 fx56 (Or.inl ne_p0_ex)
    have fx82 : Fld Z h77 p0 "com/example/hold/hold/check/ComponentSolver" "length" "[I" (.ref la) := Fld.other W77 fx57 (Or.inl ne_p0_ex)
    have fx83 : Fld Z h77 p0 "com/example/hold/hold/check/ComponentSolver" "leaving" "[D" (.ref lv) := Fld.other W77 fx58 (Or.inl ne_p0_ex)
    have fx84 : Fld Z h77 p0 "com/example/hold/hold/check/ComponentSolver" "exits" "[D" (.ref ex) := Fld.other W77 fx59 (Or.inl ne_p0_ex)
    have fx85 : Fld Z h77 p0 "com/example/hold/hold/check/ComponentSolver" "surplus" "[D" (.ref su) := Fld.other W77 fx60 (Or.inl ne_p0_ex)
    have fx86 : Fld Z h77 p0 "com/example/hold/hold/check/ComponentSolver" "rowsUsingCount" "[I" (.ref rc) := Fld.other W77 fx61 (Or.inl ne_p0_ex)
    have fx87 : Fld Z h77 p0 "com/example/hold/hold/check/ComponentSolver" "columnCount" "[I" (.ref cc) := Fld.other W77 fx62 (Or.inl ne_p0_ex)
    have fx88 : Ar Z h77 ca (.array .int) l1s := Ar.other fx63 W77 ne_ca_ex
    have fx89 : Ovc Z h77 ca "[I" := Ovc.wr fx64 W77
    have fx90 : Ar Z h77 va (.array .double) l2s := Ar.other fx65 W77 ne_va_ex
    have fx91 : Ovc Z h77 va "[D" := Ovc.wr fx66 W77
    have fx92 : Ar Z h77 la .int [(.int (0 : Int32)), (.int (0 : Int32))] := Ar.other fx67 W77 ne_la_ex
    have fx93 : Ar Z h77 su .double zl := Ar.other fx69 W77 (Ne.symm ne_ex_su)
    have fx94 : Ar Z h77 rc .int [(.int (0 : Int32)), (.int (0 : Int32))] := Ar.other fx70 W77 (Ne.symm ne_ex_rc)
    have fx95 : Ar Z h77 cc .int [(.int (0 : Int32)), (.int (0 : Int32))] := Ar.other fx71 W77 (Ne.symm ne_ex_cc)
    have fx96 : Ar Z h77 lv .double [(.double (FP.l2d a0')), (.double (FP.l2d (a1 + pp)))] := Ar.other fx72 W77 ne_lv_ex
    have fx97 : Ar Z h77 ex .double [(.double (FP.l2d y0)), (.double (FP.l2d (y1 + pp * qq)))] := A77
    have N98 := Fr.snoc X77 N73 ge_ex
    have Z99 : n0 ≤ h77.size := by rw [W77.size]; exact Z74
    have K100 : Keep h0 h77 [lv, ex] := Keep.wr K75 W77 (Or.inl (List.mem_of_getElem? (i := 1) rfl))
    show Goes p.tables e below (T77.setTop (mkF m 23 #[.val (.ref p0), .val (.int (1 : Int32)), .val (.double (FP.l2d pp)), .second, .val (.double (FP.l2d qq)), .second] [])) _
    exact g_ret0 X77 hx hret hlk (hb hby d3_23) (by decide) (by decide) (by rw [e77, hr0, hr1, ht0, ht1]; exact ⟨rfl, N98, K100, ⟨fx78, fx79, fx80, fx81, fx82, fx83, fx84, fx85, fx86, fx87, ⟨_, (by first | exact hl1s | (rw [List.length_set]; exact hl1s) | rfl), fx88⟩, fx89, ⟨_, (by first | exact hl2s | (rw [List.length_set]; exact hl2s) | rfl), fx90⟩, fx91, fx92, fx96, fx97, fx93, fx94, fx95⟩⟩)
theorem ef_rmSp0 (m : MethodId) (p0 : Addr) (d2 : UInt64) : entryFrame m #[(.ref p0), (.int (0 : Int32)), (.double d2)] 4 = mkF m 0 #[.val (.ref p0), .val (.int (0 : Int32)), .val (.double d2), .second] [] := by first | (simp [entryFrame, mkF, argsToLocals, Value.category]; done) | rfl
set_option maxRecDepth 65536 in
set_option maxHeartbeats 40000000 in
theorem rmSp0 (l : Launch) (Z : State) (a0 : Array Value) (hw : ∀ d ∈ tables_1, d.before a0 Z = true) (p0 : Addr) (d2 : UInt64) (h0 : Heap) (n0 : Nat) (Z0 : n0 ≤ h0.size) (ca va la lv ex su rc cc : Addr) (z z0 : Int64) (xl yl : List Value) (K : Int) (hK : K < 9007199254740992) (hz : Bn K z) (e2 : d2 = FP.l2d z) (hS : Sol Z h0 p0 ca va la lv ex su rc cc xl yl [(.double (FP.l2d 0)), (.double (FP.l2d 0))]) (hC : Chn n0 p0 ca va la lv ex su rc cc) :
    Con l Z (⟨"com/example/hold/hold/check/ComponentSolver", "addSurplus", "(ID)V"⟩ : MethodName) prog_35_method_6_code 4 none [] ({ frames := 0, cells := 0, slots := 0, locals := 0 } : Room) 0 0 #[(.ref p0), (.int (0 : Int32)), (.double d2)] h0 (fun v h L => v = none ∧ Fr n0 L ∧ Keep h0 h [su] ∧ Sol Z h p0 ca va la lv ex su rc cc xl yl [(.double (FP.l2d z)), (.double (FP.l2d 0))]) := by
  refine Con.body (plainFor_of_name (by first | (simp [plainName, overriddenIn]; done) | decide +kernel)) ?_
  intro p e s m below meth c T0 hx hby hml hown hnm hZ hret hlk X0 e0
  refine Goes.cast (ef_rmSp0 m p0 d2) ?_
  have N0 := Fr.nil n0
  have K0 : Keep h0 h0 [su] := Keep.refl _ _
  subst e2
  obtain ⟨Es, zs, scas, svas, slas, slvs, sexs, ssus, srcs, sccs, ⟨l1s, hl1s, Acs⟩, Ocs, ⟨l2s, hl2s, Avs⟩, Ovs, Alas, Alvs, Aexs, Asus, Arcs, Accs⟩ := hS
  obtain ⟨g0, g1, g2, g3, g4, g5, g6, g7, g8⟩ := hC
  have ge_p0 : n0 ≤ p0 := by omega
  have ne_p0_ca : p0 ≠ ca := Nat.ne_of_lt (by omega)
  have ne_p0_va : p0 ≠ va := Nat.ne_of_lt (by omega)
  have ne_p0_la : p0 ≠ la := Nat.ne_of_lt (by omega)
  have ne_p0_lv : p0 ≠ lv := Nat.ne_of_lt (by omega)
  have ne_p0_ex : p0 ≠ ex := Nat.ne_of_lt (by omega)
  have ne_p0_su : p0 ≠ su := Nat.ne_of_lt (by omega)
  have ne_p0_rc : p0 ≠ rc := Nat.ne_of_lt (by omega)
  have ne_p0_cc : p0 ≠ cc := Nat.ne_of_lt (by omega)
  have ge_ca : n0 ≤ ca := by omega
  have ne_ca_va : ca ≠ va := Nat.ne_of_lt (by omega)
  have ne_ca_la : ca ≠ la := Nat.ne_of_lt (by omega)
  have ne_ca_lv : ca ≠ lv := Nat.ne_of_lt (by omega)
  have ne_ca_ex : ca ≠ ex := Nat.ne_of_lt (by omega)
  have ne_ca_su : ca ≠ su := Nat.ne_of_lt (by omega)
  have ne_ca_rc : ca ≠ rc := Nat.ne_of_lt (by omega)
  have ne_ca_cc : ca ≠ cc := Nat.ne_of_lt (by omega)
  have ge_va : n0 ≤ va := by omega
  have ne_va_la : va ≠ la := Nat.ne_of_lt (by omega)
  have ne_va_lv : va ≠ lv := Nat.ne_of_lt (by omega)
  have ne_va_ex : va ≠ ex := Nat.ne_of_lt (by omega)
  have ne_va_su : va ≠ su := Nat.ne_of_lt (by omega)
  have ne_va_rc : va ≠ rc := Nat.ne_of_lt (by omega)
  have ne_va_cc : va ≠ cc := Nat.ne_of_lt (by omega)
  have ge_la : n0 ≤ la := by omega
  have ne_la_lv : la ≠ lv := Nat.ne_of_lt (by omega)
  have ne_la_ex : la ≠ ex := Nat.ne_of_lt (by omega)
  have ne_la_su : la ≠ su := Nat.ne_of_lt (by omega)
  have ne_la_rc : la ≠ rc := Nat.ne_of_lt (by omega)
  have ne_la_cc : la ≠ cc := Nat.ne_of_lt (by omega)
  have ge_lv : n0 ≤ lv := by omega
  have ne_lv_ex : lv ≠ ex := Nat.ne_of_lt (by omega)
  have ne_lv_su : lv ≠ su := Nat.ne_of_lt (by omega)
  have ne_lv_rc : lv ≠ rc := Nat.ne_of_lt (by omega)
  have ne_lv_cc : lv ≠ cc := Nat.ne_of_lt (by omega)
  have ge_ex : n0 ≤ ex := by omega
  have ne_ex_su : ex ≠ su := Nat.ne_of_lt (by omega)
  have ne_ex_rc : ex ≠ rc := Nat.ne_of_lt (by omega)
  have ne_ex_cc : ex ≠ cc := Nat.ne_of_lt (by omega)
  have ge_su : n0 ≤ su := by omega
  have ne_su_rc : su ≠ rc := Nat.ne_of_lt (by omega)
  have ne_su_cc : su ≠ cc := Nat.ne_of_lt (by omega)
  have ge_rc : n0 ≤ rc := by omega
  have ne_rc_cc : rc ≠ cc := Nat.ne_of_lt (by omega)
  have ge_cc : n0 ≤ cc := by omega
  show Goes p.tables e below (T0.setTop (mkF m 0 #[.val (.ref p0), .val (.int (0 : Int32)), .val (.double (FP.l2d z)), .second] [])) _
  refine g_aloadN X0 hx (hb hby d4_0) rfl rfl ?_
  refine g_getF X0 hx hZ hown e0 (host := "") (Or.inl (hw _ (List.mem_of_getElem? (i := 27) rfl))) Via.refl ssus (hb hby d4_1) (fun T1 X1 e1 => ?_)
  show Goes p.tables e below (T1.setTop (mkF m 4 #[.val (.ref p0), .val (.int (0 : Int32)), .val (.double (FP.l2d z)), .second] [(.ref su)])) _
  refine g_iloadN X1 hx (hb hby d4_4) rfl ?_
  refine g_dup2 X1 hx (hb hby d4_5) rfl rfl ?_
  refine g_daload X1 hx hZ e1 Asus (i := 0) (v := (.double (FP.l2d 0))) (by decide) rfl (hb hby d4_6) ?_
  show Goes p.tables e below (T1.setTop (mkF m 7 #[.val (.ref p0), .val (.int (0 : Int32)), .val (.double (FP.l2d z)), .second] [(.double (FP.l2d 0)), (.int (0 : Int32)), (.ref su)])) _
  refine g_dloadN X1 hx (hb hby d4_7) rfl ?_
  refine g_dadd X1 hx (FP.l2d z) (by rw [dadd_w (Bn.b53 (K := 0) (Bn.zero (by decide)) (by decide)) (hz.b53 hK), Int64.zero_add]) (nn_w rfl) (hb hby d4_8) ?_
  show Goes p.tables e below (T1.setTop (mkF m 9 #[.val (.ref p0), .val (.int (0 : Int32)), .val (.double (FP.l2d z)), .second] [(.double (FP.l2d z)), (.int (0 : Int32)), (.ref su)])) _
  refine g_dastore X1 hx hZ e1 Asus 0 (by decide) (by show 0 < 2; decide) (hb hby d4_9) (fun T2 h2 X2 e2 W2 A2 => ?_)
  have fx3 : Exa Z h2 p0 "com/example/hold/hold/check/ComponentSolver" := Exa.wr W2 Es
  have fx4 : Fld Z h2 p0 "com/example/hold/hold/check/ComponentSolver" "size" "I" (.int (2 : Int32)) := Fld.other W2 zs (Or.inl ne_p0_su)
  have fx5 : Fld Z h2 p0 "com/example/hold/hold/check/ComponentSolver" "columns" "[[I" (.ref ca) := Fld.other W2 scas (Or.inl ne_p0_su)
  have fx6 : Fld Z h2 p0 "com/example/hold/hold/check/ComponentSolver" "values" "[[D" (.ref va) := Fld.other W2 svas (Or.inl ne_p0_su)
  have fx7 : Fld Z h2 p0 "com/example/hold/hold/check/ComponentSolver" "length" "[I" (.ref la) := Fld.other W2 slas (Or.inl ne_p0_su)
  have fx8 : Fld Z h2 p0 "com/example/hold/hold/check/ComponentSolver" "leaving" "[D" (.ref lv) := Fld.other W2 slvs (Or.inl ne_p0_su)
  have fx9 : Fld Z h2 p0 "com/example/hold/hold/check/ComponentSolver" "exits" "[D" (.ref ex) := Fld.other W2 sexs (Or.inl ne_p0_su)
  have fx10 : Fld Z h2 p0 "com/example/hold/hold/check/ComponentSolver" "surplus" "[D" (.ref su) := Fld.other W2 ssus (Or.inl ne_p0_su)
  have fx11 : Fld Z h2 p0 "com/example/hold/hold/check/ComponentSolver" "rowsUsingCount" "[I" (.ref rc) := Fld.other W2 srcs (Or.inl ne_p0_su)
  have fx12 : Fld Z h2 p0 "com/example/hold/hold/check/ComponentSolver" "columnCount" "[I" (.ref cc) := Fld.other W2 sccs (Or.inl ne_p0_su)
  have fx13 : Ar Z h2 ca (.array .int) l1s := Ar.other Acs W2 ne_ca_su
  have fx14 : Ovc Z h2 ca "[I" := Ovc.wr Ocs W2
  have fx15 : Ar Z h2 va (.array .double) l2s := Ar.other Avs W2 ne_va_su
  have fx16 : Ovc Z h2 va "[D" := Ovc.wr Ovs W2
  have fx17 : Ar Z h2 la .int [(.int (0 : Int32)), (.int (0 : Int32))] := Ar.other Alas W2 ne_la_su
  have fx18 : Ar Z h2 lv .double xl := Ar.other Alvs W2 ne_lv_su
  have fx19 : Ar Z h2 ex .double yl := Ar.other Aexs W2 ne_ex_su
  have fx20 : Ar Z h2 rc .int [(.int (0 : Int32)), (.int (0 : Int32))] := Ar.other Arcs W2 (Ne.symm ne_su_rc)
  have fx21 : Ar Z h2 cc .int [(.int (0 : Int32)), (.int (0 : Int32))] := Ar.other Accs W2 (Ne.symm ne_su_cc)
  have fx22 : Ar Z h2 su .double [(.double (FP.l2d z)), (.double (FP.l2d 0))] := A2
  have N23 := Fr.snoc X2 N0 ge_su
  have Z24 : n0 ≤ h2.size := by rw [W2.size]; exact Z0
  have K25 : Keep h0 h2 [su] := Keep.wr K0 W2 (Or.inl (List.mem_of_getElem? (i := 0) rfl))
  show Goes p.tables e below (T2.setTop (mkF m 10 #[.val (.ref p0), .val (.int (0 : Int32)), .val (.double (FP.l2d z)), .second] [])) _
  exact g_ret0 X2 hx hret hlk (hb hby d4_10) (by decide) (by decide) (by rw [e2]; exact ⟨rfl, N23, K25, ⟨fx3, fx4, fx5, fx6, fx7, fx8, fx9, fx10, fx11, fx12, ⟨_, (by first | exact hl1s | (rw [List.length_set]; exact hl1s) | rfl), fx13⟩, fx14, ⟨_, (by first | exact hl2s | (rw [List.length_set]; exact hl2s) | rfl), fx15⟩, fx16, fx17, fx18, fx19, fx22, fx20, fx21⟩⟩)
theorem ef_rmSp1 (m : MethodId) (p0 : Addr) (d2 : UInt64) : entryFrame m #[(.ref p0), (.int (1 : Int32)), (.double d2)] 4 = mkF m 0 #[.val (.ref p0), .val (.int (1 : Int32)), .val (.double d2), .second] [] := by first | (simp [entryFrame, mkF, argsToLocals, Value.category]; done) | rfl
set_option maxRecDepth 65536 in
set_option maxHeartbeats 40000000 in
theorem rmSp1 (l : Launch) (Z : State) (a0 : Array Value) (hw : ∀ d ∈ tables_1, d.before a0 Z = true) (p0 : Addr) (d2 : UInt64) (h0 : Heap) (n0 : Nat) (Z0 : n0 ≤ h0.size) (ca va la lv ex su rc cc : Addr) (z z0 : Int64) (xl yl : List Value) (K : Int) (hK : K < 9007199254740992) (hz : Bn K z) (e2 : d2 = FP.l2d z) (hS : Sol Z h0 p0 ca va la lv ex su rc cc xl yl [(.double (FP.l2d z0)), (.double (FP.l2d 0))]) (hC : Chn n0 p0 ca va la lv ex su rc cc) :
    Con l Z (⟨"com/example/hold/hold/check/ComponentSolver", "addSurplus", "(ID)V"⟩ : MethodName) prog_35_method_6_code 4 none [] ({ frames := 0, cells := 0, slots := 0, locals := 0 } : Room) 0 0 #[(.ref p0), (.int (1 : Int32)), (.double d2)] h0 (fun v h L => v = none ∧ Fr n0 L ∧ Keep h0 h [su] ∧ Sol Z h p0 ca va la lv ex su rc cc xl yl [(.double (FP.l2d z0)), (.double (FP.l2d z))]) := by
  refine Con.body (plainFor_of_name (by first | (simp [plainName, overriddenIn]; done) | decide +kernel)) ?_
  intro p e s m below meth c T0 hx hby hml hown hnm hZ hret hlk X0 e0
  refine Goes.cast (ef_rmSp1 m p0 d2) ?_
  have N0 := Fr.nil n0
  have K0 : Keep h0 h0 [su] := Keep.refl _ _
  subst e2
  obtain ⟨Es, zs, scas, svas, slas, slvs, sexs, ssus, srcs, sccs, ⟨l1s, hl1s, Acs⟩, Ocs, ⟨l2s, hl2s, Avs⟩, Ovs, Alas, Alvs, Aexs, Asus, Arcs, Accs⟩ := hS
  obtain ⟨g0, g1, g2, g3, g4, g5, g6, g7, g8⟩ := hC
  have ge_p0 : n0 ≤ p0 := by omega
  have ne_p0_ca : p0 ≠ ca := Nat.ne_of_lt (by omega)
  have ne_p0_va : p0 ≠ va := Nat.ne_of_lt (by omega)
  have ne_p0_la : p0 ≠ la := Nat.ne_of_lt (by omega)
  have ne_p0_lv : p0 ≠ lv := Nat.ne_of_lt (by omega)
  have ne_p0_ex : p0 ≠ ex := Nat.ne_of_lt (by omega)
  have ne_p0_su : p0 ≠ su := Nat.ne_of_lt (by omega)
  have ne_p0_rc : p0 ≠ rc := Nat.ne_of_lt (by omega)
  have ne_p0_cc : p0 ≠ cc := Nat.ne_of_lt (by omega)
  have ge_ca : n0 ≤ ca := by omega
  have ne_ca_va : ca ≠ va := Nat.ne_of_lt (by omega)
  have ne_ca_la : ca ≠ la := Nat.ne_of_lt (by omega)
  have ne_ca_lv : ca ≠ lv := Nat.ne_of_lt (by omega)
  have ne_ca_ex : ca ≠ ex := Nat.ne_of_lt (by omega)
  have ne_ca_su : ca ≠ su := Nat.ne_of_lt (by omega)
  have ne_ca_rc : ca ≠ rc := Nat.ne_of_lt (by omega)
  have ne_ca_cc : ca ≠ cc := Nat.ne_of_lt (by omega)
  have ge_va : n0 ≤ va := by omega
  have ne_va_la : va ≠ la := Nat.ne_of_lt (by omega)
  have ne_va_lv : va ≠ lv := Nat.ne_of_lt (by omega)
  have ne_va_ex : va ≠ ex := Nat.ne_of_lt (by omega)
  have ne_va_su : va ≠ su := Nat.ne_of_lt (by omega)
  have ne_va_rc : va ≠ rc := Nat.ne_of_lt (by omega)
  have ne_va_cc : va ≠ cc := Nat.ne_of_lt (by omega)
  have ge_la : n0 ≤ la := by omega
  have ne_la_lv : la ≠ lv := Nat.ne_of_lt (by omega)
  have ne_la_ex : la ≠ ex := Nat.ne_of_lt (by omega)
  have ne_la_su : la ≠ su := Nat.ne_of_lt (by omega)
  have ne_la_rc : la ≠ rc := Nat.ne_of_lt (by omega)
  have ne_la_cc : la ≠ cc := Nat.ne_of_lt (by omega)
  have ge_lv : n0 ≤ lv := by omega
  have ne_lv_ex : lv ≠ ex := Nat.ne_of_lt (by omega)
  have ne_lv_su : lv ≠ su := Nat.ne_of_lt (by omega)
  have ne_lv_rc : lv ≠ rc := Nat.ne_of_lt (by omega)
  have ne_lv_cc : lv ≠ cc := Nat.ne_of_lt (by omega)
  have ge_ex : n0 ≤ ex := by omega
  have ne_ex_su : ex ≠ su := Nat.ne_of_lt (by omega)
  have ne_ex_rc : ex ≠ rc := Nat.ne_of_lt (by omega)
  have ne_ex_cc : ex ≠ cc := Nat.ne_of_lt (by omega)
  have ge_su : n0 ≤ su := by omega
  have ne_su_rc : su ≠ rc := Nat.ne_of_lt (by omega)
  have ne_su_cc : su ≠ cc := Nat.ne_of_lt (by omega)
  have ge_rc : n0 ≤ rc := by omega
  have ne_rc_cc : rc ≠ cc := Nat.ne_of_lt (by omega)
  have ge_cc : n0 ≤ cc := by omega
  show Goes p.tables e below (T0.setTop (mkF m 0 #[.val (.ref p0), .val (.int (1 : Int32)), .val (.double (FP.l2d z)), .second] [])) _
  refine g_aloadN X0 hx (hb hby d4_0) rfl rfl ?_
  refine g_getF X0 hx hZ hown e0 (host := "") (Or.inl (hw _ (List.mem_of_getElem? (i := 27) rfl))) Via.refl ssus (hb hby d4_1) (fun T1 X1 e1 => ?_)
  show Goes p.tables e below (T1.setTop (mkF m 4 #[.val (.ref p0), .val (.int (1 : Int32)), .val (.double (FP.l2d z)), .second] [(.ref su)])) _
  refine g_iloadN X1 hx (hb hby d4_4) rfl ?_
  refine g_dup2 X1 hx (hb hby d4_5) rfl rfl ?_
  refine g_daload X1 hx hZ e1 Asus (i := 1) (v := (.double (FP.l2d 0))) (by decide) rfl (hb hby d4_6) ?_
  show Goes p.tables e below (T1.setTop (mkF m 7 #[.val (.ref p0), .val (.int (1 : Int32)), .val (.double (FP.l2d z)), .second] [(.double (FP.l2d 0)), (.int (1 : Int32)), (.ref su)])) _
  refine g_dloadN X1 hx (hb hby d4_7) rfl ?_
  refine g_dadd X1 hx (FP.l2d z) (by rw [dadd_w (Bn.b53 (K := 0) (Bn.zero (by decide)) (by decide)) (hz.b53 hK), Int64.zero_add]) (nn_w rfl) (hb hby d4_8) ?_
  show Goes p.tables e below (T1.setTop (mkF m 9 #[.val (.ref p0), .val (.int (1 : Int32)), .val (.double (FP.l2d z)), .second] [(.double (FP.l2d z)), (.int (1 : Int32)), (.ref su)])) _
  refine g_dastore X1 hx hZ e1 Asus 1 (by decide) (by show 1 < 2; decide) (hb hby d4_9) (fun T2 h2 X2 e2 W2 A2 => ?_)
  have fx3 : Exa Z h2 p0 "com/example/hold/hold/check/ComponentSolver" := Exa.wr W2 Es
  have fx4 : Fld Z h2 p0 "com/example/hold/hold/check/ComponentSolver" "size" "I" (.int (2 : Int32)) := Fld.other W2 zs (Or.inl ne_p0_su)
  have fx5 : Fld Z h2 p0 "com/example/hold/hold/check/ComponentSolver" "columns" "[[I" (.ref ca) := Fld.other W2 scas (Or.inl ne_p0_su)
  have fx6 : Fld Z h2 p0 "com/example/hold/hold/check/ComponentSolver" "values" "[[D" (.ref va) := Fld.other W2 svas (Or.inl ne_p0_su)
  have fx7 : Fld Z h2 p0 "com/example/hold/hold/check/ComponentSolver" "length" "[I" (.ref la) := Fld.other W2 slas (Or.inl ne_p0_su)
  have fx8 : Fld Z h2 p0 "com/example/hold/hold/check/ComponentSolver" "leaving" "[D" (.ref lv) := Fld.other W2 slvs (Or.inl ne_p0_su)
  have fx9 : Fld Z h2 p0 "com/example/hold/hold/check/ComponentSolver" "exits" "[D" (.ref ex) := Fld.other W2 sexs (Or.inl ne_p0_su)
  have fx10 : Fld Z h2 p0 "com/example/hold/hold/check/ComponentSolver" "surplus" "[D" (.ref su) := Fld.other W2 ssus (Or.inl ne_p0_su)
  have fx11 : Fld Z h2 p0 "com/example/hold/hold/check/ComponentSolver" "rowsUsingCount" "[I" (.ref rc) := Fld.other W2 srcs (Or.inl ne_p0_su)
  have fx12 : Fld Z h2 p0 "com/example/hold/hold/check/ComponentSolver" "columnCount" "[I" (.ref cc) := Fld.other W2 sccs (Or.inl ne_p0_su)
  have fx13 : Ar Z h2 ca (.array .int) l1s := Ar.other Acs W2 ne_ca_su
  have fx14 : Ovc Z h2 ca "[I" := Ovc.wr Ocs W2
  have fx15 : Ar Z h2 va (.array .double) l2s := Ar.other Avs W2 ne_va_su
  have fx16 : Ovc Z h2 va "[D" := Ovc.wr Ovs W2
  have fx17 : Ar Z h2 la .int [(.int (0 : Int32)), (.int (0 : Int32))] := Ar.other Alas W2 ne_la_su
  have fx18 : Ar Z h2 lv .double xl := Ar.other Alvs W2 ne_lv_su
  have fx19 : Ar Z h2 ex .double yl := Ar.other Aexs W2 ne_ex_su
  have fx20 : Ar Z h2 rc .int [(.int (0 : Int32)), (.int (0 : Int32))] := Ar.other Arcs W2 (Ne.symm ne_su_rc)
  have fx21 : Ar Z h2 cc .int [(.int (0 : Int32)), (.int (0 : Int32))] := Ar.other Accs W2 (Ne.symm ne_su_cc)
  have fx22 : Ar Z h2 su .double [(.double (FP.l2d z0)), (.double (FP.l2d z))] := A2
  have N23 := Fr.snoc X2 N0 ge_su
  have Z24 : n0 ≤ h2.size := by rw [W2.size]; exact Z0
  have K25 : Keep h0 h2 [su] := Keep.wr K0 W2 (Or.inl (List.mem_of_getElem? (i := 0) rfl))
  show Goes p.tables e below (T2.setTop (mkF m 10 #[.val (.ref p0), .val (.int (1 : Int32)), .val (.double (FP.l2d z)), .second] [])) _
  exact g_ret0 X2 hx hret hlk (hb hby d4_10) (by decide) (by decide) (by rw [e2]; exact ⟨rfl, N23, K25, ⟨fx3, fx4, fx5, fx6, fx7, fx8, fx9, fx10, fx11, fx12, ⟨_, (by first | exact hl1s | (rw [List.length_set]; exact hl1s) | rfl), fx13⟩, fx14, ⟨_, (by first | exact hl2s | (rw [List.length_set]; exact hl2s) | rfl), fx15⟩, fx16, fx17, fx18, fx19, fx22, fx20, fx21⟩⟩)
theorem ef_rmCost0 (m : MethodId) (p0 : Addr) : entryFrame m #[(.ref p0), (.int (0 : Int32))] 2 = mkF m 0 #[.val (.ref p0), .val (.int (0 : Int32))] [] := by first | (simp [entryFrame, mkF, argsToLocals, Value.category]; done) | rfl
set_option maxRecDepth 65536 in
set_option maxHeartbeats 40000000 in
theorem rmCost0 (l : Launch) (Z : State) (a0 : Array Value) (hw : ∀ d ∈ tables_1, d.before a0 Z = true) (p0 : Addr) (h0 : Heap) (n0 : Nat) (Z0 : n0 ≤ h0.size) (la cc : Addr) (fl : Fld Z h0 p0 "com/example/hold/hold/check/ComponentSolver" "length" "[I" (.ref la)) (fc : Fld Z h0 p0 "com/example/hold/hold/check/ComponentSolver" "columnCount" "[I" (.ref cc)) (Al : Ar Z h0 la .int [(.int (0 : Int32)), (.int (0 : Int32))]) (Ac : Ar Z h0 cc .int [(.int (0 : Int32)), (.int (0 : Int32))]) :
    Con l Z (⟨"com/example/hold/hold/check/ComponentSolver", "cost", "(I)I"⟩ : MethodName) prog_35_method_11_code 2 (some .int) [] ({ frames := 1, cells := 0, slots := 0, locals := 15 } : Room) 0 0 #[(.ref p0), (.int (0 : Int32))] h0 (fun v h L => v = some (.int (0 : Int32)) ∧ h = h0 ∧ L = []) := by
  refine Con.body (plainFor_of_name (by first | (simp [plainName, overriddenIn]; done) | decide +kernel)) ?_
  intro p e s m below meth c T0 hx hby hml hown hnm hZ hret hlk X0 e0
  refine Goes.cast (ef_rmCost0 m p0) ?_
  have N0 := Fr.nil n0
  show Goes p.tables e below (T0.setTop (mkF m 0 #[.val (.ref p0), .val (.int (0 : Int32))] [])) _
  refine g_ldc2 X0 hx hZ hown (hw _ (List.mem_of_getElem? (i := 104) rfl)) (hb hby d15_0) ?_
  refine g_aloadN X0 hx (hb hby d15_3) rfl rfl ?_
  refine g_getF X0 hx hZ hown e0 (host := "") (Or.inl (hw _ (List.mem_of_getElem? (i := 20) rfl))) Via.refl fl (hb hby d15_4) (fun T1 X1 e1 => ?_)
  show Goes p.tables e below (T1.setTop (mkF m 7 #[.val (.ref p0), .val (.int (0 : Int32))] [(.ref la), (.long (2147483647 : Int64))])) _
  refine g_iloadN X1 hx (hb hby d15_7) rfl ?_
  refine g_iaload X1 hx hZ e1 Al (i := 0) (v := (.int (0 : Int32))) (by decide) rfl (hb hby d15_8) ?_
  show Goes p.tables e below (T1.setTop (mkF m 9 #[.val (.ref p0), .val (.int (0 : Int32))] [(.int (0 : Int32)), (.long (2147483647 : Int64))])) _
  refine g_i2l X1 hx (hb hby d15_9) ?_
  refine g_nameL (v := (0 : Int64)) (by decide) ?_
  refine g_aloadN X1 hx (hb hby d15_10) rfl rfl ?_
  refine g_getF X1 hx hZ hown e1 (host := "") (Or.inl (hw _ (List.mem_of_getElem? (i := 33) rfl))) Via.refl fc (hb hby d15_11) (fun T2 X2 e2 => ?_)
  show Goes p.tables e below (T2.setTop (mkF m 14 #[.val (.ref p0), .val (.int (0 : Int32))] [(.ref cc), (.long (0 : Int64)), (.long (2147483647 : Int64))])) _
  refine g_iloadN X2 hx (hb hby d15_14) rfl ?_
  refine g_iaload X2 hx hZ e2 Ac (i := 0) (v := (.int (0 : Int32))) (by decide) rfl (hb hby d15_15) ?_
  show Goes p.tables e below (T2.setTop (mkF m 16 #[.val (.ref p0), .val (.int (0 : Int32))] [(.int (0 : Int32)), (.long (0 : Int64)), (.long (2147483647 : Int64))])) _
  refine g_i2l X2 hx (hb hby d15_16) ?_
  refine g_nameL (v := (0 : Int64)) (by decide) ?_
  refine g_lmul X2 hx (hb hby d15_17) ?_
  refine g_nameL (v := (0 : Int64)) (by decide) ?_
  refine g_callS X2 hx hZ hown (by rw [hml]; rfl) e2 (hw _ (List.mem_of_getElem? (i := 105) rfl)) (hw _ (List.mem_of_getElem? (i := 106) rfl)) (hw _ (List.mem_of_getElem? (i := 107) rfl)) (hw _ (List.mem_of_getElem? (i := 108) rfl)) (rmMin l Z a0 hw h0 n0 Z0) [(.long (2147483647 : Int64)), (.long (0 : Int64))] rfl [] rfl (lenOf pd_16 rfl) (hb hby d15_18) (by decide) 0 (by decide) (by decide) (by first | decide | exact Nat.le_refl _) (by decide) (by decide) (fun v T3 L3 X3 hQ3 => ?_)
  obtain ⟨rfl, e3, rfl⟩ := hQ3
  have N4 := Fr.app N0 (Fr.nil n0)
  show Goes p.tables e below (T3.setTop (mkF m 21 #[.val (.ref p0), .val (.int (0 : Int32))] [(.long (0 : Int64))])) _
  refine g_l2i X3 hx (hb hby d15_21) ?_
  refine g_nameI (v := (0 : Int32)) (by decide) ?_
  exact g_retI X3 hx hret hlk (hb hby d15_22) (by decide) (by decide) ⟨rfl, e3, rfl⟩
theorem ef_rmCost1 (m : MethodId) (p0 : Addr) : entryFrame m #[(.ref p0), (.int (1 : Int32))] 2 = mkF m 0 #[.val (.ref p0), .val (.int (1 : Int32))] [] := by first | (simp [entryFrame, mkF, argsToLocals, Value.category]; done) | rfl
set_option maxRecDepth 65536 in
set_option maxHeartbeats 40000000 in
theorem rmCost1 (l : Launch) (Z : State) (a0 : Array Value) (hw : ∀ d ∈ tables_1, d.before a0 Z = true) (p0 : Addr) (h0 : Heap) (n0 : Nat) (Z0 : n0 ≤ h0.size) (la cc : Addr) (fl : Fld Z h0 p0 "com/example/hold/hold/check/ComponentSolver" "length" "[I" (.ref la)) (fc : Fld Z h0 p0 "com/example/hold/hold/check/ComponentSolver" "columnCount" "[I" (.ref cc)) (Al : Ar Z h0 la .int [(.int (0 : Int32)), (.int (0 : Int32))]) (Ac : Ar Z h0 cc .int [(.int (0 : Int32)), (.int (0 : Int32))]) :
    Con l Z (⟨"com/example/hold/hold/check/ComponentSolver", "cost", "(I)I"⟩ : MethodName) prog_35_method_11_code 2 (some .int) [] ({ frames := 1, cells := 0, slots := 0, locals := 15 } : Room) 0 0 #[(.ref p0), (.int (1 : Int32))] h0 (fun v h L => v = some (.int (0 : Int32)) ∧ h = h0 ∧ L = []) := by
  refine Con.body (plainFor_of_name (by first | (simp [plainName, overriddenIn]; done) | decide +kernel)) ?_
  intro p e s m below meth c T0 hx hby hml hown hnm hZ hret hlk X0 e0
  refine Goes.cast (ef_rmCost1 m p0) ?_
  have N0 := Fr.nil n0
  show Goes p.tables e below (T0.setTop (mkF m 0 #[.val (.ref p0), .val (.int (1 : Int32))] [])) _
  refine g_ldc2 X0 hx hZ hown (hw _ (List.mem_of_getElem? (i := 104) rfl)) (hb hby d15_0) ?_
  refine g_aloadN X0 hx (hb hby d15_3) rfl rfl ?_
  refine g_getF X0 hx hZ hown e0 (host := "") (Or.inl (hw _ (List.mem_of_getElem? (i := 20) rfl))) Via.refl fl (hb hby d15_4) (fun T1 X1 e1 => ?_)
  show Goes p.tables e below (T1.setTop (mkF m 7 #[.val (.ref p0), .val (.int (1 : Int32))] [(.ref la), (.long (2147483647 : Int64))])) _
  refine g_iloadN X1 hx (hb hby d15_7) rfl ?_
  refine g_iaload X1 hx hZ e1 Al (i := 1) (v := (.int (0 : Int32))) (by decide) rfl (hb hby d15_8) ?_
  show Goes p.tables e below (T1.setTop (mkF m 9 #[.val (.ref p0), .val (.int (1 : Int32))] [(.int (0 : Int32)), (.long (2147483647 : Int64))])) _
  refine g_i2l X1 hx (hb hby d15_9) ?_
  refine g_nameL (v := (0 : Int64)) (by decide) ?_
  refine g_aloadN X1 hx (hb hby d15_10) rfl rfl ?_
  refine g_getF X1 hx hZ hown e1 (host := "") (Or.inl (hw _ (List.mem_of_getElem? (i := 33) rfl))) Via.refl fc (hb hby d15_11) (fun T2 X2 e2 => ?_)
  show Goes p.tables e below (T2.setTop (mkF m 14 #[.val (.ref p0), .val (.int (1 : Int32))] [(.ref cc), (.long (0 : Int64)), (.long (2147483647 : Int64))])) _
  refine g_iloadN X2 hx (hb hby d15_14) rfl ?_
  refine g_iaload X2 hx hZ e2 Ac (i := 1) (v := (.int (0 : Int32))) (by decide) rfl (hb hby d15_15) ?_
  show Goes p.tables e below (T2.setTop (mkF m 16 #[.val (.ref p0), .val (.int (1 : Int32))] [(.int (0 : Int32)), (.long (0 : Int64)), (.long (2147483647 : Int64))])) _
  refine g_i2l X2 hx (hb hby d15_16) ?_
  refine g_nameL (v := (0 : Int64)) (by decide) ?_
  refine g_lmul X2 hx (hb hby d15_17) ?_
  refine g_nameL (v := (0 : Int64)) (by decide) ?_
  refine g_callS X2 hx hZ hown (by rw [hml]; rfl) e2 (hw _ (List.mem_of_getElem? (i := 105) rfl)) (hw _ (List.mem_of_getElem? (i := 106) rfl)) (hw _ (List.mem_of_getElem? (i := 107) rfl)) (hw _ (List.mem_of_getElem? (i := 108) rfl)) (rmMin l Z a0 hw h0 n0 Z0) [(.long (2147483647 : Int64)), (.long (0 : Int64))] rfl [] rfl (lenOf pd_16 rfl) (hb hby d15_18) (by decide) 0 (by decide) (by decide) (by first | decide | exact Nat.le_refl _) (by decide) (by decide) (fun v T3 L3 X3 hQ3 => ?_)
  obtain ⟨rfl, e3, rfl⟩ := hQ3
  have N4 := Fr.app N0 (Fr.nil n0)
  show Goes p.tables e below (T3.setTop (mkF m 21 #[.val (.ref p0), .val (.int (1 : Int32))] [(.long (0 : Int64))])) _
  refine g_l2i X3 hx (hb hby d15_21) ?_
  refine g_nameI (v := (0 : Int32)) (by decide) ?_
  exact g_retI X3 hx hret hlk (hb hby d15_22) (by decide) (by decide) ⟨rfl, e3, rfl⟩
theorem ef_rmSR0 (m : MethodId) (p0 : Addr) : entryFrame m #[(.ref p0), (.int (0 : Int32))] 14 = mkF m 0 #[.val (.ref p0), .val (.int (0 : Int32)), .unset, .unset, .unset, .unset, .unset, .unset, .unset, .unset, .unset, .unset, .unset, .unset] [] := by first | (simp [entryFrame, mkF, argsToLocals, Value.category]; done) | rfl
set_option maxRecDepth 65536 in
set_option maxHeartbeats 40000000 in
theorem rmSR0 (l : Launch) (Z : State) (a0 : Array Value) (hw : ∀ d ∈ tables_1, d.before a0 Z = true) (p0 : Addr) (h0 : Heap) (n0 : Nat) (Z0 : n0 ≤ h0.size) (ca va la lv ex su rc cc : Addr) (xl yl zl : List Value) (hS : Sol Z h0 p0 ca va la lv ex su rc cc xl yl zl) (hC : Chn n0 p0 ca va la lv ex su rc cc) :
    Con l Z (⟨"com/example/hold/hold/check/ComponentSolver", "sortRow", "(I)V"⟩ : MethodName) prog_35_method_13_code 14 none [] ({ frames := 4, cells := 3, slots := 0, locals := 84 } : Room) 3 0 #[(.ref p0), (.int (0 : Int32))] h0 (fun v h L => v = none ∧ Fr n0 L ∧ Keep h0 h [ca, va, la] ∧ Sol Z h p0 ca va la lv ex su rc cc xl yl zl) := by
  refine Con.body (plainFor_of_name (by first | (simp [plainName, overriddenIn]; done) | decide +kernel)) ?_
  intro p e s m below meth c T0 hx hby hml hown hnm hZ hret hlk X0 e0
  refine Goes.cast (ef_rmSR0 m p0) ?_
  have N0 := Fr.nil n0
  have K0 : Keep h0 h0 [ca, va, la] := Keep.refl _ _
  obtain ⟨Es, zs, scas, svas, slas, slvs, sexs, ssus, srcs, sccs, ⟨l1s, hl1s, Acs⟩, Ocs, ⟨l2s, hl2s, Avs⟩, Ovs, Alas, Alvs, Aexs, Asus, Arcs, Accs⟩ := hS
  obtain ⟨g0, g1, g2, g3, g4, g5, g6, g7, g8⟩ := hC
  have ge_p0 : n0 ≤ p0 := by omega
  have ne_p0_ca : p0 ≠ ca := Nat.ne_of_lt (by omega)
  have ne_p0_va : p0 ≠ va := Nat.ne_of_lt (by omega)
  have ne_p0_la : p0 ≠ la := Nat.ne_of_lt (by omega)
  have ne_p0_lv : p0 ≠ lv := Nat.ne_of_lt (by omega)
  have ne_p0_ex : p0 ≠ ex := Nat.ne_of_lt (by omega)
  have ne_p0_su : p0 ≠ su := Nat.ne_of_lt (by omega)
  have ne_p0_rc : p0 ≠ rc := Nat.ne_of_lt (by omega)
  have ne_p0_cc : p0 ≠ cc := Nat.ne_of_lt (by omega)
  have ge_ca : n0 ≤ ca := by omega
  have ne_ca_va : ca ≠ va := Nat.ne_of_lt (by omega)
  have ne_ca_la : ca ≠ la := Nat.ne_of_lt (by omega)
  have ne_ca_lv : ca ≠ lv := Nat.ne_of_lt (by omega)
  have ne_ca_ex : ca ≠ ex := Nat.ne_of_lt (by omega)
  have ne_ca_su : ca ≠ su := Nat.ne_of_lt (by omega)
  have ne_ca_rc : ca ≠ rc := Nat.ne_of_lt (by omega)
  have ne_ca_cc : ca ≠ cc := Nat.ne_of_lt (by omega)
  have ge_va : n0 ≤ va := by omega
  have ne_va_la : va ≠ la := Nat.ne_of_lt (by omega)
  have ne_va_lv : va ≠ lv := Nat.ne_of_lt (by omega)
  have ne_va_ex : va ≠ ex := Nat.ne_of_lt (by omega)
  have ne_va_su : va ≠ su := Nat.ne_of_lt (by omega)
  have ne_va_rc : va ≠ rc := Nat.ne_of_lt (by omega)
  have ne_va_cc : va ≠ cc := Nat.ne_of_lt (by omega)
  have ge_la : n0 ≤ la := by omega
  have ne_la_lv : la ≠ lv := Nat.ne_of_lt (by omega)
  have ne_la_ex : la ≠ ex := Nat.ne_of_lt (by omega)
  have ne_la_su : la ≠ su := Nat.ne_of_lt (by omega)
  have ne_la_rc : la ≠ rc := Nat.ne_of_lt (by omega)
  have ne_la_cc : la ≠ cc := Nat.ne_of_lt (by omega)
  have ge_lv : n0 ≤ lv := by omega
  have ne_lv_ex : lv ≠ ex := Nat.ne_of_lt (by omega)
  have ne_lv_su : lv ≠ su := Nat.ne_of_lt (by omega)
  have ne_lv_rc : lv ≠ rc := Nat.ne_of_lt (by omega)
  have ne_lv_cc : lv ≠ cc := Nat.ne_of_lt (by omega)
  have ge_ex : n0 ≤ ex := by omega
  have ne_ex_su : ex ≠ su := Nat.ne_of_lt (by omega)
  have ne_ex_rc : ex ≠ rc := Nat.ne_of_lt (by omega)
  have ne_ex_cc : ex ≠ cc := Nat.ne_of_lt (by omega)
  have ge_su : n0 ≤ su := by omega
  have ne_su_rc : su ≠ rc := Nat.ne_of_lt (by omega)
  have ne_su_cc : su ≠ cc := Nat.ne_of_lt (by omega)
  have ge_rc : n0 ≤ rc := by omega
  have ne_rc_cc : rc ≠ cc := Nat.ne_of_lt (by omega)
  have ge_cc : n0 ≤ cc := by omega
  show Goes p.tables e below (T0.setTop (mkF m 0 #[.val (.ref p0), .val (.int (0 : Int32)), .unset, .unset, .unset, .unset, .unset, .unset, .unset, .unset, .unset, .unset, .unset, .unset] [])) _
  refine g_aloadN X0 hx (hb hby d6_0) rfl rfl ?_
  refine g_getF X0 hx hZ hown e0 (host := "") (Or.inl (hw _ (List.mem_of_getElem? (i := 20) rfl))) Via.refl slas (hb hby d6_1) (fun T1 X1 e1 => ?_)
  show Goes p.tables e below (T1.setTop (mkF m 4 #[.val (.ref p0), .val (.int (0 : Int32)), .unset, .unset, .unset, .unset, .unset, .unset, .unset, .unset, .unset, .unset, .unset, .unset] [(.ref la)])) _
  refine g_iloadN X1 hx (hb hby d6_4) rfl ?_
  refine g_iaload X1 hx hZ e1 Alas (i := 0) (v := (.int (0 : Int32))) (by decide) rfl (hb hby d6_5) ?_
  show Goes p.tables e below (T1.setTop (mkF m 6 #[.val (.ref p0), .val (.int (0 : Int32)), .unset, .unset, .unset, .unset, .unset, .unset, .unset, .unset, .unset, .unset, .unset, .unset] [(.int (0 : Int32))])) _
  refine g_newarr X1 hx hZ e1 (hw _ (List.mem_of_getElem? (i := 56) rfl)) (hb hby d6_6) (n := 0) (by decide) 0 (by decide) (by decide) (by decide) (by decide) (ad := "[J") (by decide) rfl (fun T2 h2 a2 ga2 X2 e2 Ex2 Aa2 Ea2 => ?_)
  have lt3 : p0 < a2 := by rw [ga2]; exact Es.lt
  have lt4 : ca < a2 := by rw [ga2]; exact Acs.lt
  have lt5 : va < a2 := by rw [ga2]; exact Avs.lt
  have lt6 : la < a2 := by rw [ga2]; exact Alas.lt
  have lt7 : lv < a2 := by rw [ga2]; exact Alvs.lt
  have lt8 : ex < a2 := by rw [ga2]; exact Aexs.lt
  have lt9 : su < a2 := by rw [ga2]; exact Asus.lt
  have lt10 : rc < a2 := by rw [ga2]; exact Arcs.lt
  have lt11 : cc < a2 := by rw [ga2]; exact Accs.lt
  have ge12 : n0 ≤ a2 := by rw [ga2]; exact Z0
  have ge13 : h0.size ≤ a2 := by rw [ga2]; exact K0.1
  have fx14 : Exa Z h2 p0 "com/example/hold/hold/check/ComponentSolver" := Exa.ext Ex2 Es
  have fx15 : Fld Z h2 p0 "com/example/hold/hold/check/ComponentSolver" "size" "I" (.int (2 : Int32)) := Fld.ext Ex2 zs
  have fx16 : Fld Z h2 p0 "com/example/hold/hold/check/ComponentSolver" "columns" "[[I" (.ref ca) := Fld.ext Ex2 scas
  have fx17 : Fld Z h2 p0 "com/example/hold/hold/check/ComponentSolver" "values" "[[D" (.ref va) := Fld.ext Ex2 svas
  have fx18 : Fld Z h2 p0 "com/example/hold/hold/check/ComponentSolver" "length" "[I" (.ref la) := Fld.ext Ex2 slas
  have fx19 : Fld Z h2 p0 "com/example/hold/hold/check/ComponentSolver" "leaving" "[D" (.ref lv) := Fld.ext Ex2 slvs
  have fx20 : Fld Z h2 p0 "com/example/hold/hold/check/ComponentSolver" "exits" "[D" (.ref ex) := Fld.ext Ex2 sexs
  have fx21 : Fld Z h2 p0 "com/example/hold/hold/check/ComponentSolver" "surplus" "[D" (.ref su) := Fld.ext Ex2 ssus
  have fx22 : Fld Z h2 p0 "com/example/hold/hold/check/ComponentSolver" "rowsUsingCount" "[I" (.ref rc) := Fld.ext Ex2 srcs
  have fx23 : Fld Z h2 p0 "com/example/hold/hold/check/ComponentSolver" "columnCount" "[I" (.ref cc) := Fld.ext Ex2 sccs
  have fx24 : Ar Z h2 ca (.array .int) l1s := Ar.ext Acs Ex2
  have fx25 : Ovc Z h2 ca "[I" := Ovc.ext Ocs Ex2
  have fx26 : Ar Z h2 va (.array .double) l2s := Ar.ext Avs Ex2
  have fx27 : Ovc Z h2 va "[D" := Ovc.ext Ovs Ex2
  have fx28 : Ar Z h2 la .int [(.int (0 : Int32)), (.int (0 : Int32))] := Ar.ext Alas Ex2
  have fx29 : Ar Z h2 lv .double xl := Ar.ext Alvs Ex2
  have fx30 : Ar Z h2 ex .double yl := Ar.ext Aexs Ex2
  have fx31 : Ar Z h2 su .double zl := Ar.ext Asus Ex2
  have fx32 : Ar Z h2 rc .int [(.int (0 : Int32)), (.int (0 : Int32))] := Ar.ext Arcs Ex2
  have fx33 : Ar Z h2 cc .int [(.int (0 : Int32)), (.int (0 : Int32))] := Ar.ext Accs Ex2
  have Z34 : n0 ≤ h2.size := Nat.le_trans Z0 Ex2.1
  have K35 : Keep h0 h2 [ca, va, la] := Keep.ext K0 Ex2
  have fx36 : Ar Z h2 a2 .long [] := Aa2
  show Goes p.tables e below (T2.setTop (mkF m 8 #[.val (.ref p0), .val (.int (0 : Int32)), .unset, .unset, .unset, .unset, .unset, .unset, .unset, .unset, .unset, .unset, .unset, .unset] [(.ref a2)])) _
  refine g_astoreN X2 hx (hb hby d6_8) rfl (l' := #[.val (.ref p0), .val (.int (0 : Int32)), .val (.ref a2), .unset, .unset, .unset, .unset, .unset, .unset, .unset, .unset, .unset, .unset, .unset]) rfl ?_
  refine g_iconst X2 hx (0 : Int32) (hb hby d6_9) rfl ?_
  refine g_istoreN X2 hx (hb hby d6_10) (l' := #[.val (.ref p0), .val (.int (0 : Int32)), .val (.ref a2), .val (.int (0 : Int32)), .unset, .unset, .unset, .unset, .unset, .unset, .unset, .unset, .unset, .unset]) rfl ?_
  refine g_iloadN X2 hx (hb hby d6_11) rfl ?_
  refine g_aloadN X2 hx (hb hby d6_12) rfl rfl ?_
  refine g_getF X2 hx hZ hown e2 (host := "") (Or.inl (hw _ (List.mem_of_getElem? (i := 20) rfl))) Via.refl fx18 (hb hby d6_13) (fun T37 X37 e37 => ?_)
  show Goes p.tables e below (T37.setTop (mkF m 16 #[.val (.ref p0), .val (.int (0 : Int32)), .val (.ref a2), .val (.int (0 : Int32)), .unset, .unset, .unset, .unset, .unset, .unset, .unset, .unset, .unset, .unset] [(.ref la), (.int (0 : Int32))])) _
  refine g_iloadN X37 hx (hb hby d6_16) rfl ?_
  refine g_iaload X37 hx hZ e37 fx28 (i := 0) (v := (.int (0 : Int32))) (by decide) rfl (hb hby d6_17) ?_
  show Goes p.tables e below (T37.setTop (mkF m 18 #[.val (.ref p0), .val (.int (0 : Int32)), .val (.ref a2), .val (.int (0 : Int32)), .unset, .unset, .unset, .unset, .unset, .unset, .unset, .unset, .unset, .unset] [(.int (0 : Int32)), (.int (0 : Int32))])) _
  refine g_icmp_ge X37 hx (hb hby d6_18) (by decide) (pc' := 45) (by decide) (fun _ => ?_) (fun q => absurd q (by decide))
  show Goes p.tables e below (T37.setTop (mkF m 45 #[.val (.ref p0), .val (.int (0 : Int32)), .val (.ref a2), .val (.int (0 : Int32)), .unset, .unset, .unset, .unset, .unset, .unset, .unset, .unset, .unset, .unset] [])) _
  refine g_aloadN X37 hx (hb hby d6_45) rfl rfl ?_
  refine g_callS X37 hx hZ hown (by rw [hml]; rfl) e37 (hw _ (List.mem_of_getElem? (i := 57) rfl)) (hw _ (List.mem_of_getElem? (i := 58) rfl)) (hw _ (List.mem_of_getElem? (i := 59) rfl)) (hw _ (List.mem_of_getElem? (i := 60) rfl)) (rmSort l Z a0 hw a2 h2 n0 Z34 fx36) [(.ref a2)] rfl [] rfl (lenOf pd_7 rfl) (hb hby d6_46) (by decide) 0 (by decide) (by decide) (by first | decide | exact Nat.le_refl _) (by decide) (by decide) (fun v T38 L38 X38 hQ38 => ?_)
  obtain ⟨rfl, e38, rfl⟩ := hQ38
  have N39 := Fr.app N0 (Fr.nil n0)
  show Goes p.tables e below (T38.setTop (mkF m 49 #[.val (.ref p0), .val (.int (0 : Int32)), .val (.ref a2), .val (.int (0 : Int32)), .unset, .unset, .unset, .unset, .unset, .unset, .unset, .unset, .unset, .unset] [])) _
  refine g_aloadN X38 hx (hb hby d6_49) rfl rfl ?_
  refine g_alen X38 hx hZ e38 fx36 (0 : Int32) (by show (0 : Int32).toInt = ((0 : Nat) : Int); decide) (hb hby d6_50) ?_
  show Goes p.tables e below (T38.setTop (mkF m 51 #[.val (.ref p0), .val (.int (0 : Int32)), .val (.ref a2), .val (.int (0 : Int32)), .unset, .unset, .unset, .unset, .unset, .unset, .unset, .unset, .unset, .unset] [(.int (0 : Int32))])) _
  refine g_newarr X38 hx hZ e38 (hw _ (List.mem_of_getElem? (i := 19) rfl)) (hb hby d6_51) (n := 0) (by decide) 0 (by decide) (by decide) (by decide) (by decide) (ad := "[I") (by decide) rfl (fun T40 h40 a40 ga40 X40 e40 Ex40 Aa40 Ea40 => ?_)
  have lt41 : p0 < a40 := by rw [ga40]; exact fx14.lt
  have lt42 : ca < a40 := by rw [ga40]; exact fx24.lt
  have lt43 : va < a40 := by rw [ga40]; exact fx26.lt
  have lt44 : la < a40 := by rw [ga40]; exact fx28.lt
  have lt45 : lv < a40 := by rw [ga40]; exact fx29.lt
  have lt46 : ex < a40 := by rw [ga40]; exact fx30.lt
  have lt47 : su < a40 := by rw [ga40]; exact fx31.lt
  have lt48 : rc < a40 := by rw [ga40]; exact fx32.lt
  have lt49 : cc < a40 := by rw [ga40]; exact fx33.lt
  have lt50 : a2 < a40 := by rw [ga40]; exact fx36.lt
  have ge51 : n0 ≤ a40 := by rw [ga40]; exact Z34
  have ge52 : h0.size ≤ a40 := by rw [ga40]; exact K35.1
  have fx53 : Exa Z h40 p0 "com/example/hold/hold/check/ComponentSolver" := Exa.ext Ex40 fx14
  have fx54 : Fld Z h40 p0 "com/example/hold/hold/check/ComponentSolver" "size" "I" (.int (2 : Int32)) := Fld.ext Ex40 fx15
  have fx55 : Fld Z h40 p0 "com/example/hold/hold/check/ComponentSolver" "columns" "[[I" (.ref ca) := Fld.ext Ex40 fx16
  have fx56 : Fld Z h40 p0 "com/example/hold/hold/check/ComponentSolver" "values" "[[D" (.ref va) := Fld.ext Ex40 fx17
  have fx57 : Fld Z h40 p0 "com/example/hold/hold/check/ComponentSolver" "length" "[I" (.ref la) := Fld.ext Ex40 fx18
  have fx58 : Fld Z h40 p0 "com/example/hold/hold/check/ComponentSolver" "leaving" "[D" (.ref lv) := Fld.ext Ex40 fx19
  have fx59 : Fld Z h40 p0 "com/example/hold/hold/check/ComponentSolver" "exits" "[D" (.ref ex) := Fld.ext Ex40 fx20
  have fx60 : Fld Z h40 p0 "com/example/hold/hold/check/ComponentSolver" "surplus" "[D" (.ref su) := Fld.ext Ex40 fx21
  have fx61 : Fld Z h40 p0 "com/example/hold/hold/check/ComponentSolver" "rowsUsingCount" "[I" (.ref rc) := Fld.ext Ex40 fx22
  have fx62 : Fld Z h40 p0 "com/example/hold/hold/check/ComponentSolver" "columnCount" "[I" (.ref cc) := Fld.ext Ex40 fx23
  have fx63 : Ar Z h40 ca (.array .int) l1s := Ar.ext fx24 Ex40
  have fx64 : Ovc Z h40 ca "[I" := Ovc.ext fx25 Ex40
  have fx65 : Ar Z h40 va (.array .double) l2s := Ar.ext fx26 Ex40
  have fx66 : Ovc Z h40 va "[D" := Ovc.ext fx27 Ex40
  have fx67 : Ar Z h40 la .int [(.int (0 : Int32)), (.int (0 : Int32))] := Ar.ext fx28 Ex40
  have fx68 : Ar Z h40 lv .double xl := Ar.ext fx29 Ex40
  have fx69 : Ar Z h40 ex .double yl := Ar.ext fx30 Ex40
  have fx70 : Ar Z h40 su .double zl := Ar.ext fx31 Ex40
  have fx71 : Ar Z h40 rc .int [(.int (0 : Int32)), (.int (0 : Int32))] := Ar.ext fx32 Ex40
  have fx72 : Ar Z h40 cc .int [(.int (0 : Int32)), (.int (0 : Int32))] := Ar.ext fx33 Ex40
  have fx73 : Ar Z h40 a2 .long [] := Ar.ext fx36 Ex40
  have fx74 : Exa Z h40 a2 "[J" := Exa.ext Ex40 Ea2
  have Z75 : n0 ≤ h40.size := Nat.le_trans Z34 Ex40.1
  have K76 : Keep h0 h40 [ca, va, la] := Keep.ext K35 Ex40
  have fx77 : Ar Z h40 a40 .int [] := Aa40
  show Goes p.tables e below (T40.setTop (mkF m 53 #[.val (.ref p0), .val (.int (0 : Int32)), .val (.ref a2), .val (.int (0 : Int32)), .unset, .unset, .unset, .unset, .unset, .unset, .unset, .unset, .unset, .unset] [(.ref a40)])) _
  refine g_astoreN X40 hx (hb hby d6_53) rfl (l' := #[.val (.ref p0), .val (.int (0 : Int32)), .val (.ref a2), .val (.ref a40), .unset, .unset, .unset, .unset, .unset, .unset, .unset, .unset, .unset, .unset]) rfl ?_
  refine g_aloadN X40 hx (hb hby d6_54) rfl rfl ?_
  refine g_alen X40 hx hZ e40 fx73 (0 : Int32) (by show (0 : Int32).toInt = ((0 : Nat) : Int); decide) (hb hby d6_55) ?_
  show Goes p.tables e below (T40.setTop (mkF m 56 #[.val (.ref p0), .val (.int (0 : Int32)), .val (.ref a2), .val (.ref a40), .unset, .unset, .unset, .unset, .unset, .unset, .unset, .unset, .unset, .unset] [(.int (0 : Int32))])) _
  refine g_newarr X40 hx hZ e40 (hw _ (List.mem_of_getElem? (i := 22) rfl)) (hb hby d6_56) (n := 0) (by decide) 0 (by decide) (by decide) (by decide) (by decide) (ad := "[D") (by decide) rfl (fun T78 h78 a78 ga78 X78 e78 Ex78 Aa78 Ea78 => ?_)
  have lt79 : p0 < a78 := by rw [ga78]; exact fx53.lt
  have lt80 : ca < a78 := by rw [ga78]; exact fx63.lt
  have lt81 : va < a78 := by rw [ga78]; exact fx65.lt
  have lt82 : la < a78 := by rw [ga78]; exact fx67.lt
  have lt83 : lv < a78 := by rw [ga78]; exact fx68.lt
  have lt84 : ex < a78 := by rw [ga78]; exact fx69.lt
  have lt85 : su < a78 := by rw [ga78]; exact fx70.lt
  have lt86 : rc < a78 := by rw [ga78]; exact fx71.lt
  have lt87 : cc < a78 := by rw [ga78]; exact fx72.lt
  have lt88 : a2 < a78 := by rw [ga78]; exact fx73.lt
  have lt89 : a40 < a78 := by rw [ga78]; exact fx77.lt
  have ge90 : n0 ≤ a78 := by rw [ga78]; exact Z75
  have ge91 : h0.size ≤ a78 := by rw [ga78]; exact K76.1
  have fx92 : Exa Z h78 p0 "com/example/hold/hold/check/ComponentSolver" := Exa.ext Ex78 fx53
  have fx93 : Fld Z h78 p0 "com/example/hold/hold/check/ComponentSolver" "size" "I" (.int (2 : Int32)) := Fld.ext Ex78 fx54
  have fx94 : Fld Z h78 p0 "com/example/hold/hold/check/ComponentSolver" "columns" "[[I" (.ref ca) := Fld.ext Ex78 fx55
  have fx95 : Fld Z h78 p0 "com/example/hold/hold/check/ComponentSolver" "values" "[[D" (.ref va) := Fld.ext Ex78 fx56
  have fx96 : Fld Z h78 p0 "com/example/hold/hold/check/ComponentSolver" "length" "[I" (.ref la) := Fld.ext Ex78 fx57
  have fx97 : Fld Z h78 p0 "com/example/hold/hold/check/ComponentSolver" "leaving" "[D" (.ref lv) := Fld.ext Ex78 fx58
  have fx98 : Fld Z h78 p0 "com/example/hold/hold/check/ComponentSolver" "exits" "[D" (.ref ex) := Fld.ext Ex78 fx59
  have fx99 : Fld Z h78 p0 "com/example/hold/hold/check/ComponentSolver" "surplus" "[D" (.ref su) := Fld.ext Ex78 fx60
  have fx100 : Fld Z h78 p0 "com/example/hold/hold/check/ComponentSolver" "rowsUsingCount" "[I" (.ref rc) := Fld.ext Ex78 fx61
  have fx101 : Fld Z h78 p0 "com/example/hold/hold/check/ComponentSolver" "columnCount" "[I" (.ref cc) := Fld.ext Ex78 fx62
  have fx102 : Ar Z h78 ca (.array .int) l1s := Ar.ext fx63 Ex78
  have fx103 : Ovc Z h78 ca "[I" := Ovc.ext fx64 Ex78
  have fx104 : Ar Z h78 va (.array .double) l2s := Ar.ext fx65 Ex78
  have fx105 : Ovc Z h78 va "[D" := Ovc.ext fx66 Ex78
  have fx106 : Ar Z h78 la .int [(.int (0 : Int32)), (.int (0 : Int32))] := Ar.ext fx67 Ex78
  have fx107 : Ar Z h78 lv .double xl := Ar.ext fx68 Ex78
  have fx108 : Ar Z h78 ex .double yl := Ar.ext fx69 Ex78
  have fx109 : Ar Z h78 su .double zl := Ar.ext fx70 Ex78
  have fx110 : Ar Z h78 rc .int [(.int (0 : Int32)), (.int (0 : Int32))] := Ar.ext fx71 Ex78
  have fx111 : Ar Z h78 cc .int [(.int (0 : Int32)), (.int (0 : Int32))] := Ar.ext fx72 Ex78
  have fx112 : Ar Z h78 a2 .long [] := Ar.ext fx73 Ex78
  have fx113 : Exa Z h78 a2 "[J" := Exa.ext Ex78 fx74
  have fx114 : Ar Z h78 a40 .int [] := Ar.ext fx77 Ex78
  have fx115 : Exa Z h78 a40 "[I" := Exa.ext Ex78 Ea40
  have Z116 : n0 ≤ h78.size := Nat.le_trans Z75 Ex78.1
  have K117 : Keep h0 h78 [ca, va, la] := Keep.ext K76 Ex78
  have fx118 : Ar Z h78 a78 .double [] := Aa78
  show Goes p.tables e below (T78.setTop (mkF m 58 #[.val (.ref p0), .val (.int (0 : Int32)), .val (.ref a2), .val (.ref a40), .unset, .unset, .unset, .unset, .unset, .unset, .unset, .unset, .unset, .unset] [(.ref a78)])) _
  refine g_astore X78 hx (hb hby d6_58) rfl (l' := #[.val (.ref p0), .val (.int (0 : Int32)), .val (.ref a2), .val (.ref a40), .val (.ref a78), .unset, .unset, .unset, .unset, .unset, .unset, .unset, .unset, .unset]) rfl ?_
  refine g_iconst X78 hx (0 : Int32) (hb hby d6_60) rfl ?_
  refine g_istore X78 hx (hb hby d6_61) (l' := #[.val (.ref p0), .val (.int (0 : Int32)), .val (.ref a2), .val (.ref a40), .val (.ref a78), .val (.int (0 : Int32)), .unset, .unset, .unset, .unset, .unset, .unset, .unset, .unset]) rfl ?_
  refine g_aloadN X78 hx (hb hby d6_63) rfl rfl ?_
  refine g_astore X78 hx (hb hby d6_64) rfl (l' := #[.val (.ref p0), .val (.int (0 : Int32)), .val (.ref a2), .val (.ref a40), .val (.ref a78), .val (.int (0 : Int32)), .val (.ref a2), .unset, .unset, .unset, .unset, .unset, .unset, .unset]) rfl ?_
  refine g_aload X78 hx (hb hby d6_66) rfl rfl ?_
  show Goes p.tables e below (T78.setTop (mkF m 68 #[.val (.ref p0), .val (.int (0 : Int32)), .val (.ref a2), .val (.ref a40), .val (.ref a78), .val (.int (0 : Int32)), .val (.ref a2), .unset, .unset, .unset, .unset, .unset, .unset, .unset] [(.ref a2)])) _
  refine g_alen X78 hx hZ e78 fx112 (0 : Int32) (by show (0 : Int32).toInt = ((0 : Nat) : Int); decide) (hb hby d6_68) ?_
  show Goes p.tables e below (T78.setTop (mkF m 69 #[.val (.ref p0), .val (.int (0 : Int32)), .val (.ref a2), .val (.ref a40), .val (.ref a78), .val (.int (0 : Int32)), .val (.ref a2), .unset, .unset, .unset, .unset, .unset, .unset, .unset] [(.int (0 : Int32))])) _
  refine g_istore X78 hx (hb hby d6_69) (l' := #[.val (.ref p0), .val (.int (0 : Int32)), .val (.ref a2), .val (.ref a40), .val (.ref a78), .val (.int (0 : Int32)), .val (.ref a2), .val (.int (0 : Int32)), .unset, .unset, .unset, .unset, .unset, .unset]) rfl ?_
  refine g_iconst X78 hx (0 : Int32) (hb hby d6_71) rfl ?_
  refine g_istore X78 hx (hb hby d6_72) (l' := #[.val (.ref p0), .val (.int (0 : Int32)), .val (.ref a2), .val (.ref a40), .val (.ref a78), .val (.int (0 : Int32)), .val (.ref a2), .val (.int (0 : Int32)), .val (.int (0 : Int32)), .unset, .unset, .unset, .unset, .unset]) rfl ?_
  refine g_iload X78 hx (hb hby d6_74) rfl ?_
  refine g_iload X78 hx (hb hby d6_76) rfl ?_
  refine g_icmp_ge X78 hx (hb hby d6_78) (by decide) (pc' := 161) (by decide) (fun _ => ?_) (fun q => absurd q (by decide))
  show Goes p.tables e below (T78.setTop (mkF m 161 #[.val (.ref p0), .val (.int (0 : Int32)), .val (.ref a2), .val (.ref a40), .val (.ref a78), .val (.int (0 : Int32)), .val (.ref a2), .val (.int (0 : Int32)), .val (.int (0 : Int32)), .unset, .unset, .unset, .unset, .unset] [])) _
  refine g_aloadN X78 hx (hb hby d6_161) rfl rfl ?_
  refine g_getF X78 hx hZ hown e78 (host := "") (Or.inl (hw _ (List.mem_of_getElem? (i := 13) rfl))) Via.refl fx94 (hb hby d6_162) (fun T119 X119 e119 => ?_)
  show Goes p.tables e below (T119.setTop (mkF m 165 #[.val (.ref p0), .val (.int (0 : Int32)), .val (.ref a2), .val (.ref a40), .val (.ref a78), .val (.int (0 : Int32)), .val (.ref a2), .val (.int (0 : Int32)), .val (.int (0 : Int32)), .unset, .unset, .unset, .unset, .unset] [(.ref ca)])) _
  refine g_iloadN X119 hx (hb hby d6_165) rfl ?_
  refine g_aloadN X119 hx (hb hby d6_166) rfl rfl ?_
  refine g_aastore X119 hx hZ e119 fx102 rfl (v := (.ref a40)) rfl (Ovc.sto fx103 fx102 (Ins.self fx115)) 0 (by decide) (by rw [hl1s]; decide) (hb hby d6_167) (fun T120 h120 X120 e120 W120 A120 => ?_)
  have fx121 : Exa Z h120 p0 "com/example/hold/hold/check/ComponentSolver" := Exa.wr W120 fx92
  have fx122 : Fld Z h120 p0 "com/example/hold/hold/check/ComponentSolver" "size" "I" (.int (2 : Int32)) := Fld.other W120 fx93 (Or.inl ne_p0_ca)
  have fx123 : Fld Z h120 p0 "com/example/hold/hold/check/ComponentSolver" "columns" "[[I" (.ref ca) := Fld.other W120 fx94 (Or.inl ne_p0_ca)
  have fx124 : Fld Z h120 p0 "com/example/hold/hold/check/ComponentSolver" "values" "[[D" (.ref va) := Fld.other W120 fx95 (Or.inl ne_p0_ca)
  have fx125 : Fld Z h120 p0 "com/example/hold/hold/check/ComponentSolver" "length" "[I" (.ref la) := Fld.other W120 fx96 (Or.inl ne_p0_ca)
  have fx126 : Fld Z h120 p0 "com/example/hold/hold/check/ComponentSolver" "leaving" "[D" (.ref lv) := Fld.other W120 fx97 (Or.inl ne_p0_ca)
  have fx127 : Fld Z h120 p0 "com/example/hold/hold/check/ComponentSolver" "exits" "[D" (.ref ex) := Fld.other W120 fx98 (Or.inl ne_p0_ca)
  have fx128 : Fld Z h120 p0 "com/example/hold/hold/check/ComponentSolver" "surplus" "[D" (.ref su) := Fld.other W120 fx99 (Or.inl ne_p0_ca)
  have fx129 : Fld Z h120 p0 "com/example/hold/hold/check/ComponentSolver" "rowsUsingCount" "[I" (.ref rc) := Fld.other W120 fx100 (Or.inl ne_p0_ca)
  have fx130 : Fld Z h120 p0 "com/example/hold/hold/check/ComponentSolver" "columnCount" "[I" (.ref cc) := Fld.other W120 fx101 (Or.inl ne_p0_ca)
  have fx131 : Ovc Z h120 ca "[I" := Ovc.wr fx103 W120
  have fx132 : Ar Z h120 va (.array .double) l2s := Ar.other fx104 W120 (Ne.symm ne_ca_va)
  have fx133 : Ovc Z h120 va "[D" := Ovc.wr fx105 W120
  have fx134 : Ar Z h120 la .int [(.int (0 : Int32)), (.int (0 : Int32))] := Ar.other fx106 W120 (Ne.symm ne_ca_la)
  have fx135 : Ar Z h120 lv .double xl := Ar.other fx107 W120 (Ne.symm ne_ca_lv)
  have fx136 : Ar Z h120 ex .double yl := Ar.other fx108 W120 (Ne.symm ne_ca_ex)
  have fx137 : Ar Z h120 su .double zl := Ar.other fx109 W120 (Ne.symm ne_ca_su)
  have fx138 : Ar Z h120 rc .int [(.int (0 : Int32)), (.int (0 : Int32))] := Ar.other fx110 W120 (Ne.symm ne_ca_rc)
  have fx139 : Ar Z h120 cc .int [(.int (0 : Int32)), (.int (0 : Int32))] := Ar.other fx111 W120 (Ne.symm ne_ca_cc)
  have fx140 : Ar Z h120 a2 .long [] := Ar.other fx112 W120 (Ne.symm (Nat.ne_of_lt lt4))
  have fx141 : Exa Z h120 a2 "[J" := Exa.wr W120 fx113
  have fx142 : Ar Z h120 a40 .int [] := Ar.other fx114 W120 (Ne.symm (Nat.ne_of_lt lt42))
  have fx143 : Exa Z h120 a40 "[I" := Exa.wr W120 fx115
  have fx144 : Ar Z h120 a78 .double [] := Ar.other fx118 W120 (Ne.symm (Nat.ne_of_lt lt80))
  have fx145 : Exa Z h120 a78 "[D" := Exa.wr W120 Ea78
  have fx146 : Ar Z h120 ca (.array .int) (List.set l1s 0 (.ref a40)) := A120
  have N147 := Fr.snoc X120 N39 ge_ca
  have Z148 : n0 ≤ h120.size := by rw [W120.size]; exact Z116
  have K149 : Keep h0 h120 [ca, va, la] := Keep.wr K117 W120 (Or.inl (List.mem_of_getElem? (i := 0) rfl))
  show Goes p.tables e below (T120.setTop (mkF m 168 #[.val (.ref p0), .val (.int (0 : Int32)), .val (.ref a2), .val (.ref a40), .val (.ref a78), .val (.int (0 : Int32)), .val (.ref a2), .val (.int (0 : Int32)), .val (.int (0 : Int32)), .unset, .unset, .unset, .unset, .unset] [])) _
  refine g_aloadN X120 hx (hb hby d6_168) rfl rfl ?_
  refine g_getF X120 hx hZ hown e120 (host := "") (Or.inl (hw _ (List.mem_of_getElem? (i := 17) rfl))) Via.refl fx124 (hb hby d6_169) (fun T150 X150 e150 => ?_)
  show Goes p.tables e below (T150.setTop (mkF m 172 #[.val (.ref p0), .val (.int (0 : Int32)), .val (.ref a2), .val (.ref a40), .val (.ref a78), .val (.int (0 : Int32)), .val (.ref a2), .val (.int (0 : Int32)), .val (.int (0 : Int32)), .unset, .unset, .unset, .unset, .unset] [(.ref va)])) _
  refine g_iloadN X150 hx (hb hby d6_172) rfl ?_
  refine g_aload X150 hx (hb hby d6_173) rfl rfl ?_
  refine g_aastore X150 hx hZ e150 fx132 rfl (v := (.ref a78)) rfl (Ovc.sto fx133 fx132 (Ins.self fx145)) 0 (by decide) (by rw [hl2s]; decide) (hb hby d6_175) (fun T151 h151 X151 e151 W151 A151 => ?_)
  have fx152 : Exa Z h151 p0 "com/example/hold/hold/check/ComponentSolver" := Exa.wr W151 fx121
  have fx153 : Fld Z h151 p0 "com/example/hold/hold/check/ComponentSolver" "size" "I" (.int (2 : Int32)) := Fld.other W151 fx122 (Or.inl ne_p0_va)
  have fx154 : Fld Z h151 p0 "com/example/hold/hold/check/ComponentSolver" "columns" "[[I" (.ref ca) := Fld.other W151 fx123 (Or.inl ne_p0_va)
  have fx155 : Fld Z h151 p0 "com/example/hold/hold/check/ComponentSolver" "values" "[[D" (.ref va) := Fld.other W151 fx124 (Or.inl ne_p0_va)
  have fx156 : Fld Z h151 p0 "com/example/hold/hold/check/ComponentSolver" "length" "[I" (.ref la) := Fld.other W151 fx125 (Or.inl ne_p0_va)
  have fx157 : Fld Z h151 p0 "com/example/hold/hold/check/ComponentSolver" "leaving" "[D" (.ref lv) := Fld.other W151 fx126 (Or.inl ne_p0_va)
  have fx158 : Fld Z h151 p0 "com/example/hold/hold/check/ComponentSolver" "exits" "[D" (.ref ex) := Fld.other W151 fx127 (Or.inl ne_p0_va)
  have fx159 : Fld Z h151 p0 "com/example/hold/hold/check/ComponentSolver" "surplus" "[D" (.ref su) := Fld.other W151 fx128 (Or.inl ne_p0_va)
  have fx160 : Fld Z h151 p0 "com/example/hold/hold/check/ComponentSolver" "rowsUsingCount" "[I" (.ref rc) := Fld.other W151 fx129 (Or.inl ne_p0_va)
  have fx161 : Fld Z h151 p0 "com/example/hold/hold/check/ComponentSolver" "columnCount" "[I" (.ref cc) := Fld.other W151 fx130 (Or.inl ne_p0_va)
  have fx162 : Ovc Z h151 ca "[I" := Ovc.wr fx131 W151
  have fx163 : Ovc Z h151 va "[D" := Ovc.wr fx133 W151
  have fx164 : Ar Z h151 la .int [(.int (0 : Int32)), (.int (0 : Int32))] := Ar.other fx134 W151 (Ne.symm ne_va_la)
  have fx165 : Ar Z h151 lv .double xl := Ar.other fx135 W151 (Ne.symm ne_va_lv)
  have fx166 : Ar Z h151 ex .double yl := Ar.other fx136 W151 (Ne.symm ne_va_ex)
  have fx167 : Ar Z h151 su .double zl := Ar.other fx137 W151 (Ne.symm ne_va_su)
  have fx168 : Ar Z h151 rc .int [(.int (0 : Int32)), (.int (0 : Int32))] := Ar.other fx138 W151 (Ne.symm ne_va_rc)
  have fx169 : Ar Z h151 cc .int [(.int (0 : Int32)), (.int (0 : Int32))] := Ar.other fx139 W151 (Ne.symm ne_va_cc)
  have fx170 : Ar Z h151 a2 .long [] := Ar.other fx140 W151 (Ne.symm (Nat.ne_of_lt lt5))
  have fx171 : Exa Z h151 a2 "[J" := Exa.wr W151 fx141
  have fx172 : Ar Z h151 a40 .int [] := Ar.other fx142 W151 (Ne.symm (Nat.ne_of_lt lt43))
  have fx173 : Exa Z h151 a40 "[I" := Exa.wr W151 fx143
  have fx174 : Ar Z h151 a78 .double [] := Ar.other fx144 W151 (Ne.symm (Nat.ne_of_lt lt81))
  have fx175 : Exa Z h151 a78 "[D" := Exa.wr W151 fx145
  have fx176 : Ar Z h151 ca (.array .int) (List.set l1s 0 (.ref a40)) := Ar.other fx146 W151 ne_ca_va
  have fx177 : Ar Z h151 va (.array .double) (List.set l2s 0 (.ref a78)) := A151
  have N178 := Fr.snoc X151 N147 ge_va
  have Z179 : n0 ≤ h151.size := by rw [W151.size]; exact Z148
  have K180 : Keep h0 h151 [ca, va, la] := Keep.wr K149 W151 (Or.inl (List.mem_of_getElem? (i := 1) rfl))
  show Goes p.tables e below (T151.setTop (mkF m 176 #[.val (.ref p0), .val (.int (0 : Int32)), .val (.ref a2), .val (.ref a40), .val (.ref a78), .val (.int (0 : Int32)), .val (.ref a2), .val (.int (0 : Int32)), .val (.int (0 : Int32)), .unset, .unset, .unset, .unset, .unset] [])) _
  refine g_aloadN X151 hx (hb hby d6_176) rfl rfl ?_
  refine g_getF X151 hx hZ hown e151 (host := "") (Or.inl (hw _ (List.mem_of_getElem? (i := 20) rfl))) Via.refl fx156 (hb hby d6_177) (fun T181 X181 e181 => ?_)
  show Goes p.tables e below (T181.setTop (mkF m 180 #[.val (.ref p0), .val (.int (0 : Int32)), .val (.ref a2), .val (.ref a40), .val (.ref a78), .val (.int (0 : Int32)), .val (.ref a2), .val (.int (0 : Int32)), .val (.int (0 : Int32)), .unset, .unset, .unset, .unset, .unset] [(.ref la)])) _
  refine g_iloadN X181 hx (hb hby d6_180) rfl ?_
  refine g_iload X181 hx (hb hby d6_181) rfl ?_
  refine g_iastore X181 hx hZ e181 fx164 0 (by decide) (by show 0 < 2; decide) (hb hby d6_183) (fun T182 h182 X182 e182 W182 A182 => ?_)
  have fx183 : Exa Z h182 p0 "com/example/hold/hold/check/ComponentSolver" := Exa.wr W182 fx152
  have fx184 : Fld Z h182 p0 "com/example/hold/hold/check/ComponentSolver" "size" "I" (.int (2 : Int32)) := Fld.other W182 fx153 (Or.inl ne_p0_la)
  have fx185 : Fld Z h182 p0 "com/example/hold/hold/check/ComponentSolver" "columns" "[[I" (.ref ca) := Fld.other W182 fx154 (Or.inl ne_p0_la)
  have fx186 : Fld Z h182 p0 "com/example/hold/hold/check/ComponentSolver" "values" "[[D" (.ref va) := Fld.other W182 fx155 (Or.inl ne_p0_la)
  have fx187 : Fld Z h182 p0 "com/example/hold/hold/check/ComponentSolver" "length" "[I" (.ref la) := Fld.other W182 fx156 (Or.inl ne_p0_la)
  have fx188 : Fld Z h182 p0 "com/example/hold/hold/check/ComponentSolver" "leaving" "[D" (.ref lv) := Fld.other W182 fx157 (Or.inl ne_p0_la)
  have fx189 : Fld Z h182 p0 "com/example/hold/hold/check/ComponentSolver" "exits" "[D" (.ref ex) := Fld.other W182 fx158 (Or.inl ne_p0_la)
  have fx190 : Fld Z h182 p0 "com/example/hold/hold/check/ComponentSolver" "surplus" "[D" (.ref su) := Fld.other W182 fx159 (Or.inl ne_p0_la)
  have fx191 : Fld Z h182 p0 "com/example/hold/hold/check/ComponentSolver" "rowsUsingCount" "[I" (.ref rc) := Fld.other W182 fx160 (Or.inl ne_p0_la)
  have fx192 : Fld Z h182 p0 "com/example/hold/hold/check/ComponentSolver" "columnCount" "[I" (.ref cc) := Fld.other W182 fx161 (Or.inl ne_p0_la)
  have fx193 : Ovc Z h182 ca "[I" := Ovc.wr fx162 W182
  have fx194 : Ovc Z h182 va "[D" := Ovc.wr fx163 W182
  have fx195 : Ar Z h182 lv .double xl := Ar.other fx165 W182 (Ne.symm ne_la_lv)
  have fx196 : Ar Z h182 ex .double yl := Ar.other fx166 W182 (Ne.symm ne_la_ex)
  have fx197 : Ar Z h182 su .double zl := Ar.other fx167 W182 (Ne.symm ne_la_su)
  have fx198 : Ar Z h182 rc .int [(.int (0 : Int32)), (.int (0 : Int32))] := Ar.other fx168 W182 (Ne.symm ne_la_rc)
  have fx199 : Ar Z h182 cc .int [(.int (0 : Int32)), (.int (0 : Int32))] := Ar.other fx169 W182 (Ne.symm ne_la_cc)
  have fx200 : Ar Z h182 a2 .long [] := Ar.other fx170 W182 (Ne.symm (Nat.ne_of_lt lt6))
  have fx201 : Exa Z h182 a2 "[J" := Exa.wr W182 fx171
  have fx202 : Ar Z h182 a40 .int [] := Ar.other fx172 W182 (Ne.symm (Nat.ne_of_lt lt44))
  have fx203 : Exa Z h182 a40 "[I" := Exa.wr W182 fx173
  have fx204 : Ar Z h182 a78 .double [] := Ar.other fx174 W182 (Ne.symm (Nat.ne_of_lt lt82))
  have fx205 : Exa Z h182 a78 "[D" := Exa.wr W182 fx175
  have fx206 : Ar Z h182 ca (.array .int) (List.set l1s 0 (.ref a40)) := Ar.other fx176 W182 ne_ca_la
  have fx207 : Ar Z h182 va (.array .double) (List.set l2s 0 (.ref a78)) := Ar.other fx177 W182 ne_va_la
  have fx208 : Ar Z h182 la .int [(.int (0 : Int32)), (.int (0 : Int32))] := A182
  have N209 := Fr.snoc X182 N178 ge_la
  have Z210 : n0 ≤ h182.size := by rw [W182.size]; exact Z179
  have K211 : Keep h0 h182 [ca, va, la] := Keep.wr K180 W182 (Or.inl (List.mem_of_getElem? (i := 2) rfl))
  show Goes p.tables e below (T182.setTop (mkF m 184 #[.val (.ref p0), .val (.int (0 : Int32)), .val (.ref a2), .val (.ref a40), .val (.ref a78), .val (.int (0 : Int32)), .val (.ref a2), .val (.int (0 : Int32)), .val (.int (0 : Int32)), .unset, .unset, .unset, .unset, .unset] [])) _
  exact g_ret0 X182 hx hret hlk (hb hby d6_184) (by decide) (by decide) (by rw [e182]; exact ⟨rfl, N209, K211, ⟨fx183, fx184, fx185, fx186, fx187, fx188, fx189, fx190, fx191, fx192, ⟨_, (by first | exact hl1s | (rw [List.length_set]; exact hl1s) | rfl), fx206⟩, fx193, ⟨_, (by first | exact hl2s | (rw [List.length_set]; exact hl2s) | rfl), fx207⟩, fx194, fx208, fx195, fx196, fx197, fx198, fx199⟩⟩)
theorem ef_rmSR1 (m : MethodId) (p0 : Addr) : entryFrame m #[(.ref p0), (.int (1 : Int32))] 14 = mkF m 0 #[.val (.ref p0), .val (.int (1 : Int32)), .unset, .unset, .unset, .unset, .unset, .unset, .unset, .unset, .unset, .unset, .unset, .unset] [] := by first | (simp [entryFrame, mkF, argsToLocals, Value.category]; done) | rfl
set_option maxRecDepth 65536 in
set_option maxHeartbeats 40000000 in
theorem rmSR1 (l : Launch) (Z : State) (a0 : Array Value) (hw : ∀ d ∈ tables_1, d.before a0 Z = true) (p0 : Addr) (h0 : Heap) (n0 : Nat) (Z0 : n0 ≤ h0.size) (ca va la lv ex su rc cc : Addr) (xl yl zl : List Value) (hS : Sol Z h0 p0 ca va la lv ex su rc cc xl yl zl) (hC : Chn n0 p0 ca va la lv ex su rc cc) :
    Con l Z (⟨"com/example/hold/hold/check/ComponentSolver", "sortRow", "(I)V"⟩ : MethodName) prog_35_method_13_code 14 none [] ({ frames := 4, cells := 3, slots := 0, locals := 84 } : Room) 3 0 #[(.ref p0), (.int (1 : Int32))] h0 (fun v h L => v = none ∧ Fr n0 L ∧ Keep h0 h [ca, va, la] ∧ Sol Z h p0 ca va la lv ex su rc cc xl yl zl) := by
  refine Con.body (plainFor_of_name (by first | (simp [plainName, overriddenIn]; done) | decide +kernel)) ?_
  intro p e s m below meth c T0 hx hby hml hown hnm hZ hret hlk X0 e0
  refine Goes.cast (ef_rmSR1 m p0) ?_
  have N0 := Fr.nil n0
  have K0 : Keep h0 h0 [ca, va, la] := Keep.refl _ _
  obtain ⟨Es, zs, scas, svas, slas, slvs, sexs, ssus, srcs, sccs, ⟨l1s, hl1s, Acs⟩, Ocs, ⟨l2s, hl2s, Avs⟩, Ovs, Alas, Alvs, Aexs, Asus, Arcs, Accs⟩ := hS
  obtain ⟨g0, g1, g2, g3, g4, g5, g6, g7, g8⟩ := hC
  have ge_p0 : n0 ≤ p0 := by omega
  have ne_p0_ca : p0 ≠ ca := Nat.ne_of_lt (by omega)
  have ne_p0_va : p0 ≠ va := Nat.ne_of_lt (by omega)
  have ne_p0_la : p0 ≠ la := Nat.ne_of_lt (by omega)
  have ne_p0_lv : p0 ≠ lv := Nat.ne_of_lt (by omega)
  have ne_p0_ex : p0 ≠ ex := Nat.ne_of_lt (by omega)
  have ne_p0_su : p0 ≠ su := Nat.ne_of_lt (by omega)
  have ne_p0_rc : p0 ≠ rc := Nat.ne_of_lt (by omega)
  have ne_p0_cc : p0 ≠ cc := Nat.ne_of_lt (by omega)
  have ge_ca : n0 ≤ ca := by omega
  have ne_ca_va : ca ≠ va := Nat.ne_of_lt (by omega)
  have ne_ca_la : ca ≠ la := Nat.ne_of_lt (by omega)
  have ne_ca_lv : ca ≠ lv := Nat.ne_of_lt (by omega)
  have ne_ca_ex : ca ≠ ex := Nat.ne_of_lt (by omega)
  have ne_ca_su : ca ≠ su := Nat.ne_of_lt (by omega)
  have ne_ca_rc : ca ≠ rc := Nat.ne_of_lt (by omega)
  have ne_ca_cc : ca ≠ cc := Nat.ne_of_lt (by omega)
  have ge_va : n0 ≤ va := by omega
  have ne_va_la : va ≠ la := Nat.ne_of_lt (by omega)
  have ne_va_lv : va ≠ lv := Nat.ne_of_lt (by omega)
  have ne_va_ex : va ≠ ex := Nat.ne_of_lt (by omega)
  have ne_va_su : va ≠ su := Nat.ne_of_lt (by omega)
  have ne_va_rc : va ≠ rc := Nat.ne_of_lt (by omega)
  have ne_va_cc : va ≠ cc := Nat.ne_of_lt (by omega)
  have ge_la : n0 ≤ la := by omega
  have ne_la_lv : la ≠ lv := Nat.ne_of_lt (by omega)
  have ne_la_ex : la ≠ ex := Nat.ne_of_lt (by omega)
  have ne_la_su : la ≠ su := Nat.ne_of_lt (by omega)
  have ne_la_rc : la ≠ rc := Nat.ne_of_lt (by omega)
  have ne_la_cc : la ≠ cc := Nat.ne_of_lt (by omega)
  have ge_lv : n0 ≤ lv := by omega
  have ne_lv_ex : lv ≠ ex := Nat.ne_of_lt (by omega)
  have ne_lv_su : lv ≠ su := Nat.ne_of_lt (by omega)
  have ne_lv_rc : lv ≠ rc := Nat.ne_of_lt (by omega)
  have ne_lv_cc : lv ≠ cc := Nat.ne_of_lt (by omega)
  have ge_ex : n0 ≤ ex := by omega
  have ne_ex_su : ex ≠ su := Nat.ne_of_lt (by omega)
  have ne_ex_rc : ex ≠ rc := Nat.ne_of_lt (by omega)
  have ne_ex_cc : ex ≠ cc := Nat.ne_of_lt (by omega)
  have ge_su : n0 ≤ su := by omega
  have ne_su_rc : su ≠ rc := Nat.ne_of_lt (by omega)
  have ne_su_cc : su ≠ cc := Nat.ne_of_lt (by omega)
  have ge_rc : n0 ≤ rc := by omega
  have ne_rc_cc : rc ≠ cc := Nat.ne_of_lt (by omega)
  have ge_cc : n0 ≤ cc := by omega
  show Goes p.tables e below (T0.setTop (mkF m 0 #[.val (.ref p0), .val (.int (1 : Int32)), .unset, .unset, .unset, .unset, .unset, .unset, .unset, .unset, .unset, .unset, .unset, .unset] [])) _
  refine g_aloadN X0 hx (hb hby d6_0) rfl rfl ?_
  refine g_getF X0 hx hZ hown e0 (host := "") (Or.inl (hw _ (List.mem_of_getElem? (i := 20) rfl))) Via.refl slas (hb hby d6_1) (fun T1 X1 e1 => ?_)
  show Goes p.tables e below (T1.setTop (mkF m 4 #[.val (.ref p0), .val (.int (1 : Int32)), .unset, .unset, .unset, .unset, .unset, .unset, .unset, .unset, .unset, .unset, .unset, .unset] [(.ref la)])) _
  refine g_iloadN X1 hx (hb hby d6_4) rfl ?_
  refine g_iaload X1 hx hZ e1 Alas (i := 1) (v := (.int (0 : Int32))) (by decide) rfl (hb hby d6_5) ?_
  show Goes p.tables e below (T1.setTop (mkF m 6 #[.val (.ref p0), .val (.int (1 : Int32)), .unset, .unset, .unset, .unset, .unset, .unset, .unset, .unset, .unset, .unset, .unset, .unset] [(.int (0 : Int32))])) _
  refine g_newarr X1 hx hZ e1 (hw _ (List.mem_of_getElem? (i := 56) rfl)) (hb hby d6_6) (n := 0) (by decide) 0 (by decide) (by decide) (by decide) (by decide) (ad := "[J") (by decide) rfl (fun T2 h2 a2 ga2 X2 e2 Ex2 Aa2 Ea2 => ?_)
  have lt3 : p0 < a2 := by rw [ga2]; exact Es.lt
  have lt4 : ca < a2 := by rw [ga2]; exact Acs.lt
  have lt5 : va < a2 := by rw [ga2]; exact Avs.lt
  have lt6 : la < a2 := by rw [ga2]; exact Alas.lt
  have lt7 : lv < a2 := by rw [ga2]; exact Alvs.lt
  have lt8 : ex < a2 := by rw [ga2]; exact Aexs.lt
  have lt9 : su < a2 := by rw [ga2]; exact Asus.lt
  have lt10 : rc < a2 := by rw [ga2]; exact Arcs.lt
  have lt11 : cc < a2 := by rw [ga2]; exact Accs.lt
  have ge12 : n0 ≤ a2 := by rw [ga2]; exact Z0
  have ge13 : h0.size ≤ a2 := by rw [ga2]; exact K0.1
  have fx14 : Exa Z h2 p0 "com/example/hold/hold/check/ComponentSolver" := Exa.ext Ex2 Es
  have fx15 : Fld Z h2 p0 "com/example/hold/hold/check/ComponentSolver" "size" "I" (.int (2 : Int32)) := Fld.ext Ex2 zs
  have fx16 : Fld Z h2 p0 "com/example/hold/hold/check/ComponentSolver" "columns" "[[I" (.ref ca) := Fld.ext Ex2 scas
  have fx17 : Fld Z h2 p0 "com/example/hold/hold/check/ComponentSolver" "values" "[[D" (.ref va) := Fld.ext Ex2 svas
  have fx18 : Fld Z h2 p0 "com/example/hold/hold/check/ComponentSolver" "length" "[I" (.ref la) := Fld.ext Ex2 slas
  have fx19 : Fld Z h2 p0 "com/example/hold/hold/check/ComponentSolver" "leaving" "[D" (.ref lv) := Fld.ext Ex2 slvs
  have fx20 : Fld Z h2 p0 "com/example/hold/hold/check/ComponentSolver" "exits" "[D" (.ref ex) := Fld.ext Ex2 sexs
  have fx21 : Fld Z h2 p0 "com/example/hold/hold/check/ComponentSolver" "surplus" "[D" (.ref su) := Fld.ext Ex2 ssus
  have fx22 : Fld Z h2 p0 "com/example/hold/hold/check/ComponentSolver" "rowsUsingCount" "[I" (.ref rc) := Fld.ext Ex2 srcs
  have fx23 : Fld Z h2 p0 "com/example/hold/hold/check/ComponentSolver" "columnCount" "[I" (.ref cc) := Fld.ext Ex2 sccs
  have fx24 : Ar Z h2 ca (.array .int) l1s := Ar.ext Acs Ex2
  have fx25 : Ovc Z h2 ca "[I" := Ovc.ext Ocs Ex2
  have fx26 : Ar Z h2 va (.array .double) l2s := Ar.ext Avs Ex2
  have fx27 : Ovc Z h2 va "[D" := Ovc.ext Ovs Ex2
  have fx28 : Ar Z h2 la .int [(.int (0 : Int32)), (.int (0 : Int32))] := Ar.ext Alas Ex2
  have fx29 : Ar Z h2 lv .double xl := Ar.ext Alvs Ex2
  have fx30 : Ar Z h2 ex .double yl := Ar.ext Aexs Ex2
  have fx31 : Ar Z h2 su .double zl := Ar.ext Asus Ex2
  have fx32 : Ar Z h2 rc .int [(.int (0 : Int32)), (.int (0 : Int32))] := Ar.ext Arcs Ex2
  have fx33 : Ar Z h2 cc .int [(.int (0 : Int32)), (.int (0 : Int32))] := Ar.ext Accs Ex2
  have Z34 : n0 ≤ h2.size := Nat.le_trans Z0 Ex2.1
  have K35 : Keep h0 h2 [ca, va, la] := Keep.ext K0 Ex2
  have fx36 : Ar Z h2 a2 .long [] := Aa2
  show Goes p.tables e below (T2.setTop (mkF m 8 #[.val (.ref p0), .val (.int (1 : Int32)), .unset, .unset, .unset, .unset, .unset, .unset, .unset, .unset, .unset, .unset, .unset, .unset] [(.ref a2)])) _
  refine g_astoreN X2 hx (hb hby d6_8) rfl (l' := #[.val (.ref p0), .val (.int (1 : Int32)), .val (.ref a2), .unset, .unset, .unset, .unset, .unset, .unset, .unset, .unset, .unset, .unset, .unset]) rfl ?_
  refine g_iconst X2 hx (0 : Int32) (hb hby d6_9) rfl ?_
  refine g_istoreN X2 hx (hb hby d6_10) (l' := #[.val (.ref p0), .val (.int (1 : Int32)), .val (.ref a2), .val (.int (0 : Int32)), .unset, .unset, .unset, .unset, .unset, .unset, .unset, .unset, .unset, .unset]) rfl ?_
  refine g_iloadN X2 hx (hb hby d6_11) rfl ?_
  refine g_aloadN X2 hx (hb hby d6_12) rfl rfl ?_
  refine g_getF X2 hx hZ hown e2 (host := "") (Or.inl (hw _ (List.mem_of_getElem? (i := 20) rfl))) Via.refl fx18 (hb hby d6_13) (fun T37 X37 e37 => ?_)
  show Goes p.tables e below (T37.setTop (mkF m 16 #[.val (.ref p0), .val (.int (1 : Int32)), .val (.ref a2), .val (.int (0 : Int32)), .unset, .unset, .unset, .unset, .unset, .unset, .unset, .unset, .unset, .unset] [(.ref la), (.int (0 : Int32))])) _
  refine g_iloadN X37 hx (hb hby d6_16) rfl ?_
  refine g_iaload X37 hx hZ e37 fx28 (i := 1) (v := (.int (0 : Int32))) (by decide) rfl (hb hby d6_17) ?_
  show Goes p.tables e below (T37.setTop (mkF m 18 #[.val (.ref p0), .val (.int (1 : Int32)), .val (.ref a2), .val (.int (0 : Int32)), .unset, .unset, .unset, .unset, .unset, .unset, .unset, .unset, .unset, .unset] [(.int (0 : Int32)), (.int (0 : Int32))])) _
  refine g_icmp_ge X37 hx (hb hby d6_18) (by decide) (pc' := 45) (by decide) (fun _ => ?_) (fun q => absurd q (by decide))
  show Goes p.tables e below (T37.setTop (mkF m 45 #[.val (.ref p0), .val (.int (1 : Int32)), .val (.ref a2), .val (.int (0 : Int32)), .unset, .unset, .unset, .unset, .unset, .unset, .unset, .unset, .unset, .unset] [])) _
  refine g_aloadN X37 hx (hb hby d6_45) rfl rfl ?_
  refine g_callS X37 hx hZ hown (by rw [hml]; rfl) e37 (hw _ (List.mem_of_getElem? (i := 57) rfl)) (hw _ (List.mem_of_getElem? (i := 58) rfl)) (hw _ (List.mem_of_getElem? (i := 59) rfl)) (hw _ (List.mem_of_getElem? (i := 60) rfl)) (rmSort l Z a0 hw a2 h2 n0 Z34 fx36) [(.ref a2)] rfl [] rfl (lenOf pd_7 rfl) (hb hby d6_46) (by decide) 0 (by decide) (by decide) (by first | decide | exact Nat.le_refl _) (by decide) (by decide) (fun v T38 L38 X38 hQ38 => ?_)
  obtain ⟨rfl, e38, rfl⟩ := hQ38
  have N39 := Fr.app N0 (Fr.nil n0)
  show Goes p.tables e below (T38.setTop (mkF m 49 #[.val (.ref p0), .val (.int (1 : Int32)), .val (.ref a2), .val (.int (0 : Int32)), .unset, .unset, .unset, .unset, .unset, .unset, .unset, .unset, .unset, .unset] [])) _
  refine g_aloadN X38 hx (hb hby d6_49) rfl rfl ?_
  refine g_alen X38 hx hZ e38 fx36 (0 : Int32) (by show (0 : Int32).toInt = ((0 : Nat) : Int); decide) (hb hby d6_50) ?_
  show Goes p.tables e below (T38.setTop (mkF m 51 #[.val (.ref p0), .val (.int (1 : Int32)), .val (.ref a2), .val (.int (0 : Int32)), .unset, .unset, .unset, .unset, .unset, .unset, .unset, .unset, .unset, .unset] [(.int (0 : Int32))])) _
  refine g_newarr X38 hx hZ e38 (hw _ (List.mem_of_getElem? (i := 19) rfl)) (hb hby d6_51) (n := 0) (by decide) 0 (by decide) (by decide) (by decide) (by decide) (ad := "[I") (by decide) rfl (fun T40 h40 a40 ga40 X40 e40 Ex40 Aa40 Ea40 => ?_)
  have lt41 : p0 < a40 := by rw [ga40]; exact fx14.lt
  have lt42 : ca < a40 := by rw [ga40]; exact fx24.lt
  have lt43 : va < a40 := by rw [ga40]; exact fx26.lt
  have lt44 : la < a40 := by rw [ga40]; exact fx28.lt
  have lt45 : lv < a40 := by rw [ga40]; exact fx29.lt
  have lt46 : ex < a40 := by rw [ga40]; exact fx30.lt
  have lt47 : su < a40 := by rw [ga40]; exact fx31.lt
  have lt48 : rc < a40 := by rw [ga40]; exact fx32.lt
  have lt49 : cc < a40 := by rw [ga40]; exact fx33.lt
  have lt50 : a2 < a40 := by rw [ga40]; exact fx36.lt
  have ge51 : n0 ≤ a40 := by rw [ga40]; exact Z34
  have ge52 : h0.size ≤ a40 := by rw [ga40]; exact K35.1
  have fx53 : Exa Z h40 p0 "com/example/hold/hold/check/ComponentSolver" := Exa.ext Ex40 fx14
  have fx54 : Fld Z h40 p0 "com/example/hold/hold/check/ComponentSolver" "size" "I" (.int (2 : Int32)) := Fld.ext Ex40 fx15
  have fx55 : Fld Z h40 p0 "com/example/hold/hold/check/ComponentSolver" "columns" "[[I" (.ref ca) := Fld.ext Ex40 fx16
  have fx56 : Fld Z h40 p0 "com/example/hold/hold/check/ComponentSolver" "values" "[[D" (.ref va) := Fld.ext Ex40 fx17
  have fx57 : Fld Z h40 p0 "com/example/hold/hold/check/ComponentSolver" "length" "[I" (.ref la) := Fld.ext Ex40 fx18
  have fx58 : Fld Z h40 p0 "com/example/hold/hold/check/ComponentSolver" "leaving" "[D" (.ref lv) := Fld.ext Ex40 fx19
  have fx59 : Fld Z h40 p0 "com/example/hold/hold/check/ComponentSolver" "exits" "[D" (.ref ex) := Fld.ext Ex40 fx20
  have fx60 : Fld Z h40 p0 "com/example/hold/hold/check/ComponentSolver" "surplus" "[D" (.ref su) := Fld.ext Ex40 fx21
  have fx61 : Fld Z h40 p0 "com/example/hold/hold/check/ComponentSolver" "rowsUsingCount" "[I" (.ref rc) := Fld.ext Ex40 fx22
  have fx62 : Fld Z h40 p0 "com/example/hold/hold/check/ComponentSolver" "columnCount" "[I" (.ref cc) := Fld.ext Ex40 fx23
  have fx63 : Ar Z h40 ca (.array .int) l1s := Ar.ext fx24 Ex40
  have fx64 : Ovc Z h40 ca "[I" := Ovc.ext fx25 Ex40
  have fx65 : Ar Z h40 va (.array .double) l2s := Ar.ext fx26 Ex40
  have fx66 : Ovc Z h40 va "[D" := Ovc.ext fx27 Ex40
  have fx67 : Ar Z h40 la .int [(.int (0 : Int32)), (.int (0 : Int32))] := Ar.ext fx28 Ex40
  have fx68 : Ar Z h40 lv .double xl := Ar.ext fx29 Ex40
  have fx69 : Ar Z h40 ex .double yl := Ar.ext fx30 Ex40
  have fx70 : Ar Z h40 su .double zl := Ar.ext fx31 Ex40
  have fx71 : Ar Z h40 rc .int [(.int (0 : Int32)), (.int (0 : Int32))] := Ar.ext fx32 Ex40
  have fx72 : Ar Z h40 cc .int [(.int (0 : Int32)), (.int (0 : Int32))] := Ar.ext fx33 Ex40
  have fx73 : Ar Z h40 a2 .long [] := Ar.ext fx36 Ex40
  have fx74 : Exa Z h40 a2 "[J" := Exa.ext Ex40 Ea2
  have Z75 : n0 ≤ h40.size := Nat.le_trans Z34 Ex40.1
  have K76 : Keep h0 h40 [ca, va, la] := Keep.ext K35 Ex40
  have fx77 : Ar Z h40 a40 .int [] := Aa40
  show Goes p.tables e below (T40.setTop (mkF m 53 #[.val (.ref p0), .val (.int (1 : Int32)), .val (.ref a2), .val (.int (0 : Int32)), .unset, .unset, .unset, .unset, .unset, .unset, .unset, .unset, .unset, .unset] [(.ref a40)])) _
  refine g_astoreN X40 hx (hb hby d6_53) rfl (l' := #[.val (.ref p0), .val (.int (1 : Int32)), .val (.ref a2), .val (.ref a40), .unset, .unset, .unset, .unset, .unset, .unset, .unset, .unset, .unset, .unset]) rfl ?_
  refine g_aloadN X40 hx (hb hby d6_54) rfl rfl ?_
  refine g_alen X40 hx hZ e40 fx73 (0 : Int32) (by show (0 : Int32).toInt = ((0 : Nat) : Int); decide) (hb hby d6_55) ?_
  show Goes p.tables e below (T40.setTop (mkF m 56 #[.val (.ref p0), .val (.int (1 : Int32)), .val (.ref a2), .val (.ref a40), .unset, .unset, .unset, .unset, .unset, .unset, .unset, .unset, .unset, .unset] [(.int (0 : Int32))])) _
  refine g_newarr X40 hx hZ e40 (hw _ (List.mem_of_getElem? (i := 22) rfl)) (hb hby d6_56) (n := 0) (by decide) 0 (by decide) (by decide) (by decide) (by decide) (ad := "[D") (by decide) rfl (fun T78 h78 a78 ga78 X78 e78 Ex78 Aa78 Ea78 => ?_)
  have lt79 : p0 < a78 := by rw [ga78]; exact fx53.lt
  have lt80 : ca < a78 := by rw [ga78]; exact fx63.lt
  have lt81 : va < a78 := by rw [ga78]; exact fx65.lt
  have lt82 : la < a78 := by rw [ga78]; exact fx67.lt
  have lt83 : lv < a78 := by rw [ga78]; exact fx68.lt
  have lt84 : ex < a78 := by rw [ga78]; exact fx69.lt
  have lt85 : su < a78 := by rw [ga78]; exact fx70.lt
  have lt86 : rc < a78 := by rw [ga78]; exact fx71.lt
  have lt87 : cc < a78 := by rw [ga78]; exact fx72.lt
  have lt88 : a2 < a78 := by rw [ga78]; exact fx73.lt
  have lt89 : a40 < a78 := by rw [ga78]; exact fx77.lt
  have ge90 : n0 ≤ a78 := by rw [ga78]; exact Z75
  have ge91 : h0.size ≤ a78 := by rw [ga78]; exact K76.1
  have fx92 : Exa Z h78 p0 "com/example/hold/hold/check/ComponentSolver" := Exa.ext Ex78 fx53
  have fx93 : Fld Z h78 p0 "com/example/hold/hold/check/ComponentSolver" "size" "I" (.int (2 : Int32)) := Fld.ext Ex78 fx54
  have fx94 : Fld Z h78 p0 "com/example/hold/hold/check/ComponentSolver" "columns" "[[I" (.ref ca) := Fld.ext Ex78 fx55
  have fx95 : Fld Z h78 p0 "com/example/hold/hold/check/ComponentSolver" "values" "[[D" (.ref va) := Fld.ext Ex78 fx56
  have fx96 : Fld Z h78 p0 "com/example/hold/hold/check/ComponentSolver" "length" "[I" (.ref la) := Fld.ext Ex78 fx57
  have fx97 : Fld Z h78 p0 "com/example/hold/hold/check/ComponentSolver" "leaving" "[D" (.ref lv) := Fld.ext Ex78 fx58
  have fx98 : Fld Z h78 p0 "com/example/hold/hold/check/ComponentSolver" "exits" "[D" (.ref ex) := Fld.ext Ex78 fx59
  have fx99 : Fld Z h78 p0 "com/example/hold/hold/check/ComponentSolver" "surplus" "[D" (.ref su) := Fld.ext Ex78 fx60
  have fx100 : Fld Z h78 p0 "com/example/hold/hold/check/ComponentSolver" "rowsUsingCount" "[I" (.ref rc) := Fld.ext Ex78 fx61
  have fx101 : Fld Z h78 p0 "com/example/hold/hold/check/ComponentSolver" "columnCount" "[I" (.ref cc) := Fld.ext Ex78 fx62
  have fx102 : Ar Z h78 ca (.array .int) l1s := Ar.ext fx63 Ex78
  have fx103 : Ovc Z h78 ca "[I" := Ovc.ext fx64 Ex78
  have fx104 : Ar Z h78 va (.array .double) l2s := Ar.ext fx65 Ex78
  have fx105 : Ovc Z h78 va "[D" := Ovc.ext fx66 Ex78
  have fx106 : Ar Z h78 la .int [(.int (0 : Int32)), (.int (0 : Int32))] := Ar.ext fx67 Ex78
  have fx107 : Ar Z h78 lv .double xl := Ar.ext fx68 Ex78
  have fx108 : Ar Z h78 ex .double yl := Ar.ext fx69 Ex78
  have fx109 : Ar Z h78 su .double zl := Ar.ext fx70 Ex78
  have fx110 : Ar Z h78 rc .int [(.int (0 : Int32)), (.int (0 : Int32))] := Ar.ext fx71 Ex78
  have fx111 : Ar Z h78 cc .int [(.int (0 : Int32)), (.int (0 : Int32))] := Ar.ext fx72 Ex78
  have fx112 : Ar Z h78 a2 .long [] := Ar.ext fx73 Ex78
  have fx113 : Exa Z h78 a2 "[J" := Exa.ext Ex78 fx74
  have fx114 : Ar Z h78 a40 .int [] := Ar.ext fx77 Ex78
  have fx115 : Exa Z h78 a40 "[I" := Exa.ext Ex78 Ea40
  have Z116 : n0 ≤ h78.size := Nat.le_trans Z75 Ex78.1
  have K117 : Keep h0 h78 [ca, va, la] := Keep.ext K76 Ex78
  have fx118 : Ar Z h78 a78 .double [] := Aa78
  show Goes p.tables e below (T78.setTop (mkF m 58 #[.val (.ref p0), .val (.int (1 : Int32)), .val (.ref a2), .val (.ref a40), .unset, .unset, .unset, .unset, .unset, .unset, .unset, .unset, .unset, .unset] [(.ref a78)])) _
  refine g_astore X78 hx (hb hby d6_58) rfl (l' := #[.val (.ref p0), .val (.int (1 : Int32)), .val (.ref a2), .val (.ref a40), .val (.ref a78), .unset, .unset, .unset, .unset, .unset, .unset, .unset, .unset, .unset]) rfl ?_
  refine g_iconst X78 hx (0 : Int32) (hb hby d6_60) rfl ?_
  refine g_istore X78 hx (hb hby d6_61) (l' := #[.val (.ref p0), .val (.int (1 : Int32)), .val (.ref a2), .val (.ref a40), .val (.ref a78), .val (.int (0 : Int32)), .unset, .unset, .unset, .unset, .unset, .unset, .unset, .unset]) rfl ?_
  refine g_aloadN X78 hx (hb hby d6_63) rfl rfl ?_
  refine g_astore X78 hx (hb hby d6_64) rfl (l' := #[.val (.ref p0), .val (.int (1 : Int32)), .val (.ref a2), .val (.ref a40), .val (.ref a78), .val (.int (0 : Int32)), .val (.ref a2), .unset, .unset, .unset, .unset, .unset, .unset, .unset]) rfl ?_
  refine g_aload X78 hx (hb hby d6_66) rfl rfl ?_
  show Goes p.tables e below (T78.setTop (mkF m 68 #[.val (.ref p0), .val (.int (1 : Int32)), .val (.ref a2), .val (.ref a40), .val (.ref a78), .val (.int (0 : Int32)), .val (.ref a2), .unset, .unset, .unset, .unset, .unset, .unset, .unset] [(.ref a2)])) _
  refine g_alen X78 hx hZ e78 fx112 (0 : Int32) (by show (0 : Int32).toInt = ((0 : Nat) : Int); decide) (hb hby d6_68) ?_
  show Goes p.tables e below (T78.setTop (mkF m 69 #[.val (.ref p0), .val (.int (1 : Int32)), .val (.ref a2), .val (.ref a40), .val (.ref a78), .val (.int (0 : Int32)), .val (.ref a2), .unset, .unset, .unset, .unset, .unset, .unset, .unset] [(.int (0 : Int32))])) _
  refine g_istore X78 hx (hb hby d6_69) (l' := #[.val (.ref p0), .val (.int (1 : Int32)), .val (.ref a2), .val (.ref a40), .val (.ref a78), .val (.int (0 : Int32)), .val (.ref a2), .val (.int (0 : Int32)), .unset, .unset, .unset, .unset, .unset, .unset]) rfl ?_
  refine g_iconst X78 hx (0 : Int32) (hb hby d6_71) rfl ?_
  refine g_istore X78 hx (hb hby d6_72) (l' := #[.val (.ref p0), .val (.int (1 : Int32)), .val (.ref a2), .val (.ref a40), .val (.ref a78), .val (.int (0 : Int32)), .val (.ref a2), .val (.int (0 : Int32)), .val (.int (0 : Int32)), .unset, .unset, .unset, .unset, .unset]) rfl ?_
  refine g_iload X78 hx (hb hby d6_74) rfl ?_
  refine g_iload X78 hx (hb hby d6_76) rfl ?_
  refine g_icmp_ge X78 hx (hb hby d6_78) (by decide) (pc' := 161) (by decide) (fun _ => ?_) (fun q => absurd q (by decide))
  show Goes p.tables e below (T78.setTop (mkF m 161 #[.val (.ref p0), .val (.int (1 : Int32)), .val (.ref a2), .val (.ref a40), .val (.ref a78), .val (.int (0 : Int32)), .val (.ref a2), .val (.int (0 : Int32)), .val (.int (0 : Int32)), .unset, .unset, .unset, .unset, .unset] [])) _
  refine g_aloadN X78 hx (hb hby d6_161) rfl rfl ?_
  refine g_getF X78 hx hZ hown e78 (host := "") (Or.inl (hw _ (List.mem_of_getElem? (i := 13) rfl))) Via.refl fx94 (hb hby d6_162) (fun T119 X119 e119 => ?_)
  show Goes p.tables e below (T119.setTop (mkF m 165 #[.val (.ref p0), .val (.int (1 : Int32)), .val (.ref a2), .val (.ref a40), .val (.ref a78), .val (.int (0 : Int32)), .val (.ref a2), .val (.int (0 : Int32)), .val (.int (0 : Int32)), .unset, .unset, .unset, .unset, .unset] [(.ref ca)])) _
  refine g_iloadN X119 hx (hb hby d6_165) rfl ?_
  refine g_aloadN X119 hx (hb hby d6_166) rfl rfl ?_
  refine g_aastore X119 hx hZ e119 fx102 rfl (v := (.ref a40)) rfl (Ovc.sto fx103 fx102 (Ins.self fx115)) 1 (by decide) (by rw [hl1s]; decide) (hb hby d6_167) (fun T120 h120 X120 e120 W120 A120 => ?_)
  have fx121 : Exa Z h120 p0 "com/example/hold/hold/check/ComponentSolver" := Exa.wr W120 fx92
  have fx122 : Fld Z h120 p0 "com/example/hold/hold/check/ComponentSolver" "size" "I" (.int (2 : Int32)) := Fld.other W120 fx93 (Or.inl ne_p0_ca)
  have fx123 : Fld Z h120 p0 "com/example/hold/hold/check/ComponentSolver" "columns" "[[I" (.ref ca) := Fld.other W120 fx94 (Or.inl ne_p0_ca)
  have fx124 : Fld Z h120 p0 "com/example/hold/hold/check/ComponentSolver" "values" "[[D" (.ref va) := Fld.other W120 fx95 (Or.inl ne_p0_ca)
  have fx125 : Fld Z h120 p0 "com/example/hold/hold/check/ComponentSolver" "length" "[I" (.ref la) := Fld.other W120 fx96 (Or.inl ne_p0_ca)
  have fx126 : Fld Z h120 p0 "com/example/hold/hold/check/ComponentSolver" "leaving" "[D" (.ref lv) := Fld.other W120 fx97 (Or.inl ne_p0_ca)
  have fx127 : Fld Z h120 p0 "com/example/hold/hold/check/ComponentSolver" "exits" "[D" (.ref ex) := Fld.other W120 fx98 (Or.inl ne_p0_ca)
  have fx128 : Fld Z h120 p0 "com/example/hold/hold/check/ComponentSolver" "surplus" "[D" (.ref su) := Fld.other W120 fx99 (Or.inl ne_p0_ca)
  have fx129 : Fld Z h120 p0 "com/example/hold/hold/check/ComponentSolver" "rowsUsingCount" "[I" (.ref rc) := Fld.other W120 fx100 (Or.inl ne_p0_ca)
  have fx130 : Fld Z h120 p0 "com/example/hold/hold/check/ComponentSolver" "columnCount" "[I" (.ref cc) := Fld.other W120 fx101 (Or.inl ne_p0_ca)
  have fx131 : Ovc Z h120 ca "[I" := Ovc.wr fx103 W120
  have fx132 : Ar Z h120 va (.array .double) l2s := Ar.other fx104 W120 (Ne.symm ne_ca_va)
  have fx133 : Ovc Z h120 va "[D" := Ovc.wr fx105 W120
  have fx134 : Ar Z h120 la .int [(.int (0 : Int32)), (.int (0 : Int32))] := Ar.other fx106 W120 (Ne.symm ne_ca_la)
  have fx135 : Ar Z h120 lv .double xl := Ar.other fx107 W120 (Ne.symm ne_ca_lv)
  have fx136 : Ar Z h120 ex .double yl := Ar.other fx108 W120 (Ne.symm ne_ca_ex)
  have fx137 : Ar Z h120 su .double zl := Ar.other fx109 W120 (Ne.symm ne_ca_su)
  have fx138 : Ar Z h120 rc .int [(.int (0 : Int32)), (.int (0 : Int32))] := Ar.other fx110 W120 (Ne.symm ne_ca_rc)
  have fx139 : Ar Z h120 cc .int [(.int (0 : Int32)), (.int (0 : Int32))] := Ar.other fx111 W120 (Ne.symm ne_ca_cc)
  have fx140 : Ar Z h120 a2 .long [] := Ar.other fx112 W120 (Ne.symm (Nat.ne_of_lt lt4))
  have fx141 : Exa Z h120 a2 "[J" := Exa.wr W120 fx113
  have fx142 : Ar Z h120 a40 .int [] := Ar.other fx114 W120 (Ne.symm (Nat.ne_of_lt lt42))
  have fx143 : Exa Z h120 a40 "[I" := Exa.wr W120 fx115
  have fx144 : Ar Z h120 a78 .double [] := Ar.other fx118 W120 (Ne.symm (Nat.ne_of_lt lt80))
  have fx145 : Exa Z h120 a78 "[D" := Exa.wr W120 Ea78
  have fx146 : Ar Z h120 ca (.array .int) (List.set l1s 1 (.ref a40)) := A120
  have N147 := Fr.snoc X120 N39 ge_ca
  have Z148 : n0 ≤ h120.size := by rw [W120.size]; exact Z116
  have K149 : Keep h0 h120 [ca, va, la] := Keep.wr K117 W120 (Or.inl (List.mem_of_getElem? (i := 0) rfl))
  show Goes p.tables e below (T120.setTop (mkF m 168 #[.val (.ref p0), .val (.int (1 : Int32)), .val (.ref a2), .val (.ref a40), .val (.ref a78), .val (.int (0 : Int32)), .val (.ref a2), .val (.int (0 : Int32)), .val (.int (0 : Int32)), .unset, .unset, .unset, .unset, .unset] [])) _
  refine g_aloadN X120 hx (hb hby d6_168) rfl rfl ?_
  refine g_getF X120 hx hZ hown e120 (host := "") (Or.inl (hw _ (List.mem_of_getElem? (i := 17) rfl))) Via.refl fx124 (hb hby d6_169) (fun T150 X150 e150 => ?_)
  show Goes p.tables e below (T150.setTop (mkF m 172 #[.val (.ref p0), .val (.int (1 : Int32)), .val (.ref a2), .val (.ref a40), .val (.ref a78), .val (.int (0 : Int32)), .val (.ref a2), .val (.int (0 : Int32)), .val (.int (0 : Int32)), .unset, .unset, .unset, .unset, .unset] [(.ref va)])) _
  refine g_iloadN X150 hx (hb hby d6_172) rfl ?_
  refine g_aload X150 hx (hb hby d6_173) rfl rfl ?_
  refine g_aastore X150 hx hZ e150 fx132 rfl (v := (.ref a78)) rfl (Ovc.sto fx133 fx132 (Ins.self fx145)) 1 (by decide) (by rw [hl2s]; decide) (hb hby d6_175) (fun T151 h151 X151 e151 W151 A151 => ?_)
  have fx152 : Exa Z h151 p0 "com/example/hold/hold/check/ComponentSolver" := Exa.wr W151 fx121
  have fx153 : Fld Z h151 p0 "com/example/hold/hold/check/ComponentSolver" "size" "I" (.int (2 : Int32)) := Fld.other W151 fx122 (Or.inl ne_p0_va)
  have fx154 : Fld Z h151 p0 "com/example/hold/hold/check/ComponentSolver" "columns" "[[I" (.ref ca) := Fld.other W151 fx123 (Or.inl ne_p0_va)
  have fx155 : Fld Z h151 p0 "com/example/hold/hold/check/ComponentSolver" "values" "[[D" (.ref va) := Fld.other W151 fx124 (Or.inl ne_p0_va)
  have fx156 : Fld Z h151 p0 "com/example/hold/hold/check/ComponentSolver" "length" "[I" (.ref la) := Fld.other W151 fx125 (Or.inl ne_p0_va)
  have fx157 : Fld Z h151 p0 "com/example/hold/hold/check/ComponentSolver" "leaving" "[D" (.ref lv) := Fld.other W151 fx126 (Or.inl ne_p0_va)
  have fx158 : Fld Z h151 p0 "com/example/hold/hold/check/ComponentSolver" "exits" "[D" (.ref ex) := Fld.other W151 fx127 (Or.inl ne_p0_va)
  have fx159 : Fld Z h151 p0 "com/example/hold/hold/check/ComponentSolver" "surplus" "[D" (.ref su) := Fld.other W151 fx128 (Or.inl ne_p0_va)
  have fx160 : Fld Z h151 p0 "com/example/hold/hold/check/ComponentSolver" "rowsUsingCount" "[I" (.ref rc) := Fld.other W151 fx129 (Or.inl ne_p0_va)
  have fx161 : Fld Z h151 p0 "com/example/hold/hold/check/ComponentSolver" "columnCount" "[I" (.ref cc) := Fld.other W151 fx130 (Or.inl ne_p0_va)
  have fx162 : Ovc Z h151 ca "[I" := Ovc.wr fx131 W151
  have fx163 : Ovc Z h151 va "[D" := Ovc.wr fx133 W151
  have fx164 : Ar Z h151 la .int [(.int (0 : Int32)), (.int (0 : Int32))] := Ar.other fx134 W151 (Ne.symm ne_va_la)
  have fx165 : Ar Z h151 lv .double xl := Ar.other fx135 W151 (Ne.symm ne_va_lv)
  have fx166 : Ar Z h151 ex .double yl := Ar.other fx136 W151 (Ne.symm ne_va_ex)
  have fx167 : Ar Z h151 su .double zl := Ar.other fx137 W151 (Ne.symm ne_va_su)
  have fx168 : Ar Z h151 rc .int [(.int (0 : Int32)), (.int (0 : Int32))] := Ar.other fx138 W151 (Ne.symm ne_va_rc)
  have fx169 : Ar Z h151 cc .int [(.int (0 : Int32)), (.int (0 : Int32))] := Ar.other fx139 W151 (Ne.symm ne_va_cc)
  have fx170 : Ar Z h151 a2 .long [] := Ar.other fx140 W151 (Ne.symm (Nat.ne_of_lt lt5))
  have fx171 : Exa Z h151 a2 "[J" := Exa.wr W151 fx141
  have fx172 : Ar Z h151 a40 .int [] := Ar.other fx142 W151 (Ne.symm (Nat.ne_of_lt lt43))
  have fx173 : Exa Z h151 a40 "[I" := Exa.wr W151 fx143
  have fx174 : Ar Z h151 a78 .double [] := Ar.other fx144 W151 (Ne.symm (Nat.ne_of_lt lt81))
  have fx175 : Exa Z h151 a78 "[D" := Exa.wr W151 fx145
  have fx176 : Ar Z h151 ca (.array .int) (List.set l1s 1 (.ref a40)) := Ar.other fx146 W151 ne_ca_va
  have fx177 : Ar Z h151 va (.array .double) (List.set l2s 1 (.ref a78)) := A151
  have N178 := Fr.snoc X151 N147 ge_va
  have Z179 : n0 ≤ h151.size := by rw [W151.size]; exact Z148
  have K180 : Keep h0 h151 [ca, va, la] := Keep.wr K149 W151 (Or.inl (List.mem_of_getElem? (i := 1) rfl))
  show Goes p.tables e below (T151.setTop (mkF m 176 #[.val (.ref p0), .val (.int (1 : Int32)), .val (.ref a2), .val (.ref a40), .val (.ref a78), .val (.int (0 : Int32)), .val (.ref a2), .val (.int (0 : Int32)), .val (.int (0 : Int32)), .unset, .unset, .unset, .unset, .unset] [])) _
  refine g_aloadN X151 hx (hb hby d6_176) rfl rfl ?_
  refine g_getF X151 hx hZ hown e151 (host := "") (Or.inl (hw _ (List.mem_of_getElem? (i := 20) rfl))) Via.refl fx156 (hb hby d6_177) (fun T181 X181 e181 => ?_)
  show Goes p.tables e below (T181.setTop (mkF m 180 #[.val (.ref p0), .val (.int (1 : Int32)), .val (.ref a2), .val (.ref a40), .val (.ref a78), .val (.int (0 : Int32)), .val (.ref a2), .val (.int (0 : Int32)), .val (.int (0 : Int32)), .unset, .unset, .unset, .unset, .unset] [(.ref la)])) _
  refine g_iloadN X181 hx (hb hby d6_180) rfl ?_
  refine g_iload X181 hx (hb hby d6_181) rfl ?_
  refine g_iastore X181 hx hZ e181 fx164 1 (by decide) (by show 1 < 2; decide) (hb hby d6_183) (fun T182 h182 X182 e182 W182 A182 => ?_)
  have fx183 : Exa Z h182 p0 "com/example/hold/hold/check/ComponentSolver" := Exa.wr W182 fx152
  have fx184 : Fld Z h182 p0 "com/example/hold/hold/check/ComponentSolver" "size" "I" (.int (2 : Int32)) := Fld.other W182 fx153 (Or.inl ne_p0_la)
  have fx185 : Fld Z h182 p0 "com/example/hold/hold/check/ComponentSolver" "columns" "[[I" (.ref ca) := Fld.other W182 fx154 (Or.inl ne_p0_la)
  have fx186 : Fld Z h182 p0 "com/example/hold/hold/check/ComponentSolver" "values" "[[D" (.ref va) := Fld.other W182 fx155 (Or.inl ne_p0_la)
  have fx187 : Fld Z h182 p0 "com/example/hold/hold/check/ComponentSolver" "length" "[I" (.ref la) := Fld.other W182 fx156 (Or.inl ne_p0_la)
  have fx188 : Fld Z h182 p0 "com/example/hold/hold/check/ComponentSolver" "leaving" "[D" (.ref lv) := Fld.other W182 fx157 (Or.inl ne_p0_la)
  have fx189 : Fld Z h182 p0 "com/example/hold/hold/check/ComponentSolver" "exits" "[D" (.ref ex) := Fld.other W182 fx158 (Or.inl ne_p0_la)
  have fx190 : Fld Z h182 p0 "com/example/hold/hold/check/ComponentSolver" "surplus" "[D" (.ref su) := Fld.other W182 fx159 (Or.inl ne_p0_la)
  have fx191 : Fld Z h182 p0 "com/example/hold/hold/check/ComponentSolver" "rowsUsingCount" "[I" (.ref rc) := Fld.other W182 fx160 (Or.inl ne_p0_la)
  have fx192 : Fld Z h182 p0 "com/example/hold/hold/check/ComponentSolver" "columnCount" "[I" (.ref cc) := Fld.other W182 fx161 (Or.inl ne_p0_la)
  have fx193 : Ovc Z h182 ca "[I" := Ovc.wr fx162 W182
  have fx194 : Ovc Z h182 va "[D" := Ovc.wr fx163 W182
  have fx195 : Ar Z h182 lv .double xl := Ar.other fx165 W182 (Ne.symm ne_la_lv)
  have fx196 : Ar Z h182 ex .double yl := Ar.other fx166 W182 (Ne.symm ne_la_ex)
  have fx197 : Ar Z h182 su .double zl := Ar.other fx167 W182 (Ne.symm ne_la_su)
  have fx198 : Ar Z h182 rc .int [(.int (0 : Int32)), (.int (0 : Int32))] := Ar.other fx168 W182 (Ne.symm ne_la_rc)
  have fx199 : Ar Z h182 cc .int [(.int (0 : Int32)), (.int (0 : Int32))] := Ar.other fx169 W182 (Ne.symm ne_la_cc)
  have fx200 : Ar Z h182 a2 .long [] := Ar.other fx170 W182 (Ne.symm (Nat.ne_of_lt lt6))
  have fx201 : Exa Z h182 a2 "[J" := Exa.wr W182 fx171
  have fx202 : Ar Z h182 a40 .int [] := Ar.other fx172 W182 (Ne.symm (Nat.ne_of_lt lt44))
  have fx203 : Exa Z h182 a40 "[I" := Exa.wr W182 fx173
  have fx204 : Ar Z h182 a78 .double [] := Ar.other fx174 W182 (Ne.symm (Nat.ne_of_lt lt82))
  have fx205 : Exa Z h182 a78 "[D" := Exa.wr W182 fx175
  have fx206 : Ar Z h182 ca (.array .int) (List.set l1s 1 (.ref a40)) := Ar.other fx176 W182 ne_ca_la
  have fx207 : Ar Z h182 va (.array .double) (List.set l2s 1 (.ref a78)) := Ar.other fx177 W182 ne_va_la
  have fx208 : Ar Z h182 la .int [(.int (0 : Int32)), (.int (0 : Int32))] := A182
  have N209 := Fr.snoc X182 N178 ge_la
  have Z210 : n0 ≤ h182.size := by rw [W182.size]; exact Z179
  have K211 : Keep h0 h182 [ca, va, la] := Keep.wr K180 W182 (Or.inl (List.mem_of_getElem? (i := 2) rfl))
  show Goes p.tables e below (T182.setTop (mkF m 184 #[.val (.ref p0), .val (.int (1 : Int32)), .val (.ref a2), .val (.ref a40), .val (.ref a78), .val (.int (0 : Int32)), .val (.ref a2), .val (.int (0 : Int32)), .val (.int (0 : Int32)), .unset, .unset, .unset, .unset, .unset] [])) _
  exact g_ret0 X182 hx hret hlk (hb hby d6_184) (by decide) (by decide) (by rw [e182]; exact ⟨rfl, N209, K211, ⟨fx183, fx184, fx185, fx186, fx187, fx188, fx189, fx190, fx191, fx192, ⟨_, (by first | exact hl1s | (rw [List.length_set]; exact hl1s) | rfl), fx206⟩, fx193, ⟨_, (by first | exact hl2s | (rw [List.length_set]; exact hl2s) | rfl), fx207⟩, fx194, fx208, fx195, fx196, fx197, fx198, fx199⟩⟩)
theorem ef_rmSolve (m : MethodId) (p0 : Addr) : entryFrame m #[(.ref p0)] 12 = mkF m 0 #[.val (.ref p0), .unset, .unset, .unset, .unset, .unset, .unset, .unset, .unset, .unset, .unset, .unset] [] := by first | (simp [entryFrame, mkF, argsToLocals, Value.category]; done) | rfl
set_option maxRecDepth 65536 in
set_option maxHeartbeats 40000000 in
theorem rmSolve (l : Launch) (Z : State) (a0 : Array Value) (hw : ∀ d ∈ tables_1, d.before a0 Z = true) (p0 : Addr) (h0 : Heap) (n0 : Nat) (Z0 : n0 ≤ h0.size) (ca va la lv ex su rc cc : Addr) (ll0 ll1 ee0 ee1 : Int64) (K : Int) (hK : K < 9007199254740991) (hll0 : Bn K ll0) (hll1 : Bn K ll1) (lc x0 x1 : Addr) (cl : List Value) (SL : Sta Z h0 "java/lang/Long$LongCache" "cache" "[Ljava/lang/Long;" (.ref lc)) (Al : Ar Z h0 lc (.object "java/lang/Long") cl) (hc0 : cl[128]? = some (.ref x0)) (hc1 : cl[129]? = some (.ref x1)) (Ex0 : Exa Z h0 x0 "java/lang/Long") (Ex1 : Exa Z h0 x1 "java/lang/Long") (fx0 : Fld Z h0 x0 "java/lang/Long" "value" "J" (.long (0 : Int64))) (fx1 : Fld Z h0 x1 "java/lang/Long" "value" "J" (.long (1 : Int64))) (blc : lc < n0) (bx0 : x0 < n0) (bx1 : x1 < n0) (hS : Sol Z h0 p0 ca va la lv ex su rc cc [(.double (FP.l2d ll0)), (.double (FP.l2d ll1))] [(.double (FP.l2d ee0)), (.double (FP.l2d ee1))] [(.double (FP.l2d (ll0 - 1))), (.double (FP.l2d (ll1 - 1)))]) (hC : Chn n0 p0 ca va la lv ex su rc cc) :
    Con l Z (⟨"com/example/hold/hold/check/ComponentSolver", "solve", "()[D"⟩ : MethodName) prog_35_method_7_code 12 (some (.array .double)) [] ({ frames := 7, cells := 13, slots := 25, locals := 109 } : Room) 13 25 #[(.ref p0)] h0 (fun v h L => ∃ r, v = some (.ref r) ∧ n0 ≤ r ∧ Fr n0 L ∧ Ar Z h r .double [(.double (FP.l2d ee0)), (.double (FP.l2d ee1))]) := by
  refine Con.body (plainFor_of_name (by first | (simp [plainName, overriddenIn]; done) | decide +kernel)) ?_
  intro p e s m below meth c T0 hx hby hml hown hnm hZ hret hlk X0 e0
  refine Goes.cast (ef_rmSolve m p0) ?_
  have N0 := Fr.nil n0
  obtain ⟨Es, zs, scas, svas, slas, slvs, sexs, ssus, srcs, sccs, ⟨l1s, hl1s, Acs⟩, Ocs, ⟨l2s, hl2s, Avs⟩, Ovs, Alas, Alvs, Aexs, Asus, Arcs, Accs⟩ := hS
  obtain ⟨g0, g1, g2, g3, g4, g5, g6, g7, g8⟩ := hC
  have ge_p0 : n0 ≤ p0 := by omega
  have ne_p0_ca : p0 ≠ ca := Nat.ne_of_lt (by omega)
  have ne_p0_va : p0 ≠ va := Nat.ne_of_lt (by omega)
  have ne_p0_la : p0 ≠ la := Nat.ne_of_lt (by omega)
  have ne_p0_lv : p0 ≠ lv := Nat.ne_of_lt (by omega)
  have ne_p0_ex : p0 ≠ ex := Nat.ne_of_lt (by omega)
  have ne_p0_su : p0 ≠ su := Nat.ne_of_lt (by omega)
  have ne_p0_rc : p0 ≠ rc := Nat.ne_of_lt (by omega)
  have ne_p0_cc : p0 ≠ cc := Nat.ne_of_lt (by omega)
  have ge_ca : n0 ≤ ca := by omega
  have ne_ca_va : ca ≠ va := Nat.ne_of_lt (by omega)
  have ne_ca_la : ca ≠ la := Nat.ne_of_lt (by omega)
  have ne_ca_lv : ca ≠ lv := Nat.ne_of_lt (by omega)
  have ne_ca_ex : ca ≠ ex := Nat.ne_of_lt (by omega)
  have ne_ca_su : ca ≠ su := Nat.ne_of_lt (by omega)
  have ne_ca_rc : ca ≠ rc := Nat.ne_of_lt (by omega)
  have ne_ca_cc : ca ≠ cc := Nat.ne_of_lt (by omega)
  have ge_va : n0 ≤ va := by omega
  have ne_va_la : va ≠ la := Nat.ne_of_lt (by omega)
  have ne_va_lv : va ≠ lv := Nat.ne_of_lt (by omega)
  have ne_va_ex : va ≠ ex := Nat.ne_of_lt (by omega)
  have ne_va_su : va ≠ su := Nat.ne_of_lt (by omega)
  have ne_va_rc : va ≠ rc := Nat.ne_of_lt (by omega)
  have ne_va_cc : va ≠ cc := Nat.ne_of_lt (by omega)
  have ge_la : n0 ≤ la := by omega
  have ne_la_lv : la ≠ lv := Nat.ne_of_lt (by omega)
  have ne_la_ex : la ≠ ex := Nat.ne_of_lt (by omega)
  have ne_la_su : la ≠ su := Nat.ne_of_lt (by omega)
  have ne_la_rc : la ≠ rc := Nat.ne_of_lt (by omega)
  have ne_la_cc : la ≠ cc := Nat.ne_of_lt (by omega)
  have ge_lv : n0 ≤ lv := by omega
  have ne_lv_ex : lv ≠ ex := Nat.ne_of_lt (by omega)
  have ne_lv_su : lv ≠ su := Nat.ne_of_lt (by omega)
  have ne_lv_rc : lv ≠ rc := Nat.ne_of_lt (by omega)
  have ne_lv_cc : lv ≠ cc := Nat.ne_of_lt (by omega)
  have ge_ex : n0 ≤ ex := by omega
  have ne_ex_su : ex ≠ su := Nat.ne_of_lt (by omega)
  have ne_ex_rc : ex ≠ rc := Nat.ne_of_lt (by omega)
  have ne_ex_cc : ex ≠ cc := Nat.ne_of_lt (by omega)
  have ge_su : n0 ≤ su := by omega
  have ne_su_rc : su ≠ rc := Nat.ne_of_lt (by omega)
  have ne_su_cc : su ≠ cc := Nat.ne_of_lt (by omega)
  have ge_rc : n0 ≤ rc := by omega
  have ne_rc_cc : rc ≠ cc := Nat.ne_of_lt (by omega)
  have ge_cc : n0 ≤ cc := by omega
  have nx_lc_p0 : lc ≠ p0 := Nat.ne_of_lt (Nat.lt_of_lt_of_le blc ge_p0)
  have nx_lc_ca : lc ≠ ca := Nat.ne_of_lt (Nat.lt_of_lt_of_le blc ge_ca)
  have nx_lc_va : lc ≠ va := Nat.ne_of_lt (Nat.lt_of_lt_of_le blc ge_va)
  have nx_lc_la : lc ≠ la := Nat.ne_of_lt (Nat.lt_of_lt_of_le blc ge_la)
  have nx_lc_lv : lc ≠ lv := Nat.ne_of_lt (Nat.lt_of_lt_of_le blc ge_lv)
  have nx_lc_ex : lc ≠ ex := Nat.ne_of_lt (Nat.lt_of_lt_of_le blc ge_ex)
  have nx_lc_su : lc ≠ su := Nat.ne_of_lt (Nat.lt_of_lt_of_le blc ge_su)
  have nx_lc_rc : lc ≠ rc := Nat.ne_of_lt (Nat.lt_of_lt_of_le blc ge_rc)
  have nx_lc_cc : lc ≠ cc := Nat.ne_of_lt (Nat.lt_of_lt_of_le blc ge_cc)
  have nx_x0_p0 : x0 ≠ p0 := Nat.ne_of_lt (Nat.lt_of_lt_of_le bx0 ge_p0)
  have nx_x0_ca : x0 ≠ ca := Nat.ne_of_lt (Nat.lt_of_lt_of_le bx0 ge_ca)
  have nx_x0_va : x0 ≠ va := Nat.ne_of_lt (Nat.lt_of_lt_of_le bx0 ge_va)
  have nx_x0_la : x0 ≠ la := Nat.ne_of_lt (Nat.lt_of_lt_of_le bx0 ge_la)
  have nx_x0_lv : x0 ≠ lv := Nat.ne_of_lt (Nat.lt_of_lt_of_le bx0 ge_lv)
  have nx_x0_ex : x0 ≠ ex := Nat.ne_of_lt (Nat.lt_of_lt_of_le bx0 ge_ex)
  have nx_x0_su : x0 ≠ su := Nat.ne_of_lt (Nat.lt_of_lt_of_le bx0 ge_su)
  have nx_x0_rc : x0 ≠ rc := Nat.ne_of_lt (Nat.lt_of_lt_of_le bx0 ge_rc)
  have nx_x0_cc : x0 ≠ cc := Nat.ne_of_lt (Nat.lt_of_lt_of_le bx0 ge_cc)
  have nx_x1_p0 : x1 ≠ p0 := Nat.ne_of_lt (Nat.lt_of_lt_of_le bx1 ge_p0)
  have nx_x1_ca : x1 ≠ ca := Nat.ne_of_lt (Nat.lt_of_lt_of_le bx1 ge_ca)
  have nx_x1_va : x1 ≠ va := Nat.ne_of_lt (Nat.lt_of_lt_of_le bx1 ge_va)
  have nx_x1_la : x1 ≠ la := Nat.ne_of_lt (Nat.lt_of_lt_of_le bx1 ge_la)
  have nx_x1_lv : x1 ≠ lv := Nat.ne_of_lt (Nat.lt_of_lt_of_le bx1 ge_lv)
  have nx_x1_ex : x1 ≠ ex := Nat.ne_of_lt (Nat.lt_of_lt_of_le bx1 ge_ex)
  have nx_x1_su : x1 ≠ su := Nat.ne_of_lt (Nat.lt_of_lt_of_le bx1 ge_su)
  have nx_x1_rc : x1 ≠ rc := Nat.ne_of_lt (Nat.lt_of_lt_of_le bx1 ge_rc)
  have nx_x1_cc : x1 ≠ cc := Nat.ne_of_lt (Nat.lt_of_lt_of_le bx1 ge_cc)
  have hC' : Chn n0 p0 ca va la lv ex su rc cc := ⟨g0, g1, g2, g3, g4, g5, g6, g7, g8⟩
  show Goes p.tables e below (T0.setTop (mkF m 0 #[.val (.ref p0), .unset, .unset, .unset, .unset, .unset, .unset, .unset, .unset, .unset, .unset, .unset] [])) _
  refine g_iconst X0 hx (0 : Int32) (hb hby d5_0) rfl ?_
  refine g_istoreN X0 hx (hb hby d5_1) (l' := #[.val (.ref p0), .val (.int (0 : Int32)), .unset, .unset, .unset, .unset, .unset, .unset, .unset, .unset, .unset, .unset]) rfl ?_
  refine g_iloadN X0 hx (hb hby d5_2) rfl ?_
  refine g_aloadN X0 hx (hb hby d5_3) rfl rfl ?_
  refine g_getF X0 hx hZ hown e0 (host := "") (Or.inl (hw _ (List.mem_of_getElem? (i := 9) rfl))) Via.refl zs (hb hby d5_4) (fun T1 X1 e1 => ?_)
  show Goes p.tables e below (T1.setTop (mkF m 7 #[.val (.ref p0), .val (.int (0 : Int32)), .unset, .unset, .unset, .unset, .unset, .unset, .unset, .unset, .unset, .unset] [(.int (2 : Int32)), (.int (0 : Int32))])) _
  refine g_icmp_ge X1 hx (hb hby d5_7) (by decide) (pc' := 52) (by decide) (fun q => absurd (by decide) q) (fun _ => ?_)
  show Goes p.tables e below (T1.setTop (mkF m 10 #[.val (.ref p0), .val (.int (0 : Int32)), .unset, .unset, .unset, .unset, .unset, .unset, .unset, .unset, .unset, .unset] [])) _
  refine g_aloadN X1 hx (hb hby d5_10) rfl rfl ?_
  refine g_iloadN X1 hx (hb hby d5_11) rfl ?_
  refine g_callP X1 hx hZ hown (by rw [hml]; rfl) e1 (hw _ (List.mem_of_getElem? (i := 52) rfl)) (hw _ (List.mem_of_getElem? (i := 53) rfl)) (own_selP (by decide) (hw _ (List.mem_of_getElem? (i := 1) rfl)) (hw _ (List.mem_of_getElem? (i := 54) rfl)) (hw _ (List.mem_of_getElem? (i := 53) rfl))) (hw _ (List.mem_of_getElem? (i := 54) rfl)) (hw _ (List.mem_of_getElem? (i := 2) rfl)) (hw _ (List.mem_of_getElem? (i := 55) rfl)) Es (rmSR0 l Z a0 hw p0 h0 n0 Z0 ca va la lv ex su rc cc [(.double (FP.l2d ll0)), (.double (FP.l2d ll1))] [(.double (FP.l2d ee0)), (.double (FP.l2d ee1))] [(.double (FP.l2d (ll0 - 1))), (.double (FP.l2d (ll1 - 1)))] ⟨Es, zs, scas, svas, slas, slvs, sexs, ssus, srcs, sccs, ⟨_, (by first | exact hl1s | (rw [List.length_set]; exact hl1s) | rfl), Acs⟩, Ocs, ⟨_, (by first | exact hl2s | (rw [List.length_set]; exact hl2s) | rfl), Avs⟩, Ovs, Alas, Alvs, Aexs, Asus, Arcs, Accs⟩ hC') [(.int (0 : Int32))] rfl [] rfl (lenOf pd_6 rfl) (hb hby d5_12) (by decide) 0 (by decide) (by decide) (by first | decide | exact Nat.le_refl _) (by decide) (by decide) (fun v T2 L2 X2 hQ2 => ?_)
  obtain ⟨rfl, Nr0, Kr0, hS0⟩ := hQ2
  have fx3 : Sta Z T2.heap "java/lang/Long$LongCache" "cache" "[Ljava/lang/Long;" (.ref lc) := own_stakeep SL Kr0 (allS (own_nstA Acs) (allS (own_nstA Avs) (allS (own_nstA Alas) all0)))
  have fx4 : Ar Z T2.heap lc (.object "java/lang/Long") cl := Ar.keep Al Kr0 (ninS nx_lc_ca (ninS nx_lc_va (ninS nx_lc_la nin0)))
  have fx5 : Exa Z T2.heap x0 "java/lang/Long" := Exa.keep Ex0 Kr0
  have fx6 : Exa Z T2.heap x1 "java/lang/Long" := Exa.keep Ex1 Kr0
  have fx7 : Fld Z T2.heap x0 "java/lang/Long" "value" "J" (.long (0 : Int64)) := Fld.keep fx0 Kr0 (ninS nx_x0_ca (ninS nx_x0_va (ninS nx_x0_la nin0)))
  have fx8 : Fld Z T2.heap x1 "java/lang/Long" "value" "J" (.long (1 : Int64)) := Fld.keep fx1 Kr0 (ninS nx_x1_ca (ninS nx_x1_va (ninS nx_x1_la nin0)))
  have N9 := Fr.app N0 Nr0
  have Z10 : n0 ≤ T2.heap.size := Nat.le_trans Z0 Kr0.1
  obtain ⟨Et0, zt0, scat0, svat0, slat0, slvt0, sext0, ssut0, srct0, scct0, ⟨l1t0, hl1t0, Act0⟩, Oct0, ⟨l2t0, hl2t0, Avt0⟩, Ovt0, Alat0, Alvt0, Aext0, Asut0, Arct0, Acct0⟩ := hS0
  show Goes p.tables e below (T2.setTop (mkF m 15 #[.val (.ref p0), .val (.int (0 : Int32)), .unset, .unset, .unset, .unset, .unset, .unset, .unset, .unset, .unset, .unset] [])) _
  refine g_iconst X2 hx (0 : Int32) (hb hby d5_15) rfl ?_
  refine g_istoreN X2 hx (hb hby d5_16) (l' := #[.val (.ref p0), .val (.int (0 : Int32)), .val (.int (0 : Int32)), .unset, .unset, .unset, .unset, .unset, .unset, .unset, .unset, .unset]) rfl ?_
  refine g_iloadN X2 hx (hb hby d5_17) rfl ?_
  refine g_aloadN X2 hx (hb hby d5_18) rfl rfl ?_
  refine g_getF X2 hx hZ hown rfl (host := "") (Or.inl (hw _ (List.mem_of_getElem? (i := 20) rfl))) Via.refl slat0 (hb hby d5_19) (fun T11 X11 e11 => ?_)
  show Goes p.tables e below (T11.setTop (mkF m 22 #[.val (.ref p0), .val (.int (0 : Int32)), .val (.int (0 : Int32)), .unset, .unset, .unset, .unset, .unset, .unset, .unset, .unset, .unset] [(.ref la), (.int (0 : Int32))])) _
  refine g_iloadN X11 hx (hb hby d5_22) rfl ?_
  refine g_iaload X11 hx hZ e11 Alat0 (i := 0) (v := (.int (0 : Int32))) (by decide) rfl (hb hby d5_23) ?_
  show Goes p.tables e below (T11.setTop (mkF m 24 #[.val (.ref p0), .val (.int (0 : Int32)), .val (.int (0 : Int32)), .unset, .unset, .unset, .unset, .unset, .unset, .unset, .unset, .unset] [(.int (0 : Int32)), (.int (0 : Int32))])) _
  refine g_icmp_ge X11 hx (hb hby d5_24) (by decide) (pc' := 46) (by decide) (fun _ => ?_) (fun q => absurd q (by decide))
  show Goes p.tables e below (T11.setTop (mkF m 46 #[.val (.ref p0), .val (.int (0 : Int32)), .val (.int (0 : Int32)), .unset, .unset, .unset, .unset, .unset, .unset, .unset, .unset, .unset] [])) _
  refine g_iinc X11 hx (1 : Int32) (hb hby d5_46) rfl rfl (l' := #[.val (.ref p0), .val (.int (1 : Int32)), .val (.int (0 : Int32)), .unset, .unset, .unset, .unset, .unset, .unset, .unset, .unset, .unset]) rfl ?_
  refine g_goto X11 hx (hb hby d5_49) (by decide) (pc' := 2) (by decide) ?_
  refine g_iloadN X11 hx (hb hby d5_2) rfl ?_
  refine g_aloadN X11 hx (hb hby d5_3) rfl rfl ?_
  refine g_getF X11 hx hZ hown e11 (host := "") (Or.inl (hw _ (List.mem_of_getElem? (i := 9) rfl))) Via.refl zt0 (hb hby d5_4) (fun T12 X12 e12 => ?_)
  show Goes p.tables e below (T12.setTop (mkF m 7 #[.val (.ref p0), .val (.int (1 : Int32)), .val (.int (0 : Int32)), .unset, .unset, .unset, .unset, .unset, .unset, .unset, .unset, .unset] [(.int (2 : Int32)), (.int (1 : Int32))])) _
  refine g_icmp_ge X12 hx (hb hby d5_7) (by decide) (pc' := 52) (by decide) (fun q => absurd (by decide) q) (fun _ => ?_)
  show Goes p.tables e below (T12.setTop (mkF m 10 #[.val (.ref p0), .val (.int (1 : Int32)), .val (.int (0 : Int32)), .unset, .unset, .unset, .unset, .unset, .unset, .unset, .unset, .unset] [])) _
  refine g_aloadN X12 hx (hb hby d5_10) rfl rfl ?_
  refine g_iloadN X12 hx (hb hby d5_11) rfl ?_
  refine g_callP X12 hx hZ hown (by rw [hml]; rfl) e12 (hw _ (List.mem_of_getElem? (i := 52) rfl)) (hw _ (List.mem_of_getElem? (i := 53) rfl)) (own_selP (by decide) (hw _ (List.mem_of_getElem? (i := 1) rfl)) (hw _ (List.mem_of_getElem? (i := 54) rfl)) (hw _ (List.mem_of_getElem? (i := 53) rfl))) (hw _ (List.mem_of_getElem? (i := 54) rfl)) (hw _ (List.mem_of_getElem? (i := 2) rfl)) (hw _ (List.mem_of_getElem? (i := 55) rfl)) Et0 (rmSR1 l Z a0 hw p0 T2.heap n0 Z10 ca va la lv ex su rc cc [(.double (FP.l2d ll0)), (.double (FP.l2d ll1))] [(.double (FP.l2d ee0)), (.double (FP.l2d ee1))] [(.double (FP.l2d (ll0 - 1))), (.double (FP.l2d (ll1 - 1)))] ⟨Et0, zt0, scat0, svat0, slat0, slvt0, sext0, ssut0, srct0, scct0, ⟨_, (by first | exact hl1t0 | (rw [List.length_set]; exact hl1t0) | rfl), Act0⟩, Oct0, ⟨_, (by first | exact hl2t0 | (rw [List.length_set]; exact hl2t0) | rfl), Avt0⟩, Ovt0, Alat0, Alvt0, Aext0, Asut0, Arct0, Acct0⟩ hC') [(.int (1 : Int32))] rfl [] rfl (lenOf pd_6 rfl) (hb hby d5_12) (by decide) 0 (by decide) (by decide) (by first | decide | exact Nat.le_refl _) (by decide) (by decide) (fun v T13 L13 X13 hQ13 => ?_)
  obtain ⟨rfl, Nr1, Kr1, hS1⟩ := hQ13
  have fx14 : Sta Z T13.heap "java/lang/Long$LongCache" "cache" "[Ljava/lang/Long;" (.ref lc) := own_stakeep fx3 Kr1 (allS (own_nstA Act0) (allS (own_nstA Avt0) (allS (own_nstA Alat0) all0)))
  have fx15 : Ar Z T13.heap lc (.object "java/lang/Long") cl := Ar.keep fx4 Kr1 (ninS nx_lc_ca (ninS nx_lc_va (ninS nx_lc_la nin0)))
  have fx16 : Exa Z T13.heap x0 "java/lang/Long" := Exa.keep fx5 Kr1
  have fx17 : Exa Z T13.heap x1 "java/lang/Long" := Exa.keep fx6 Kr1
  have fx18 : Fld Z T13.heap x0 "java/lang/Long" "value" "J" (.long (0 : Int64)) := Fld.keep fx7 Kr1 (ninS nx_x0_ca (ninS nx_x0_va (ninS nx_x0_la nin0)))
  have fx19 : Fld Z T13.heap x1 "java/lang/Long" "value" "J" (.long (1 : Int64)) := Fld.keep fx8 Kr1 (ninS nx_x1_ca (ninS nx_x1_va (ninS nx_x1_la nin0)))
  have N20 := Fr.app N9 Nr1
  have Z21 : n0 ≤ T13.heap.size := Nat.le_trans Z10 Kr1.1
  obtain ⟨Et1, zt1, scat1, svat1, slat1, slvt1, sext1, ssut1, srct1, scct1, ⟨l1t1, hl1t1, Act1⟩, Oct1, ⟨l2t1, hl2t1, Avt1⟩, Ovt1, Alat1, Alvt1, Aext1, Asut1, Arct1, Acct1⟩ := hS1
  show Goes p.tables e below (T13.setTop (mkF m 15 #[.val (.ref p0), .val (.int (1 : Int32)), .val (.int (0 : Int32)), .unset, .unset, .unset, .unset, .unset, .unset, .unset, .unset, .unset] [])) _
  refine g_iconst X13 hx (0 : Int32) (hb hby d5_15) rfl ?_
  refine g_istoreN X13 hx (hb hby d5_16) (l' := #[.val (.ref p0), .val (.int (1 : Int32)), .val (.int (0 : Int32)), .unset, .unset, .unset, .unset, .unset, .unset, .unset, .unset, .unset]) rfl ?_
  refine g_iloadN X13 hx (hb hby d5_17) rfl ?_
  refine g_aloadN X13 hx (hb hby d5_18) rfl rfl ?_
  refine g_getF X13 hx hZ hown rfl (host := "") (Or.inl (hw _ (List.mem_of_getElem? (i := 20) rfl))) Via.refl slat1 (hb hby d5_19) (fun T22 X22 e22 => ?_)
  show Goes p.tables e below (T22.setTop (mkF m 22 #[.val (.ref p0), .val (.int (1 : Int32)), .val (.int (0 : Int32)), .unset, .unset, .unset, .unset, .unset, .unset, .unset, .unset, .unset] [(.ref la), (.int (0 : Int32))])) _
  refine g_iloadN X22 hx (hb hby d5_22) rfl ?_
  refine g_iaload X22 hx hZ e22 Alat1 (i := 1) (v := (.int (0 : Int32))) (by decide) rfl (hb hby d5_23) ?_
  show Goes p.tables e below (T22.setTop (mkF m 24 #[.val (.ref p0), .val (.int (1 : Int32)), .val (.int (0 : Int32)), .unset, .unset, .unset, .unset, .unset, .unset, .unset, .unset, .unset] [(.int (0 : Int32)), (.int (0 : Int32))])) _
  refine g_icmp_ge X22 hx (hb hby d5_24) (by decide) (pc' := 46) (by decide) (fun _ => ?_) (fun q => absurd q (by decide))
  show Goes p.tables e below (T22.setTop (mkF m 46 #[.val (.ref p0), .val (.int (1 : Int32)), .val (.int (0 : Int32)), .unset, .unset, .unset, .unset, .unset, .unset, .unset, .unset, .unset] [])) _
  refine g_iinc X22 hx (1 : Int32) (hb hby d5_46) rfl rfl (l' := #[.val (.ref p0), .val (.int (2 : Int32)), .val (.int (0 : Int32)), .unset, .unset, .unset, .unset, .unset, .unset, .unset, .unset, .unset]) rfl ?_
  refine g_goto X22 hx (hb hby d5_49) (by decide) (pc' := 2) (by decide) ?_
  refine g_iloadN X22 hx (hb hby d5_2) rfl ?_
  refine g_aloadN X22 hx (hb hby d5_3) rfl rfl ?_
  refine g_getF X22 hx hZ hown e22 (host := "") (Or.inl (hw _ (List.mem_of_getElem? (i := 9) rfl))) Via.refl zt1 (hb hby d5_4) (fun T23 X23 e23 => ?_)
  show Goes p.tables e below (T23.setTop (mkF m 7 #[.val (.ref p0), .val (.int (2 : Int32)), .val (.int (0 : Int32)), .unset, .unset, .unset, .unset, .unset, .unset, .unset, .unset, .unset] [(.int (2 : Int32)), (.int (2 : Int32))])) _
  refine g_icmp_ge X23 hx (hb hby d5_7) (by decide) (pc' := 52) (by decide) (fun _ => ?_) (fun q => absurd q (by decide))
  show Goes p.tables e below (T23.setTop (mkF m 52 #[.val (.ref p0), .val (.int (2 : Int32)), .val (.int (0 : Int32)), .unset, .unset, .unset, .unset, .unset, .unset, .unset, .unset, .unset] [])) _
  refine g_aloadN X23 hx (hb hby d5_52) rfl rfl ?_
  refine g_getF X23 hx hZ hown e23 (host := "") (Or.inl (hw _ (List.mem_of_getElem? (i := 9) rfl))) Via.refl zt1 (hb hby d5_53) (fun T24 X24 e24 => ?_)
  show Goes p.tables e below (T24.setTop (mkF m 56 #[.val (.ref p0), .val (.int (2 : Int32)), .val (.int (0 : Int32)), .unset, .unset, .unset, .unset, .unset, .unset, .unset, .unset, .unset] [(.int (2 : Int32))])) _
  refine g_newarr X24 hx hZ e24 (hw _ (List.mem_of_getElem? (i := 19) rfl)) (hb hby d5_56) (n := 2) (by decide) 2 (by decide) (by decide) (by decide) (by decide) (ad := "[I") (by decide) rfl (fun T25 h25 a25 ga25 X25 e25 Ex25 Aa25 Ea25 => ?_)
  have lt26 : lc < a25 := by rw [ga25]; exact fx15.lt
  have lt27 : x0 < a25 := by rw [ga25]; exact fx16.lt
  have lt28 : x1 < a25 := by rw [ga25]; exact fx17.lt
  have lt29 : p0 < a25 := by rw [ga25]; exact Et1.lt
  have lt30 : ca < a25 := by rw [ga25]; exact Act1.lt
  have lt31 : va < a25 := by rw [ga25]; exact Avt1.lt
  have lt32 : la < a25 := by rw [ga25]; exact Alat1.lt
  have lt33 : lv < a25 := by rw [ga25]; exact Alvt1.lt
  have lt34 : ex < a25 := by rw [ga25]; exact Aext1.lt
  have lt35 : su < a25 := by rw [ga25]; exact Asut1.lt
  have lt36 : rc < a25 := by rw [ga25]; exact Arct1.lt
  have lt37 : cc < a25 := by rw [ga25]; exact Acct1.lt
  have ge38 : n0 ≤ a25 := by rw [ga25]; exact Z21
  have fx39 : Sta Z h25 "java/lang/Long$LongCache" "cache" "[Ljava/lang/Long;" (.ref lc) := Sta.ext Ex25 fx14
  have fx40 : Ar Z h25 lc (.object "java/lang/Long") cl := Ar.ext fx15 Ex25
  have fx41 : Exa Z h25 x0 "java/lang/Long" := Exa.ext Ex25 fx16
  have fx42 : Exa Z h25 x1 "java/lang/Long" := Exa.ext Ex25 fx17
  have fx43 : Fld Z h25 x0 "java/lang/Long" "value" "J" (.long (0 : Int64)) := Fld.ext Ex25 fx18
  have fx44 : Fld Z h25 x1 "java/lang/Long" "value" "J" (.long (1 : Int64)) := Fld.ext Ex25 fx19
  have fx45 : Exa Z h25 p0 "com/example/hold/hold/check/ComponentSolver" := Exa.ext Ex25 Et1
  have fx46 : Fld Z h25 p0 "com/example/hold/hold/check/ComponentSolver" "size" "I" (.int (2 : Int32)) := Fld.ext Ex25 zt1
  have fx47 : Fld Z h25 p0 "com/example/hold/hold/check/ComponentSolver" "columns" "[[I" (.ref ca) := Fld.ext Ex25 scat1
  have fx48 : Fld Z h25 p0 "com/example/hold/hold/check/ComponentSolver" "values" "[[D" (.ref va) := Fld.ext Ex25 svat1
  have fx49 : Fld Z h25 p0 "com/example/hold/hold/check/ComponentSolver" "length" "[I" (.ref la) := Fld.ext Ex25 slat1
  have fx50 : Fld Z h25 p0 "com/example/hold/hold/check/ComponentSolver" "leaving" "[D" (.ref lv) := Fld.ext Ex25 slvt1
  have fx51 : Fld Z h25 p0 "com/example/hold/hold/check/ComponentSolver" "exits" "[D" (.ref ex) := Fld.ext Ex25 sext1
  have fx52 : Fld Z h25 p0 "com/example/hold/hold/check/ComponentSolver" "surplus" "[D" (.ref su) := Fld.ext Ex25 ssut1
  have fx53 : Fld Z h25 p0 "com/example/hold/hold/check/ComponentSolver" "rowsUsingCount" "[I" (.ref rc) := Fld.ext Ex25 srct1
  have fx54 : Fld Z h25 p0 "com/example/hold/hold/check/ComponentSolver" "columnCount" "[I" (.ref cc) := Fld.ext Ex25 scct1
  have fx55 : Ar Z h25 ca (.array .int) l1t1 := Ar.ext Act1 Ex25
  have fx56 : Ovc Z h25 ca "[I" := Ovc.ext Oct1 Ex25
  have fx57 : Ar Z h25 va (.array .double) l2t1 := Ar.ext Avt1 Ex25
  have fx58 : Ovc Z h25 va "[D" := Ovc.ext Ovt1 Ex25
  have fx59 : Ar Z h25 la .int [(.int (0 : Int32)), (.int (0 : Int32))] := Ar.ext Alat1 Ex25
  have fx60 : Ar Z h25 lv .double [(.double (FP.l2d ll0)), (.double (FP.l2d ll1))] := Ar.ext Alvt1 Ex25
  have fx61 : Ar Z h25 ex .double [(.double (FP.l2d ee0)), (.double (FP.l2d ee1))] := Ar.ext Aext1 Ex25
  have fx62 : Ar Z h25 su .double [(.double (FP.l2d (ll0 - 1))), (.double (FP.l2d (ll1 - 1)))] := Ar.ext Asut1 Ex25
  have fx63 : Ar Z h25 rc .int [(.int (0 : Int32)), (.int (0 : Int32))] := Ar.ext Arct1 Ex25
  have fx64 : Ar Z h25 cc .int [(.int (0 : Int32)), (.int (0 : Int32))] := Ar.ext Acct1 Ex25
  have Z65 : n0 ≤ h25.size := Nat.le_trans Z21 Ex25.1
  have fx66 : Ar Z h25 a25 .int [(.int (0 : Int32)), (.int (0 : Int32))] := Aa25
  show Goes p.tables e below (T25.setTop (mkF m 58 #[.val (.ref p0), .val (.int (2 : Int32)), .val (.int (0 : Int32)), .unset, .unset, .unset, .unset, .unset, .unset, .unset, .unset, .unset] [(.ref a25)])) _
  refine g_astoreN X25 hx (hb hby d5_58) rfl (l' := #[.val (.ref p0), .val (.ref a25), .val (.int (0 : Int32)), .unset, .unset, .unset, .unset, .unset, .unset, .unset, .unset, .unset]) rfl ?_
  refine g_new X25 hx hZ hown e25 (hw _ (List.mem_of_getElem? (i := 71) rfl)) (hw _ (List.mem_of_getElem? (i := 72) rfl)) (hw _ (List.mem_of_getElem? (i := 73) rfl)) (hb hby d5_59) (by decide) (by decide) (fun T67 h67 a67 ga67 X67 e67 Ex67 Ea67 Df67 => ?_)
  have lt68 : lc < a67 := by rw [ga67]; exact fx40.lt
  have lt69 : x0 < a67 := by rw [ga67]; exact fx41.lt
  have lt70 : x1 < a67 := by rw [ga67]; exact fx42.lt
  have lt71 : p0 < a67 := by rw [ga67]; exact fx45.lt
  have lt72 : ca < a67 := by rw [ga67]; exact fx55.lt
  have lt73 : va < a67 := by rw [ga67]; exact fx57.lt
  have lt74 : la < a67 := by rw [ga67]; exact fx59.lt
  have lt75 : lv < a67 := by rw [ga67]; exact fx60.lt
  have lt76 : ex < a67 := by rw [ga67]; exact fx61.lt
  have lt77 : su < a67 := by rw [ga67]; exact fx62.lt
  have lt78 : rc < a67 := by rw [ga67]; exact fx63.lt
  have lt79 : cc < a67 := by rw [ga67]; exact fx64.lt
  have lt80 : a25 < a67 := by rw [ga67]; exact fx66.lt
  have ge81 : n0 ≤ a67 := by rw [ga67]; exact Z65
  have fx82 : Sta Z h67 "java/lang/Long$LongCache" "cache" "[Ljava/lang/Long;" (.ref lc) := Sta.ext Ex67 fx39
  have fx83 : Ar Z h67 lc (.object "java/lang/Long") cl := Ar.ext fx40 Ex67
  have fx84 : Exa Z h67 x0 "java/lang/Long" := Exa.ext Ex67 fx41
  have fx85 : Exa Z h67 x1 "java/lang/Long" := Exa.ext Ex67 fx42
  have fx86 : Fld Z h67 x0 "java/lang/Long" "value" "J" (.long (0 : Int64)) := Fld.ext Ex67 fx43
  have fx87 : Fld Z h67 x1 "java/lang/Long" "value" "J" (.long (1 : Int64)) := Fld.ext Ex67 fx44
  have fx88 : Exa Z h67 p0 "com/example/hold/hold/check/ComponentSolver" := Exa.ext Ex67 fx45
  have fx89 : Fld Z h67 p0 "com/example/hold/hold/check/ComponentSolver" "size" "I" (.int (2 : Int32)) := Fld.ext Ex67 fx46
  have fx90 : Fld Z h67 p0 "com/example/hold/hold/check/ComponentSolver" "columns" "[[I" (.ref ca) := Fld.ext Ex67 fx47
  have fx91 : Fld Z h67 p0 "com/example/hold/hold/check/ComponentSolver" "values" "[[D" (.ref va) := Fld.ext Ex67 fx48
  have fx92 : Fld Z h67 p0 "com/example/hold/hold/check/ComponentSolver" "length" "[I" (.ref la) := Fld.ext Ex67 fx49
  have fx93 : Fld Z h67 p0 "com/example/hold/hold/check/ComponentSolver" "leaving" "[D" (.ref lv) := Fld.ext Ex67 fx50
  have fx94 : Fld Z h67 p0 "com/example/hold/hold/check/ComponentSolver" "exits" "[D" (.ref ex) := Fld.ext Ex67 fx51
  have fx95 : Fld Z h67 p0 "com/example/hold/hold/check/ComponentSolver" "surplus" "[D" (.ref su) := Fld.ext Ex67 fx52
  have fx96 : Fld Z h67 p0 "com/example/hold/hold/check/ComponentSolver" "rowsUsingCount" "[I" (.ref rc) := Fld.ext Ex67 fx53
  have fx97 : Fld Z h67 p0 "com/example/hold/hold/check/ComponentSolver" "columnCount" "[I" (.ref cc) := Fld.ext Ex67 fx54
  have fx98 : Ar Z h67 ca (.array .int) l1t1 := Ar.ext fx55 Ex67
  have fx99 : Ovc Z h67 ca "[I" := Ovc.ext fx56 Ex67
  have fx100 : Ar Z h67 va (.array .double) l2t1 := Ar.ext fx57 Ex67
  have fx101 : Ovc Z h67 va "[D" := Ovc.ext fx58 Ex67
  have fx102 : Ar Z h67 la .int [(.int (0 : Int32)), (.int (0 : Int32))] := Ar.ext fx59 Ex67
  have fx103 : Ar Z h67 lv .double [(.double (FP.l2d ll0)), (.double (FP.l2d ll1))] := Ar.ext fx60 Ex67
  have fx104 : Ar Z h67 ex .double [(.double (FP.l2d ee0)), (.double (FP.l2d ee1))] := Ar.ext fx61 Ex67
  have fx105 : Ar Z h67 su .double [(.double (FP.l2d (ll0 - 1))), (.double (FP.l2d (ll1 - 1)))] := Ar.ext fx62 Ex67
  have fx106 : Ar Z h67 rc .int [(.int (0 : Int32)), (.int (0 : Int32))] := Ar.ext fx63 Ex67
  have fx107 : Ar Z h67 cc .int [(.int (0 : Int32)), (.int (0 : Int32))] := Ar.ext fx64 Ex67
  have fx108 : Ar Z h67 a25 .int [(.int (0 : Int32)), (.int (0 : Int32))] := Ar.ext fx66 Ex67
  have fx109 : Exa Z h67 a25 "[I" := Exa.ext Ex67 Ea25
  have Z110 : n0 ≤ h67.size := Nat.le_trans Z65 Ex67.1
  have fx111 : Fld Z h67 a67 "java/util/PriorityQueue" "queue" "[Ljava/lang/Object;" .null := Df67 (Or.inl (hw _ (List.mem_of_getElem? (i := 97) rfl))) (ty := (.array (.object "java/lang/Object"))) (by decide)
  have fx112 : Fld Z h67 a67 "java/util/PriorityQueue" "comparator" "Ljava/util/Comparator;" .null := Df67 (Or.inr (hw _ (List.mem_of_getElem? (i := 99) rfl))) (ty := (.object "java/util/Comparator")) (by decide)
  have fx113 : Fld Z h67 a67 "java/util/PriorityQueue" "modCount" "I" (.int (0 : Int32)) := Df67 (Or.inl (hw _ (List.mem_of_getElem? (i := 131) rfl))) (ty := .int) (by decide)
  have fx114 : Fld Z h67 a67 "java/util/PriorityQueue" "size" "I" (.int (0 : Int32)) := Df67 (Or.inl (hw _ (List.mem_of_getElem? (i := 133) rfl))) (ty := .int) (by decide)
  show Goes p.tables e below (T67.setTop (mkF m 62 #[.val (.ref p0), .val (.ref a25), .val (.int (0 : Int32)), .unset, .unset, .unset, .unset, .unset, .unset, .unset, .unset, .unset] [(.ref a67)])) _
  refine g_dup X67 hx (hb hby d5_62) rfl ?_
  refine g_callI X67 hx hZ hown (by rw [hml]; rfl) e67 rfl (hw _ (List.mem_of_getElem? (i := 74) rfl)) (hw _ (List.mem_of_getElem? (i := 75) rfl)) (hw _ (List.mem_of_getElem? (i := 73) rfl)) (hw _ (List.mem_of_getElem? (i := 76) rfl)) (rmPQ l Z a0 hw a67 h67 n0 Z110 fx111 fx114 fx112 fx113 Ea67 ge81) a67 [] rfl [(.ref a67)] rfl (lenOf pd_11 rfl) (hb hby d5_63) (by decide) 1 (by decide) (by decide) (by first | decide | exact Nat.le_refl _) (by decide) (by decide) (fun v T115 L115 X115 hQ115 => ?_)
  obtain ⟨rfl, Nq, Kq, qa, hqa, gqa, Oq, q1, q2, q3, q4, q5⟩ := hQ115
  have lt116 : lc < qa := Nat.lt_of_lt_of_le fx83.lt hqa
  have lt117 : x0 < qa := Nat.lt_of_lt_of_le fx84.lt hqa
  have lt118 : x1 < qa := Nat.lt_of_lt_of_le fx85.lt hqa
  have lt119 : p0 < qa := Nat.lt_of_lt_of_le fx88.lt hqa
  have lt120 : ca < qa := Nat.lt_of_lt_of_le fx98.lt hqa
  have lt121 : va < qa := Nat.lt_of_lt_of_le fx100.lt hqa
  have lt122 : la < qa := Nat.lt_of_lt_of_le fx102.lt hqa
  have lt123 : lv < qa := Nat.lt_of_lt_of_le fx103.lt hqa
  have lt124 : ex < qa := Nat.lt_of_lt_of_le fx104.lt hqa
  have lt125 : su < qa := Nat.lt_of_lt_of_le fx105.lt hqa
  have lt126 : rc < qa := Nat.lt_of_lt_of_le fx106.lt hqa
  have lt127 : cc < qa := Nat.lt_of_lt_of_le fx107.lt hqa
  have lt128 : a25 < qa := Nat.lt_of_lt_of_le fx108.lt hqa
  have lt129 : a67 < qa := Nat.lt_of_lt_of_le Ea67.lt hqa
  have fx130 : Sta Z T115.heap "java/lang/Long$LongCache" "cache" "[Ljava/lang/Long;" (.ref lc) := own_stakeep fx82 Kq (allS (own_nst Ea67) all0)
  have fx131 : Ar Z T115.heap lc (.object "java/lang/Long") cl := Ar.keep fx83 Kq (ninS (Nat.ne_of_lt lt68) nin0)
  have fx132 : Exa Z T115.heap x0 "java/lang/Long" := Exa.keep fx84 Kq
  have fx133 : Exa Z T115.heap x1 "java/lang/Long" := Exa.keep fx85 Kq
  have fx134 : Fld Z T115.heap x0 "java/lang/Long" "value" "J" (.long (0 : Int64)) := Fld.keep fx86 Kq (ninS (Nat.ne_of_lt lt69) nin0)
  have fx135 : Fld Z T115.heap x1 "java/lang/Long" "value" "J" (.long (1 : Int64)) := Fld.keep fx87 Kq (ninS (Nat.ne_of_lt lt70) nin0)
  have fx136 : Exa Z T115.heap p0 "com/example/hold/hold/check/ComponentSolver" := Exa.keep fx88 Kq
  have fx137 : Fld Z T115.heap p0 "com/example/hold/hold/check/ComponentSolver" "size" "I" (.int (2 : Int32)) := Fld.keep fx89 Kq (ninS (Nat.ne_of_lt lt71) nin0)
  have fx138 : Fld Z T115.heap p0 "com/example/hold/hold/check/ComponentSolver" "columns" "[[I" (.ref ca) := Fld.keep fx90 Kq (ninS (Nat.ne_of_lt lt71) nin0)
  have fx139 : Fld Z T115.heap p0 "com/example/hold/hold/check/ComponentSolver" "values" "[[D" (.ref va) := Fld.keep fx91 Kq (ninS (Nat.ne_of_lt lt71) nin0)
  have fx140 : Fld Z T115.heap p0 "com/example/hold/hold/check/ComponentSolver" "length" "[I" (.ref la) := Fld.keep fx92 Kq (ninS (Nat.ne_of_lt lt71) nin0)
  have fx141 : Fld Z T115.heap p0 "com/example/hold/hold/check/ComponentSolver" "leaving" "[D" (.ref lv) := Fld.keep fx93 Kq (ninS (Nat.ne_of_lt lt71) nin0)
  have fx142 : Fld Z T115.heap p0 "com/example/hold/hold/check/ComponentSolver" "exits" "[D" (.ref ex) := Fld.keep fx94 Kq (ninS (Nat.ne_of_lt lt71) nin0)
  have fx143 : Fld Z T115.heap p0 "com/example/hold/hold/check/ComponentSolver" "surplus" "[D" (.ref su) := Fld.keep fx95 Kq (ninS (Nat.ne_of_lt lt71) nin0)
  have fx144 : Fld Z T115.heap p0 "com/example/hold/hold/check/ComponentSolver" "rowsUsingCount" "[I" (.ref rc) := Fld.keep fx96 Kq (ninS (Nat.ne_of_lt lt71) nin0)
  have fx145 : Fld Z T115.heap p0 "com/example/hold/hold/check/ComponentSolver" "columnCount" "[I" (.ref cc) := Fld.keep fx97 Kq (ninS (Nat.ne_of_lt lt71) nin0)
  have fx146 : Ar Z T115.heap ca (.array .int) l1t1 := Ar.keep fx98 Kq (ninS (Nat.ne_of_lt lt72) nin0)
  have fx147 : Ovc Z T115.heap ca "[I" := Ovc.keep fx99 Kq
  have fx148 : Ar Z T115.heap va (.array .double) l2t1 := Ar.keep fx100 Kq (ninS (Nat.ne_of_lt lt73) nin0)
  have fx149 : Ovc Z T115.heap va "[D" := Ovc.keep fx101 Kq
  have fx150 : Ar Z T115.heap la .int [(.int (0 : Int32)), (.int (0 : Int32))] := Ar.keep fx102 Kq (ninS (Nat.ne_of_lt lt74) nin0)
  have fx151 : Ar Z T115.heap lv .double [(.double (FP.l2d ll0)), (.double (FP.l2d ll1))] := Ar.keep fx103 Kq (ninS (Nat.ne_of_lt lt75) nin0)
  have fx152 : Ar Z T115.heap ex .double [(.double (FP.l2d ee0)), (.double (FP.l2d ee1))] := Ar.keep fx104 Kq (ninS (Nat.ne_of_lt lt76) nin0)
  have fx153 : Ar Z T115.heap su .double [(.double (FP.l2d (ll0 - 1))), (.double (FP.l2d (ll1 - 1)))] := Ar.keep fx105 Kq (ninS (Nat.ne_of_lt lt77) nin0)
  have fx154 : Ar Z T115.heap rc .int [(.int (0 : Int32)), (.int (0 : Int32))] := Ar.keep fx106 Kq (ninS (Nat.ne_of_lt lt78) nin0)
  have fx155 : Ar Z T115.heap cc .int [(.int (0 : Int32)), (.int (0 : Int32))] := Ar.keep fx107 Kq (ninS (Nat.ne_of_lt lt79) nin0)
  have fx156 : Ar Z T115.heap a25 .int [(.int (0 : Int32)), (.int (0 : Int32))] := Ar.keep fx108 Kq (ninS (Nat.ne_of_lt lt80) nin0)
  have fx157 : Exa Z T115.heap a25 "[I" := Exa.keep fx109 Kq
  have fx158 : Exa Z T115.heap a67 "java/util/PriorityQueue" := Exa.keep Ea67 Kq
  have N159 := Fr.app N20 Nq
  have Z160 : n0 ≤ T115.heap.size := Nat.le_trans Z110 Kq.1
  show Goes p.tables e below (T115.setTop (mkF m 66 #[.val (.ref p0), .val (.ref a25), .val (.int (0 : Int32)), .unset, .unset, .unset, .unset, .unset, .unset, .unset, .unset, .unset] [(.ref a67)])) _
  refine g_astoreN X115 hx (hb hby d5_66) rfl (l' := #[.val (.ref p0), .val (.ref a25), .val (.ref a67), .unset, .unset, .unset, .unset, .unset, .unset, .unset, .unset, .unset]) rfl ?_
  refine g_iconst X115 hx (0 : Int32) (hb hby d5_67) rfl ?_
  refine g_istoreN X115 hx (hb hby d5_68) (l' := #[.val (.ref p0), .val (.ref a25), .val (.ref a67), .val (.int (0 : Int32)), .unset, .unset, .unset, .unset, .unset, .unset, .unset, .unset]) rfl ?_
  refine g_iloadN X115 hx (hb hby d5_69) rfl ?_
  refine g_aloadN X115 hx (hb hby d5_70) rfl rfl ?_
  refine g_getF X115 hx hZ hown rfl (host := "") (Or.inl (hw _ (List.mem_of_getElem? (i := 9) rfl))) Via.refl fx137 (hb hby d5_71) (fun T161 X161 e161 => ?_)
  show Goes p.tables e below (T161.setTop (mkF m 74 #[.val (.ref p0), .val (.ref a25), .val (.ref a67), .val (.int (0 : Int32)), .unset, .unset, .unset, .unset, .unset, .unset, .unset, .unset] [(.int (2 : Int32)), (.int (0 : Int32))])) _
  refine g_icmp_ge X161 hx (hb hby d5_74) (by decide) (pc' := 106) (by decide) (fun q => absurd (by decide) q) (fun _ => ?_)
  show Goes p.tables e below (T161.setTop (mkF m 77 #[.val (.ref p0), .val (.ref a25), .val (.ref a67), .val (.int (0 : Int32)), .unset, .unset, .unset, .unset, .unset, .unset, .unset, .unset] [])) _
  refine g_aloadN X161 hx (hb hby d5_77) rfl rfl ?_
  refine g_iloadN X161 hx (hb hby d5_78) rfl ?_
  refine g_aloadN X161 hx (hb hby d5_79) rfl rfl ?_
  refine g_iloadN X161 hx (hb hby d5_80) rfl ?_
  refine g_callP X161 hx hZ hown (by rw [hml]; rfl) e161 (hw _ (List.mem_of_getElem? (i := 100) rfl)) (hw _ (List.mem_of_getElem? (i := 101) rfl)) (own_selP (by decide) (hw _ (List.mem_of_getElem? (i := 1) rfl)) (hw _ (List.mem_of_getElem? (i := 102) rfl)) (hw _ (List.mem_of_getElem? (i := 101) rfl))) (hw _ (List.mem_of_getElem? (i := 102) rfl)) (hw _ (List.mem_of_getElem? (i := 2) rfl)) (hw _ (List.mem_of_getElem? (i := 103) rfl)) fx136 (rmCost0 l Z a0 hw p0 T115.heap n0 Z160 la cc fx140 fx145 fx150 fx155) [(.int (0 : Int32))] rfl [(.int (0 : Int32)), (.ref a25)] rfl (lenOf pd_15 rfl) (hb hby d5_81) (by decide) 2 (by decide) (by decide) (by first | decide | exact Nat.le_refl _) (by decide) (by decide) (fun v T162 L162 X162 hQ162 => ?_)
  obtain ⟨rfl, e162, rfl⟩ := hQ162
  have N163 := Fr.app N159 (Fr.nil n0)
  show Goes p.tables e below (T162.setTop (mkF m 84 #[.val (.ref p0), .val (.ref a25), .val (.ref a67), .val (.int (0 : Int32)), .unset, .unset, .unset, .unset, .unset, .unset, .unset, .unset] [(.int (0 : Int32)), (.int (0 : Int32)), (.ref a25)])) _
  refine g_iastore X162 hx hZ e162 fx156 0 (by decide) (by show 0 < 2; decide) (hb hby d5_84) (fun T164 h164 X164 e164 W164 A164 => ?_)
  have fx165 : Sta Z h164 "java/lang/Long$LongCache" "cache" "[Ljava/lang/Long;" (.ref lc) := Sta.wr W164 fx130
  have fx166 : Ar Z h164 lc (.object "java/lang/Long") cl := Ar.other fx131 W164 (Nat.ne_of_lt lt26)
  have fx167 : Exa Z h164 x0 "java/lang/Long" := Exa.wr W164 fx132
  have fx168 : Exa Z h164 x1 "java/lang/Long" := Exa.wr W164 fx133
  have fx169 : Fld Z h164 x0 "java/lang/Long" "value" "J" (.long (0 : Int64)) := Fld.other W164 fx134 (Or.inl (Nat.ne_of_lt lt27))
  have fx170 : Fld Z h164 x1 "java/lang/Long" "value" "J" (.long (1 : Int64)) := Fld.other W164 fx135 (Or.inl (Nat.ne_of_lt lt28))
  have fx171 : Exa Z h164 p0 "com/example/hold/hold/check/ComponentSolver" := Exa.wr W164 fx136
  have fx172 : Fld Z h164 p0 "com/example/hold/hold/check/ComponentSolver" "size" "I" (.int (2 : Int32)) := Fld.other W164 fx137 (Or.inl (Nat.ne_of_lt lt29))
  have fx173 : Fld Z h164 p0 "com/example/hold/hold/check/ComponentSolver" "columns" "[[I" (.ref ca) := Fld.other W164 fx138 (Or.inl (Nat.ne_of_lt lt29))
  have fx174 : Fld Z h164 p0 "com/example/hold/hold/check/ComponentSolver" "values" "[[D" (.ref va) := Fld.other W164 fx139 (Or.inl (Nat.ne_of_lt lt29))
  have fx175 : Fld Z h164 p0 "com/example/hold/hold/check/ComponentSolver" "length" "[I" (.ref la) := Fld.other W164 fx140 (Or.inl (Nat.ne_of_lt lt29))
  have fx176 : Fld Z h164 p0 "com/example/hold/hold/check/ComponentSolver" "leaving" "[D" (.ref lv) := Fld.other W164 fx141 (Or.inl (Nat.ne_of_lt lt29))
  have fx177 : Fld Z h164 p0 "com/example/hold/hold/check/ComponentSolver" "exits" "[D" (.ref ex) := Fld.other W164 fx142 (Or.inl (Nat.ne_of_lt lt29))
  have fx178 : Fld Z h164 p0 "com/example/hold/hold/check/ComponentSolver" "surplus" "[D" (.ref su) := Fld.other W164 fx143 (Or.inl (Nat.ne_of_lt lt29))
  have fx179 : Fld Z h164 p0 "com/example/hold/hold/check/ComponentSolver" "rowsUsingCount" "[I" (.ref rc) := Fld.other W164 fx144 (Or.inl (Nat.ne_of_lt lt29))
  have fx180 : Fld Z h164 p0 "com/example/hold/hold/check/ComponentSolver" "columnCount" "[I" (.ref cc) := Fld.other W164 fx145 (Or.inl (Nat.ne_of_lt lt29))
  have fx181 : Ar Z h164 ca (.array .int) l1t1 := Ar.other fx146 W164 (Nat.ne_of_lt lt30)
  have fx182 : Ovc Z h164 ca "[I" := Ovc.wr fx147 W164
  have fx183 : Ar Z h164 va (.array .double) l2t1 := Ar.other fx148 W164 (Nat.ne_of_lt lt31)
  have fx184 : Ovc Z h164 va "[D" := Ovc.wr fx149 W164
  have fx185 : Ar Z h164 la .int [(.int (0 : Int32)), (.int (0 : Int32))] := Ar.other fx150 W164 (Nat.ne_of_lt lt32)
  have fx186 : Ar Z h164 lv .double [(.double (FP.l2d ll0)), (.double (FP.l2d ll1))] := Ar.other fx151 W164 (Nat.ne_of_lt lt33)
  have fx187 : Ar Z h164 ex .double [(.double (FP.l2d ee0)), (.double (FP.l2d ee1))] := Ar.other fx152 W164 (Nat.ne_of_lt lt34)
  have fx188 : Ar Z h164 su .double [(.double (FP.l2d (ll0 - 1))), (.double (FP.l2d (ll1 - 1)))] := Ar.other fx153 W164 (Nat.ne_of_lt lt35)
  have fx189 : Ar Z h164 rc .int [(.int (0 : Int32)), (.int (0 : Int32))] := Ar.other fx154 W164 (Nat.ne_of_lt lt36)
  have fx190 : Ar Z h164 cc .int [(.int (0 : Int32)), (.int (0 : Int32))] := Ar.other fx155 W164 (Nat.ne_of_lt lt37)
  have fx191 : Exa Z h164 a25 "[I" := Exa.wr W164 fx157
  have fx192 : Exa Z h164 a67 "java/util/PriorityQueue" := Exa.wr W164 fx158
  have fx193 : Fld Z h164 a67 "java/util/PriorityQueue" "queue" "[Ljava/lang/Object;" (.ref qa) := Fld.other W164 q1 (Or.inl (Ne.symm (Nat.ne_of_lt lt80)))
  have fx194 : Fld Z h164 a67 "java/util/PriorityQueue" "size" "I" (.int (0 : Int32)) := Fld.other W164 q2 (Or.inl (Ne.symm (Nat.ne_of_lt lt80)))
  have fx195 : Fld Z h164 a67 "java/util/PriorityQueue" "comparator" "Ljava/util/Comparator;" .null := Fld.other W164 q3 (Or.inl (Ne.symm (Nat.ne_of_lt lt80)))
  have fx196 : Fld Z h164 a67 "java/util/PriorityQueue" "modCount" "I" (.int (0 : Int32)) := Fld.other W164 q4 (Or.inl (Ne.symm (Nat.ne_of_lt lt80)))
  have fx197 : Ar Z h164 qa (.object "java/lang/Object") [.null, .null, .null, .null, .null, .null, .null, .null, .null, .null, .null] := Ar.other q5 W164 (Ne.symm (Nat.ne_of_lt lt128))
  have fx198 : Ovc Z h164 qa "java/lang/Object" := Ovc.wr Oq W164
  have fx199 : Ar Z h164 a25 .int [(.int (0 : Int32)), (.int (0 : Int32))] := A164
  have N200 := Fr.snoc X164 N163 ge38
  have Z201 : n0 ≤ h164.size := by rw [W164.size]; exact Z160
  show Goes p.tables e below (T164.setTop (mkF m 85 #[.val (.ref p0), .val (.ref a25), .val (.ref a67), .val (.int (0 : Int32)), .unset, .unset, .unset, .unset, .unset, .unset, .unset, .unset] [])) _
  refine g_aloadN X164 hx (hb hby d5_85) rfl rfl ?_
  refine g_aloadN X164 hx (hb hby d5_86) rfl rfl ?_
  refine g_iloadN X164 hx (hb hby d5_87) rfl ?_
  refine g_iaload X164 hx hZ e164 fx199 (i := 0) (v := (.int (0 : Int32))) (by decide) rfl (hb hby d5_88) ?_
  show Goes p.tables e below (T164.setTop (mkF m 89 #[.val (.ref p0), .val (.ref a25), .val (.ref a67), .val (.int (0 : Int32)), .unset, .unset, .unset, .unset, .unset, .unset, .unset, .unset] [(.int (0 : Int32)), (.ref a67)])) _
  refine g_iloadN X164 hx (hb hby d5_89) rfl ?_
  refine g_callS X164 hx hZ hown (by rw [hml]; rfl) e164 (hw _ (List.mem_of_getElem? (i := 109) rfl)) (hw _ (List.mem_of_getElem? (i := 110) rfl)) (hw _ (List.mem_of_getElem? (i := 2) rfl)) (hw _ (List.mem_of_getElem? (i := 111) rfl)) (rmEn0 l Z a0 hw h164 n0 Z201) [(.int (0 : Int32)), (.int (0 : Int32))] rfl [(.ref a67)] rfl (lenOf pd_17 rfl) (hb hby d5_90) (by decide) 1 (by decide) (by decide) (by first | decide | exact Nat.le_refl _) (by decide) (by decide) (fun v T202 L202 X202 hQ202 => ?_)
  obtain ⟨rfl, e202, rfl⟩ := hQ202
  have N203 := Fr.app N200 (Fr.nil n0)
  show Goes p.tables e below (T202.setTop (mkF m 93 #[.val (.ref p0), .val (.ref a25), .val (.ref a67), .val (.int (0 : Int32)), .unset, .unset, .unset, .unset, .unset, .unset, .unset, .unset] [(.long (0 : Int64)), (.ref a67)])) _
  refine g_callS X202 hx hZ hown (by rw [hml]; rfl) e202 (hw _ (List.mem_of_getElem? (i := 112) rfl)) (hw _ (List.mem_of_getElem? (i := 113) rfl)) (hw _ (List.mem_of_getElem? (i := 114) rfl)) (hw _ (List.mem_of_getElem? (i := 115) rfl)) (rmVO0 l Z a0 hw h164 n0 Z201 lc x0 cl fx165 fx166 hc0) [(.long (0 : Int64))] rfl [(.ref a67)] rfl (lenOf pd_18 rfl) (hb hby d5_93) (by decide) 1 (by decide) (by decide) (by first | decide | exact Nat.le_refl _) (by decide) (by decide) (fun v T204 L204 X204 hQ204 => ?_)
  obtain ⟨rfl, e204, rfl⟩ := hQ204
  have N205 := Fr.app N203 (Fr.nil n0)
  show Goes p.tables e below (T204.setTop (mkF m 96 #[.val (.ref p0), .val (.ref a25), .val (.ref a67), .val (.int (0 : Int32)), .unset, .unset, .unset, .unset, .unset, .unset, .unset, .unset] [(.ref x0), (.ref a67)])) _
  refine g_callV X204 hx hZ hown (by rw [hml]; rfl) e204 (K := "java/util/PriorityQueue") (hw _ (List.mem_of_getElem? (i := 120) rfl)) (hw _ (List.mem_of_getElem? (i := 121) rfl)) (hw _ (List.mem_of_getElem? (i := 123) rfl)) (hw _ (List.mem_of_getElem? (i := 122) rfl)) (hw _ (List.mem_of_getElem? (i := 73) rfl)) (hw _ (List.mem_of_getElem? (i := 124) rfl)) fx192 (rmAd0 l Z a0 hw a67 x0 h164 n0 Z201 qa fx193 fx194 fx195 fx196 fx192 fx197 fx198 ge81 gqa (Ne.symm (Nat.ne_of_lt lt129)) fx167 (Nat.ne_of_lt lt69)) [(.ref x0)] rfl [] rfl (lenOf pd_19 rfl) (hb hby d5_96) (by decide) 0 (by decide) (by decide) (by first | decide | exact Nat.le_refl _) (by decide) (by decide) (fun v T206 L206 X206 hQ206 => ?_)
  obtain ⟨rfl, Nd0, Kd0, u01, u02, u03, u04, u05⟩ := hQ206
  have fx207 : Sta Z T206.heap "java/lang/Long$LongCache" "cache" "[Ljava/lang/Long;" (.ref lc) := own_stakeep fx165 Kd0 (allS (own_nst fx192) (allS (own_nstA fx197) all0))
  have fx208 : Ar Z T206.heap lc (.object "java/lang/Long") cl := Ar.keep fx166 Kd0 (ninS (Nat.ne_of_lt lt68) (ninS (Nat.ne_of_lt lt116) nin0))
  have fx209 : Exa Z T206.heap x0 "java/lang/Long" := Exa.keep fx167 Kd0
  have fx210 : Exa Z T206.heap x1 "java/lang/Long" := Exa.keep fx168 Kd0
  have fx211 : Fld Z T206.heap x0 "java/lang/Long" "value" "J" (.long (0 : Int64)) := Fld.keep fx169 Kd0 (ninS (Nat.ne_of_lt lt69) (ninS (Nat.ne_of_lt lt117) nin0))
  have fx212 : Fld Z T206.heap x1 "java/lang/Long" "value" "J" (.long (1 : Int64)) := Fld.keep fx170 Kd0 (ninS (Nat.ne_of_lt lt70) (ninS (Nat.ne_of_lt lt118) nin0))
  have fx213 : Exa Z T206.heap p0 "com/example/hold/hold/check/ComponentSolver" := Exa.keep fx171 Kd0
  have fx214 : Fld Z T206.heap p0 "com/example/hold/hold/check/ComponentSolver" "size" "I" (.int (2 : Int32)) := Fld.keep fx172 Kd0 (ninS (Nat.ne_of_lt lt71) (ninS (Nat.ne_of_lt lt119) nin0))
  have fx215 : Fld Z T206.heap p0 "com/example/hold/hold/check/ComponentSolver" "columns" "[[I" (.ref ca) := Fld.keep fx173 Kd0 (ninS (Nat.ne_of_lt lt71) (ninS (Nat.ne_of_lt lt119) nin0))
  have fx216 : Fld Z T206.heap p0 "com/example/hold/hold/check/ComponentSolver" "values" "[[D" (.ref va) := Fld.keep fx174 Kd0 (ninS (Nat.ne_of_lt lt71) (ninS (Nat.ne_of_lt lt119) nin0))
  have fx217 : Fld Z T206.heap p0 "com/example/hold/hold/check/ComponentSolver" "length" "[I" (.ref la) := Fld.keep fx175 Kd0 (ninS (Nat.ne_of_lt lt71) (ninS (Nat.ne_of_lt lt119) nin0))
  have fx218 : Fld Z T206.heap p0 "com/example/hold/hold/check/ComponentSolver" "leaving" "[D" (.ref lv) := Fld.keep fx176 Kd0 (ninS (Nat.ne_of_lt lt71) (ninS (Nat.ne_of_lt lt119) nin0))
  have fx219 : Fld Z T206.heap p0 "com/example/hold/hold/check/ComponentSolver" "exits" "[D" (.ref ex) := Fld.keep fx177 Kd0 (ninS (Nat.ne_of_lt lt71) (ninS (Nat.ne_of_lt lt119) nin0))
  have fx220 : Fld Z T206.heap p0 "com/example/hold/hold/check/ComponentSolver" "surplus" "[D" (.ref su) := Fld.keep fx178 Kd0 (ninS (Nat.ne_of_lt lt71) (ninS (Nat.ne_of_lt lt119) nin0))
  have fx221 : Fld Z T206.heap p0 "com/example/hold/hold/check/ComponentSolver" "rowsUsingCount" "[I" (.ref rc) := Fld.keep fx179 Kd0 (ninS (Nat.ne_of_lt lt71) (ninS (Nat.ne_of_lt lt119) nin0))
  have fx222 : Fld Z T206.heap p0 "com/example/hold/hold/check/ComponentSolver" "columnCount" "[I" (.ref cc) := Fld.keep fx180 Kd0 (ninS (Nat.ne_of_lt lt71) (ninS (Nat.ne_of_lt lt119) nin0))
  have fx223 : Ar Z T206.heap ca (.array .int) l1t1 := Ar.keep fx181 Kd0 (ninS (Nat.ne_of_lt lt72) (ninS (Nat.ne_of_lt lt120) nin0))
  have fx224 : Ovc Z T206.heap ca "[I" := Ovc.keep fx182 Kd0
  have fx225 : Ar Z T206.heap va (.array .double) l2t1 := Ar.keep fx183 Kd0 (ninS (Nat.ne_of_lt lt73) (ninS (Nat.ne_of_lt lt121) nin0))
  have fx226 : Ovc Z T206.heap va "[D" := Ovc.keep fx184 Kd0
  have fx227 : Ar Z T206.heap la .int [(.int (0 : Int32)), (.int (0 : Int32))] := Ar.keep fx185 Kd0 (ninS (Nat.ne_of_lt lt74) (ninS (Nat.ne_of_lt lt122) nin0))
  have fx228 : Ar Z T206.heap lv .double [(.double (FP.l2d ll0)), (.double (FP.l2d ll1))] := Ar.keep fx186 Kd0 (ninS (Nat.ne_of_lt lt75) (ninS (Nat.ne_of_lt lt123) nin0))
  have fx229 : Ar Z T206.heap ex .double [(.double (FP.l2d ee0)), (.double (FP.l2d ee1))] := Ar.keep fx187 Kd0 (ninS (Nat.ne_of_lt lt76) (ninS (Nat.ne_of_lt lt124) nin0))
  have fx230 : Ar Z T206.heap su .double [(.double (FP.l2d (ll0 - 1))), (.double (FP.l2d (ll1 - 1)))] := Ar.keep fx188 Kd0 (ninS (Nat.ne_of_lt lt77) (ninS (Nat.ne_of_lt lt125) nin0))
  have fx231 : Ar Z T206.heap rc .int [(.int (0 : Int32)), (.int (0 : Int32))] := Ar.keep fx189 Kd0 (ninS (Nat.ne_of_lt lt78) (ninS (Nat.ne_of_lt lt126) nin0))
  have fx232 : Ar Z T206.heap cc .int [(.int (0 : Int32)), (.int (0 : Int32))] := Ar.keep fx190 Kd0 (ninS (Nat.ne_of_lt lt79) (ninS (Nat.ne_of_lt lt127) nin0))
  have fx233 : Exa Z T206.heap a25 "[I" := Exa.keep fx191 Kd0
  have fx234 : Exa Z T206.heap a67 "java/util/PriorityQueue" := Exa.keep fx192 Kd0
  have fx235 : Ovc Z T206.heap qa "java/lang/Object" := Ovc.keep fx198 Kd0
  have fx236 : Ar Z T206.heap a25 .int [(.int (0 : Int32)), (.int (0 : Int32))] := Ar.keep fx199 Kd0 (ninS (Nat.ne_of_lt lt80) (ninS (Nat.ne_of_lt lt128) nin0))
  have N237 := Fr.app N205 Nd0
  have Z238 : n0 ≤ T206.heap.size := Nat.le_trans Z201 Kd0.1
  show Goes p.tables e below (T206.setTop (mkF m 99 #[.val (.ref p0), .val (.ref a25), .val (.ref a67), .val (.int (0 : Int32)), .unset, .unset, .unset, .unset, .unset, .unset, .unset, .unset] [(.int (1 : Int32))])) _
  refine g_pop X206 hx (hb hby d5_99) rfl ?_
  refine g_iinc X206 hx (1 : Int32) (hb hby d5_100) rfl rfl (l' := #[.val (.ref p0), .val (.ref a25), .val (.ref a67), .val (.int (1 : Int32)), .unset, .unset, .unset, .unset, .unset, .unset, .unset, .unset]) rfl ?_
  refine g_goto X206 hx (hb hby d5_103) (by decide) (pc' := 69) (by decide) ?_
  refine g_iloadN X206 hx (hb hby d5_69) rfl ?_
  refine g_aloadN X206 hx (hb hby d5_70) rfl rfl ?_
  refine g_getF X206 hx hZ hown rfl (host := "") (Or.inl (hw _ (List.mem_of_getElem? (i := 9) rfl))) Via.refl fx214 (hb hby d5_71) (fun T239 X239 e239 => ?_)
  show Goes p.tables e below (T239.setTop (mkF m 74 #[.val (.ref p0), .val (.ref a25), .val (.ref a67), .val (.int (1 : Int32)), .unset, .unset, .unset, .unset, .unset, .unset, .unset, .unset] [(.int (2 : Int32)), (.int (1 : Int32))])) _
  refine g_icmp_ge X239 hx (hb hby d5_74) (by decide) (pc' := 106) (by decide) (fun q => absurd (by decide) q) (fun _ => ?_)
  show Goes p.tables e below (T239.setTop (mkF m 77 #[.val (.ref p0), .val (.ref a25), .val (.ref a67), .val (.int (1 : Int32)), .unset, .unset, .unset, .unset, .unset, .unset, .unset, .unset] [])) _
  refine g_aloadN X239 hx (hb hby d5_77) rfl rfl ?_
  refine g_iloadN X239 hx (hb hby d5_78) rfl ?_
  refine g_aloadN X239 hx (hb hby d5_79) rfl rfl ?_
  refine g_iloadN X239 hx (hb hby d5_80) rfl ?_
  refine g_callP X239 hx hZ hown (by rw [hml]; rfl) e239 (hw _ (List.mem_of_getElem? (i := 100) rfl)) (hw _ (List.mem_of_getElem? (i := 101) rfl)) (own_selP (by decide) (hw _ (List.mem_of_getElem? (i := 1) rfl)) (hw _ (List.mem_of_getElem? (i := 102) rfl)) (hw _ (List.mem_of_getElem? (i := 101) rfl))) (hw _ (List.mem_of_getElem? (i := 102) rfl)) (hw _ (List.mem_of_getElem? (i := 2) rfl)) (hw _ (List.mem_of_getElem? (i := 103) rfl)) fx213 (rmCost1 l Z a0 hw p0 T206.heap n0 Z238 la cc fx217 fx222 fx227 fx232) [(.int (1 : Int32))] rfl [(.int (1 : Int32)), (.ref a25)] rfl (lenOf pd_15 rfl) (hb hby d5_81) (by decide) 2 (by decide) (by decide) (by first | decide | exact Nat.le_refl _) (by decide) (by decide) (fun v T240 L240 X240 hQ240 => ?_)
  obtain ⟨rfl, e240, rfl⟩ := hQ240
  have N241 := Fr.app N237 (Fr.nil n0)
  show Goes p.tables e below (T240.setTop (mkF m 84 #[.val (.ref p0), .val (.ref a25), .val (.ref a67), .val (.int (1 : Int32)), .unset, .unset, .unset, .unset, .unset, .unset, .unset, .unset] [(.int (0 : Int32)), (.int (1 : Int32)), (.ref a25)])) _
  refine g_iastore X240 hx hZ e240 fx236 1 (by decide) (by show 1 < 2; decide) (hb hby d5_84) (fun T242 h242 X242 e242 W242 A242 => ?_)
  have fx243 : Sta Z h242 "java/lang/Long$LongCache" "cache" "[Ljava/lang/Long;" (.ref lc) := Sta.wr W242 fx207
  have fx244 : Ar Z h242 lc (.object "java/lang/Long") cl := Ar.other fx208 W242 (Nat.ne_of_lt lt26)
  have fx245 : Exa Z h242 x0 "java/lang/Long" := Exa.wr W242 fx209
  have fx246 : Exa Z h242 x1 "java/lang/Long" := Exa.wr W242 fx210
  have fx247 : Fld Z h242 x0 "java/lang/Long" "value" "J" (.long (0 : Int64)) := Fld.other W242 fx211 (Or.inl (Nat.ne_of_lt lt27))
  have fx248 : Fld Z h242 x1 "java/lang/Long" "value" "J" (.long (1 : Int64)) := Fld.other W242 fx212 (Or.inl (Nat.ne_of_lt lt28))
  have fx249 : Exa Z h242 p0 "com/example/hold/hold/check/ComponentSolver" := Exa.wr W242 fx213
  have fx250 : Fld Z h242 p0 "com/example/hold/hold/check/ComponentSolver" "size" "I" (.int (2 : Int32)) := Fld.other W242 fx214 (Or.inl (Nat.ne_of_lt lt29))
  have fx251 : Fld Z h242 p0 "com/example/hold/hold/check/ComponentSolver" "columns" "[[I" (.ref ca) := Fld.other W242 fx215 (Or.inl (Nat.ne_of_lt lt29))
  have fx252 : Fld Z h242 p0 "com/example/hold/hold/check/ComponentSolver" "values" "[[D" (.ref va) := Fld.other W242 fx216 (Or.inl (Nat.ne_of_lt lt29))
  have fx253 : Fld Z h242 p0 "com/example/hold/hold/check/ComponentSolver" "length" "[I" (.ref la) := Fld.other W242 fx217 (Or.inl (Nat.ne_of_lt lt29))
  have fx254 : Fld Z h242 p0 "com/example/hold/hold/check/ComponentSolver" "leaving" "[D" (.ref lv) := Fld.other W242 fx218 (Or.inl (Nat.ne_of_lt lt29))
  have fx255 : Fld Z h242 p0 "com/example/hold/hold/check/ComponentSolver" "exits" "[D" (.ref ex) := Fld.other W242 fx219 (Or.inl (Nat.ne_of_lt lt29))
  have fx256 : Fld Z h242 p0 "com/example/hold/hold/check/ComponentSolver" "surplus" "[D" (.ref su) := Fld.other W242 fx220 (Or.inl (Nat.ne_of_lt lt29))
  have fx257 : Fld Z h242 p0 "com/example/hold/hold/check/ComponentSolver" "rowsUsingCount" "[I" (.ref rc) := Fld.other W242 fx221 (Or.inl (Nat.ne_of_lt lt29))
  have fx258 : Fld Z h242 p0 "com/example/hold/hold/check/ComponentSolver" "columnCount" "[I" (.ref cc) := Fld.other W242 fx222 (Or.inl (Nat.ne_of_lt lt29))
  have fx259 : Ar Z h242 ca (.array .int) l1t1 := Ar.other fx223 W242 (Nat.ne_of_lt lt30)
  have fx260 : Ovc Z h242 ca "[I" := Ovc.wr fx224 W242
  have fx261 : Ar Z h242 va (.array .double) l2t1 := Ar.other fx225 W242 (Nat.ne_of_lt lt31)
  have fx262 : Ovc Z h242 va "[D" := Ovc.wr fx226 W242
  have fx263 : Ar Z h242 la .int [(.int (0 : Int32)), (.int (0 : Int32))] := Ar.other fx227 W242 (Nat.ne_of_lt lt32)
  have fx264 : Ar Z h242 lv .double [(.double (FP.l2d ll0)), (.double (FP.l2d ll1))] := Ar.other fx228 W242 (Nat.ne_of_lt lt33)
  have fx265 : Ar Z h242 ex .double [(.double (FP.l2d ee0)), (.double (FP.l2d ee1))] := Ar.other fx229 W242 (Nat.ne_of_lt lt34)
  have fx266 : Ar Z h242 su .double [(.double (FP.l2d (ll0 - 1))), (.double (FP.l2d (ll1 - 1)))] := Ar.other fx230 W242 (Nat.ne_of_lt lt35)
  have fx267 : Ar Z h242 rc .int [(.int (0 : Int32)), (.int (0 : Int32))] := Ar.other fx231 W242 (Nat.ne_of_lt lt36)
  have fx268 : Ar Z h242 cc .int [(.int (0 : Int32)), (.int (0 : Int32))] := Ar.other fx232 W242 (Nat.ne_of_lt lt37)
  have fx269 : Exa Z h242 a25 "[I" := Exa.wr W242 fx233
  have fx270 : Exa Z h242 a67 "java/util/PriorityQueue" := Exa.wr W242 fx234
  have fx271 : Ovc Z h242 qa "java/lang/Object" := Ovc.wr fx235 W242
  have fx272 : Fld Z h242 a67 "java/util/PriorityQueue" "queue" "[Ljava/lang/Object;" (.ref qa) := Fld.other W242 u01 (Or.inl (Ne.symm (Nat.ne_of_lt lt80)))
  have fx273 : Fld Z h242 a67 "java/util/PriorityQueue" "size" "I" (.int (1 : Int32)) := Fld.other W242 u02 (Or.inl (Ne.symm (Nat.ne_of_lt lt80)))
  have fx274 : Fld Z h242 a67 "java/util/PriorityQueue" "comparator" "Ljava/util/Comparator;" .null := Fld.other W242 u03 (Or.inl (Ne.symm (Nat.ne_of_lt lt80)))
  have fx275 : Fld Z h242 a67 "java/util/PriorityQueue" "modCount" "I" (.int (1 : Int32)) := Fld.other W242 u04 (Or.inl (Ne.symm (Nat.ne_of_lt lt80)))
  have fx276 : Ar Z h242 qa (.object "java/lang/Object") [(.ref x0), .null, .null, .null, .null, .null, .null, .null, .null, .null, .null] := Ar.other u05 W242 (Ne.symm (Nat.ne_of_lt lt128))
  have fx277 : Ar Z h242 a25 .int [(.int (0 : Int32)), (.int (0 : Int32))] := A242
  have N278 := Fr.snoc X242 N241 ge38
  have Z279 : n0 ≤ h242.size := by rw [W242.size]; exact Z238
  show Goes p.tables e below (T242.setTop (mkF m 85 #[.val (.ref p0), .val (.ref a25), .val (.ref a67), .val (.int (1 : Int32)), .unset, .unset, .unset, .unset, .unset, .unset, .unset, .unset] [])) _
  refine g_aloadN X242 hx (hb hby d5_85) rfl rfl ?_
  refine g_aloadN X242 hx (hb hby d5_86) rfl rfl ?_
  refine g_iloadN X242 hx (hb hby d5_87) rfl ?_
  refine g_iaload X242 hx hZ e242 fx277 (i := 1) (v := (.int (0 : Int32))) (by decide) rfl (hb hby d5_88) ?_
  show Goes p.tables e below (T242.setTop (mkF m 89 #[.val (.ref p0), .val (.ref a25), .val (.ref a67), .val (.int (1 : Int32)), .unset, .unset, .unset, .unset, .unset, .unset, .unset, .unset] [(.int (0 : Int32)), (.ref a67)])) _
  refine g_iloadN X242 hx (hb hby d5_89) rfl ?_
  refine g_callS X242 hx hZ hown (by rw [hml]; rfl) e242 (hw _ (List.mem_of_getElem? (i := 109) rfl)) (hw _ (List.mem_of_getElem? (i := 110) rfl)) (hw _ (List.mem_of_getElem? (i := 2) rfl)) (hw _ (List.mem_of_getElem? (i := 111) rfl)) (rmEn1 l Z a0 hw h242 n0 Z279) [(.int (0 : Int32)), (.int (1 : Int32))] rfl [(.ref a67)] rfl (lenOf pd_17 rfl) (hb hby d5_90) (by decide) 1 (by decide) (by decide) (by first | decide | exact Nat.le_refl _) (by decide) (by decide) (fun v T280 L280 X280 hQ280 => ?_)
  obtain ⟨rfl, e280, rfl⟩ := hQ280
  have N281 := Fr.app N278 (Fr.nil n0)
  show Goes p.tables e below (T280.setTop (mkF m 93 #[.val (.ref p0), .val (.ref a25), .val (.ref a67), .val (.int (1 : Int32)), .unset, .unset, .unset, .unset, .unset, .unset, .unset, .unset] [(.long (1 : Int64)), (.ref a67)])) _
  refine g_callS X280 hx hZ hown (by rw [hml]; rfl) e280 (hw _ (List.mem_of_getElem? (i := 112) rfl)) (hw _ (List.mem_of_getElem? (i := 113) rfl)) (hw _ (List.mem_of_getElem? (i := 114) rfl)) (hw _ (List.mem_of_getElem? (i := 115) rfl)) (rmVO1 l Z a0 hw h242 n0 Z279 lc x1 cl fx243 fx244 hc1) [(.long (1 : Int64))] rfl [(.ref a67)] rfl (lenOf pd_18 rfl) (hb hby d5_93) (by decide) 1 (by decide) (by decide) (by first | decide | exact Nat.le_refl _) (by decide) (by decide) (fun v T282 L282 X282 hQ282 => ?_)
  obtain ⟨rfl, e282, rfl⟩ := hQ282
  have N283 := Fr.app N281 (Fr.nil n0)
  show Goes p.tables e below (T282.setTop (mkF m 96 #[.val (.ref p0), .val (.ref a25), .val (.ref a67), .val (.int (1 : Int32)), .unset, .unset, .unset, .unset, .unset, .unset, .unset, .unset] [(.ref x1), (.ref a67)])) _
  refine g_callV X282 hx hZ hown (by rw [hml]; rfl) e282 (K := "java/util/PriorityQueue") (hw _ (List.mem_of_getElem? (i := 120) rfl)) (hw _ (List.mem_of_getElem? (i := 121) rfl)) (hw _ (List.mem_of_getElem? (i := 123) rfl)) (hw _ (List.mem_of_getElem? (i := 122) rfl)) (hw _ (List.mem_of_getElem? (i := 73) rfl)) (hw _ (List.mem_of_getElem? (i := 124) rfl)) fx270 (rmAd1 l Z a0 hw a67 x1 h242 n0 Z279 x0 qa fx272 fx273 fx274 fx275 fx270 fx276 fx271 ge81 gqa (Ne.symm (Nat.ne_of_lt lt129)) fx246 fx248 fx245 fx247 (Nat.ne_of_lt lt70) (Nat.ne_of_lt lt69)) [(.ref x1)] rfl [] rfl (lenOf pd_19 rfl) (hb hby d5_96) (by decide) 0 (by decide) (by decide) (by first | decide | exact Nat.le_refl _) (by decide) (by decide) (fun v T284 L284 X284 hQ284 => ?_)
  obtain ⟨rfl, Nd1, Kd1, u11, u12, u13, u14, u15⟩ := hQ284
  have fx285 : Sta Z T284.heap "java/lang/Long$LongCache" "cache" "[Ljava/lang/Long;" (.ref lc) := own_stakeep fx243 Kd1 (allS (own_nst fx270) (allS (own_nstA fx276) all0))
  have fx286 : Ar Z T284.heap lc (.object "java/lang/Long") cl := Ar.keep fx244 Kd1 (ninS (Nat.ne_of_lt lt68) (ninS (Nat.ne_of_lt lt116) nin0))
  have fx287 : Exa Z T284.heap x0 "java/lang/Long" := Exa.keep fx245 Kd1
  have fx288 : Exa Z T284.heap x1 "java/lang/Long" := Exa.keep fx246 Kd1
  have fx289 : Fld Z T284.heap x0 "java/lang/Long" "value" "J" (.long (0 : Int64)) := Fld.keep fx247 Kd1 (ninS (Nat.ne_of_lt lt69) (ninS (Nat.ne_of_lt lt117) nin0))
  have fx290 : Fld Z T284.heap x1 "java/lang/Long" "value" "J" (.long (1 : Int64)) := Fld.keep fx248 Kd1 (ninS (Nat.ne_of_lt lt70) (ninS (Nat.ne_of_lt lt118) nin0))
  have fx291 : Exa Z T284.heap p0 "com/example/hold/hold/check/ComponentSolver" := Exa.keep fx249 Kd1
  have fx292 : Fld Z T284.heap p0 "com/example/hold/hold/check/ComponentSolver" "size" "I" (.int (2 : Int32)) := Fld.keep fx250 Kd1 (ninS (Nat.ne_of_lt lt71) (ninS (Nat.ne_of_lt lt119) nin0))
  have fx293 : Fld Z T284.heap p0 "com/example/hold/hold/check/ComponentSolver" "columns" "[[I" (.ref ca) := Fld.keep fx251 Kd1 (ninS (Nat.ne_of_lt lt71) (ninS (Nat.ne_of_lt lt119) nin0))
  have fx294 : Fld Z T284.heap p0 "com/example/hold/hold/check/ComponentSolver" "values" "[[D" (.ref va) := Fld.keep fx252 Kd1 (ninS (Nat.ne_of_lt lt71) (ninS (Nat.ne_of_lt lt119) nin0))
  have fx295 : Fld Z T284.heap p0 "com/example/hold/hold/check/ComponentSolver" "length" "[I" (.ref la) := Fld.keep fx253 Kd1 (ninS (Nat.ne_of_lt lt71) (ninS (Nat.ne_of_lt lt119) nin0))
  have fx296 : Fld Z T284.heap p0 "com/example/hold/hold/check/ComponentSolver" "leaving" "[D" (.ref lv) := Fld.keep fx254 Kd1 (ninS (Nat.ne_of_lt lt71) (ninS (Nat.ne_of_lt lt119) nin0))
  have fx297 : Fld Z T284.heap p0 "com/example/hold/hold/check/ComponentSolver" "exits" "[D" (.ref ex) := Fld.keep fx255 Kd1 (ninS (Nat.ne_of_lt lt71) (ninS (Nat.ne_of_lt lt119) nin0))
  have fx298 : Fld Z T284.heap p0 "com/example/hold/hold/check/ComponentSolver" "surplus" "[D" (.ref su) := Fld.keep fx256 Kd1 (ninS (Nat.ne_of_lt lt71) (ninS (Nat.ne_of_lt lt119) nin0))
  have fx299 : Fld Z T284.heap p0 "com/example/hold/hold/check/ComponentSolver" "rowsUsingCount" "[I" (.ref rc) := Fld.keep fx257 Kd1 (ninS (Nat.ne_of_lt lt71) (ninS (Nat.ne_of_lt lt119) nin0))
  have fx300 : Fld Z T284.heap p0 "com/example/hold/hold/check/ComponentSolver" "columnCount" "[I" (.ref cc) := Fld.keep fx258 Kd1 (ninS (Nat.ne_of_lt lt71) (ninS (Nat.ne_of_lt lt119) nin0))
  have fx301 : Ar Z T284.heap ca (.array .int) l1t1 := Ar.keep fx259 Kd1 (ninS (Nat.ne_of_lt lt72) (ninS (Nat.ne_of_lt lt120) nin0))
  have fx302 : Ovc Z T284.heap ca "[I" := Ovc.keep fx260 Kd1
  have fx303 : Ar Z T284.heap va (.array .double) l2t1 := Ar.keep fx261 Kd1 (ninS (Nat.ne_of_lt lt73) (ninS (Nat.ne_of_lt lt121) nin0))
  have fx304 : Ovc Z T284.heap va "[D" := Ovc.keep fx262 Kd1
  have fx305 : Ar Z T284.heap la .int [(.int (0 : Int32)), (.int (0 : Int32))] := Ar.keep fx263 Kd1 (ninS (Nat.ne_of_lt lt74) (ninS (Nat.ne_of_lt lt122) nin0))
  have fx306 : Ar Z T284.heap lv .double [(.double (FP.l2d ll0)), (.double (FP.l2d ll1))] := Ar.keep fx264 Kd1 (ninS (Nat.ne_of_lt lt75) (ninS (Nat.ne_of_lt lt123) nin0))
  have fx307 : Ar Z T284.heap ex .double [(.double (FP.l2d ee0)), (.double (FP.l2d ee1))] := Ar.keep fx265 Kd1 (ninS (Nat.ne_of_lt lt76) (ninS (Nat.ne_of_lt lt124) nin0))
  have fx308 : Ar Z T284.heap su .double [(.double (FP.l2d (ll0 - 1))), (.double (FP.l2d (ll1 - 1)))] := Ar.keep fx266 Kd1 (ninS (Nat.ne_of_lt lt77) (ninS (Nat.ne_of_lt lt125) nin0))
  have fx309 : Ar Z T284.heap rc .int [(.int (0 : Int32)), (.int (0 : Int32))] := Ar.keep fx267 Kd1 (ninS (Nat.ne_of_lt lt78) (ninS (Nat.ne_of_lt lt126) nin0))
  have fx310 : Ar Z T284.heap cc .int [(.int (0 : Int32)), (.int (0 : Int32))] := Ar.keep fx268 Kd1 (ninS (Nat.ne_of_lt lt79) (ninS (Nat.ne_of_lt lt127) nin0))
  have fx311 : Exa Z T284.heap a25 "[I" := Exa.keep fx269 Kd1
  have fx312 : Exa Z T284.heap a67 "java/util/PriorityQueue" := Exa.keep fx270 Kd1
  have fx313 : Ovc Z T284.heap qa "java/lang/Object" := Ovc.keep fx271 Kd1
  have fx314 : Ar Z T284.heap a25 .int [(.int (0 : Int32)), (.int (0 : Int32))] := Ar.keep fx277 Kd1 (ninS (Nat.ne_of_lt lt80) (ninS (Nat.ne_of_lt lt128) nin0))
  have N315 := Fr.app N283 Nd1
  have Z316 : n0 ≤ T284.heap.size := Nat.le_trans Z279 Kd1.1
  show Goes p.tables e below (T284.setTop (mkF m 99 #[.val (.ref p0), .val (.ref a25), .val (.ref a67), .val (.int (1 : Int32)), .unset, .unset, .unset, .unset, .unset, .unset, .unset, .unset] [(.int (1 : Int32))])) _
  refine g_pop X284 hx (hb hby d5_99) rfl ?_
  refine g_iinc X284 hx (1 : Int32) (hb hby d5_100) rfl rfl (l' := #[.val (.ref p0), .val (.ref a25), .val (.ref a67), .val (.int (2 : Int32)), .unset, .unset, .unset, .unset, .unset, .unset, .unset, .unset]) rfl ?_
  refine g_goto X284 hx (hb hby d5_103) (by decide) (pc' := 69) (by decide) ?_
  refine g_iloadN X284 hx (hb hby d5_69) rfl ?_
  refine g_aloadN X284 hx (hb hby d5_70) rfl rfl ?_
  refine g_getF X284 hx hZ hown rfl (host := "") (Or.inl (hw _ (List.mem_of_getElem? (i := 9) rfl))) Via.refl fx292 (hb hby d5_71) (fun T317 X317 e317 => ?_)
  show Goes p.tables e below (T317.setTop (mkF m 74 #[.val (.ref p0), .val (.ref a25), .val (.ref a67), .val (.int (2 : Int32)), .unset, .unset, .unset, .unset, .unset, .unset, .unset, .unset] [(.int (2 : Int32)), (.int (2 : Int32))])) _
  refine g_icmp_ge X317 hx (hb hby d5_74) (by decide) (pc' := 106) (by decide) (fun _ => ?_) (fun q => absurd q (by decide))
  show Goes p.tables e below (T317.setTop (mkF m 106 #[.val (.ref p0), .val (.ref a25), .val (.ref a67), .val (.int (2 : Int32)), .unset, .unset, .unset, .unset, .unset, .unset, .unset, .unset] [])) _
  refine g_aloadN X317 hx (hb hby d5_106) rfl rfl ?_
  refine g_getF X317 hx hZ hown e317 (host := "") (Or.inl (hw _ (List.mem_of_getElem? (i := 9) rfl))) Via.refl fx292 (hb hby d5_107) (fun T318 X318 e318 => ?_)
  show Goes p.tables e below (T318.setTop (mkF m 110 #[.val (.ref p0), .val (.ref a25), .val (.ref a67), .val (.int (2 : Int32)), .unset, .unset, .unset, .unset, .unset, .unset, .unset, .unset] [(.int (2 : Int32))])) _
  refine g_newarr X318 hx hZ e318 (hw _ (List.mem_of_getElem? (i := 165) rfl)) (hb hby d5_110) (n := 2) (by decide) 2 (by decide) (by decide) (by decide) (by decide) (ad := "[Z") (by decide) rfl (fun T319 h319 a319 ga319 X319 e319 Ex319 Aa319 Ea319 => ?_)
  have lt320 : lc < a319 := by rw [ga319]; exact fx286.lt
  have lt321 : x0 < a319 := by rw [ga319]; exact fx287.lt
  have lt322 : x1 < a319 := by rw [ga319]; exact fx288.lt
  have lt323 : p0 < a319 := by rw [ga319]; exact fx291.lt
  have lt324 : ca < a319 := by rw [ga319]; exact fx301.lt
  have lt325 : va < a319 := by rw [ga319]; exact fx303.lt
  have lt326 : la < a319 := by rw [ga319]; exact fx305.lt
  have lt327 : lv < a319 := by rw [ga319]; exact fx306.lt
  have lt328 : ex < a319 := by rw [ga319]; exact fx307.lt
  have lt329 : su < a319 := by rw [ga319]; exact fx308.lt
  have lt330 : rc < a319 := by rw [ga319]; exact fx309.lt
  have lt331 : cc < a319 := by rw [ga319]; exact fx310.lt
  have lt332 : a25 < a319 := by rw [ga319]; exact fx311.lt
  have lt333 : a67 < a319 := by rw [ga319]; exact fx312.lt
  have lt334 : qa < a319 := by rw [ga319]; exact u15.lt
  have ge335 : n0 ≤ a319 := by rw [ga319]; exact Z316
  have fx336 : Sta Z h319 "java/lang/Long$LongCache" "cache" "[Ljava/lang/Long;" (.ref lc) := Sta.ext Ex319 fx285
  have fx337 : Ar Z h319 lc (.object "java/lang/Long") cl := Ar.ext fx286 Ex319
  have fx338 : Exa Z h319 x0 "java/lang/Long" := Exa.ext Ex319 fx287
  have fx339 : Exa Z h319 x1 "java/lang/Long" := Exa.ext Ex319 fx288
  have fx340 : Fld Z h319 x0 "java/lang/Long" "value" "J" (.long (0 : Int64)) := Fld.ext Ex319 fx289
  have fx341 : Fld Z h319 x1 "java/lang/Long" "value" "J" (.long (1 : Int64)) := Fld.ext Ex319 fx290
  have fx342 : Exa Z h319 p0 "com/example/hold/hold/check/ComponentSolver" := Exa.ext Ex319 fx291
  have fx343 : Fld Z h319 p0 "com/example/hold/hold/check/ComponentSolver" "size" "I" (.int (2 : Int32)) := Fld.ext Ex319 fx292
  have fx344 : Fld Z h319 p0 "com/example/hold/hold/check/ComponentSolver" "columns" "[[I" (.ref ca) := Fld.ext Ex319 fx293
  have fx345 : Fld Z h319 p0 "com/example/hold/hold/check/ComponentSolver" "values" "[[D" (.ref va) := Fld.ext Ex319 fx294
  have fx346 : Fld Z h319 p0 "com/example/hold/hold/check/ComponentSolver" "length" "[I" (.ref la) := Fld.ext Ex319 fx295
  have fx347 : Fld Z h319 p0 "com/example/hold/hold/check/ComponentSolver" "leaving" "[D" (.ref lv) := Fld.ext Ex319 fx296
  have fx348 : Fld Z h319 p0 "com/example/hold/hold/check/ComponentSolver" "exits" "[D" (.ref ex) := Fld.ext Ex319 fx297
  have fx349 : Fld Z h319 p0 "com/example/hold/hold/check/ComponentSolver" "surplus" "[D" (.ref su) := Fld.ext Ex319 fx298
  have fx350 : Fld Z h319 p0 "com/example/hold/hold/check/ComponentSolver" "rowsUsingCount" "[I" (.ref rc) := Fld.ext Ex319 fx299
  have fx351 : Fld Z h319 p0 "com/example/hold/hold/check/ComponentSolver" "columnCount" "[I" (.ref cc) := Fld.ext Ex319 fx300
  have fx352 : Ar Z h319 ca (.array .int) l1t1 := Ar.ext fx301 Ex319
  have fx353 : Ovc Z h319 ca "[I" := Ovc.ext fx302 Ex319
  have fx354 : Ar Z h319 va (.array .double) l2t1 := Ar.ext fx303 Ex319
  have fx355 : Ovc Z h319 va "[D" := Ovc.ext fx304 Ex319
  have fx356 : Ar Z h319 la .int [(.int (0 : Int32)), (.int (0 : Int32))] := Ar.ext fx305 Ex319
  have fx357 : Ar Z h319 lv .double [(.double (FP.l2d ll0)), (.double (FP.l2d ll1))] := Ar.ext fx306 Ex319
  have fx358 : Ar Z h319 ex .double [(.double (FP.l2d ee0)), (.double (FP.l2d ee1))] := Ar.ext fx307 Ex319
  have fx359 : Ar Z h319 su .double [(.double (FP.l2d (ll0 - 1))), (.double (FP.l2d (ll1 - 1)))] := Ar.ext fx308 Ex319
  have fx360 : Ar Z h319 rc .int [(.int (0 : Int32)), (.int (0 : Int32))] := Ar.ext fx309 Ex319
  have fx361 : Ar Z h319 cc .int [(.int (0 : Int32)), (.int (0 : Int32))] := Ar.ext fx310 Ex319
  have fx362 : Exa Z h319 a25 "[I" := Exa.ext Ex319 fx311
  have fx363 : Exa Z h319 a67 "java/util/PriorityQueue" := Exa.ext Ex319 fx312
  have fx364 : Ovc Z h319 qa "java/lang/Object" := Ovc.ext fx313 Ex319
  have fx365 : Ar Z h319 a25 .int [(.int (0 : Int32)), (.int (0 : Int32))] := Ar.ext fx314 Ex319
  have fx366 : Fld Z h319 a67 "java/util/PriorityQueue" "queue" "[Ljava/lang/Object;" (.ref qa) := Fld.ext Ex319 u11
  have fx367 : Fld Z h319 a67 "java/util/PriorityQueue" "size" "I" (.int (2 : Int32)) := Fld.ext Ex319 u12
  have fx368 : Fld Z h319 a67 "java/util/PriorityQueue" "comparator" "Ljava/util/Comparator;" .null := Fld.ext Ex319 u13
  have fx369 : Fld Z h319 a67 "java/util/PriorityQueue" "modCount" "I" (.int (2 : Int32)) := Fld.ext Ex319 u14
  have fx370 : Ar Z h319 qa (.object "java/lang/Object") [(.ref x0), (.ref x1), .null, .null, .null, .null, .null, .null, .null, .null, .null] := Ar.ext u15 Ex319
  have Z371 : n0 ≤ h319.size := Nat.le_trans Z316 Ex319.1
  have fx372 : Ar Z h319 a319 .boolean [(.int (0 : Int32)), (.int (0 : Int32))] := Aa319
  show Goes p.tables e below (T319.setTop (mkF m 112 #[.val (.ref p0), .val (.ref a25), .val (.ref a67), .val (.int (2 : Int32)), .unset, .unset, .unset, .unset, .unset, .unset, .unset, .unset] [(.ref a319)])) _
  refine g_astoreN X319 hx (hb hby d5_112) rfl (l' := #[.val (.ref p0), .val (.ref a25), .val (.ref a67), .val (.ref a319), .unset, .unset, .unset, .unset, .unset, .unset, .unset, .unset]) rfl ?_
  refine g_aloadN X319 hx (hb hby d5_113) rfl rfl ?_
  refine g_getF X319 hx hZ hown e319 (host := "") (Or.inl (hw _ (List.mem_of_getElem? (i := 9) rfl))) Via.refl fx343 (hb hby d5_114) (fun T373 X373 e373 => ?_)
  show Goes p.tables e below (T373.setTop (mkF m 117 #[.val (.ref p0), .val (.ref a25), .val (.ref a67), .val (.ref a319), .unset, .unset, .unset, .unset, .unset, .unset, .unset, .unset] [(.int (2 : Int32))])) _
  refine g_newarr X373 hx hZ e373 (hw _ (List.mem_of_getElem? (i := 19) rfl)) (hb hby d5_117) (n := 2) (by decide) 2 (by decide) (by decide) (by decide) (by decide) (ad := "[I") (by decide) rfl (fun T374 h374 a374 ga374 X374 e374 Ex374 Aa374 Ea374 => ?_)
  have lt375 : lc < a374 := by rw [ga374]; exact fx337.lt
  have lt376 : x0 < a374 := by rw [ga374]; exact fx338.lt
  have lt377 : x1 < a374 := by rw [ga374]; exact fx339.lt
  have lt378 : p0 < a374 := by rw [ga374]; exact fx342.lt
  have lt379 : ca < a374 := by rw [ga374]; exact fx352.lt
  have lt380 : va < a374 := by rw [ga374]; exact fx354.lt
  have lt381 : la < a374 := by rw [ga374]; exact fx356.lt
  have lt382 : lv < a374 := by rw [ga374]; exact fx357.lt
  have lt383 : ex < a374 := by rw [ga374]; exact fx358.lt
  have lt384 : su < a374 := by rw [ga374]; exact fx359.lt
  have lt385 : rc < a374 := by rw [ga374]; exact fx360.lt
  have lt386 : cc < a374 := by rw [ga374]; exact fx361.lt
  have lt387 : a25 < a374 := by rw [ga374]; exact fx362.lt
  have lt388 : a67 < a374 := by rw [ga374]; exact fx363.lt
  have lt389 : qa < a374 := by rw [ga374]; exact fx370.lt
  have lt390 : a319 < a374 := by rw [ga374]; exact fx372.lt
  have ge391 : n0 ≤ a374 := by rw [ga374]; exact Z371
  have fx392 : Sta Z h374 "java/lang/Long$LongCache" "cache" "[Ljava/lang/Long;" (.ref lc) := Sta.ext Ex374 fx336
  have fx393 : Ar Z h374 lc (.object "java/lang/Long") cl := Ar.ext fx337 Ex374
  have fx394 : Exa Z h374 x0 "java/lang/Long" := Exa.ext Ex374 fx338
  have fx395 : Exa Z h374 x1 "java/lang/Long" := Exa.ext Ex374 fx339
  have fx396 : Fld Z h374 x0 "java/lang/Long" "value" "J" (.long (0 : Int64)) := Fld.ext Ex374 fx340
  have fx397 : Fld Z h374 x1 "java/lang/Long" "value" "J" (.long (1 : Int64)) := Fld.ext Ex374 fx341
  have fx398 : Exa Z h374 p0 "com/example/hold/hold/check/ComponentSolver" := Exa.ext Ex374 fx342
  have fx399 : Fld Z h374 p0 "com/example/hold/hold/check/ComponentSolver" "size" "I" (.int (2 : Int32)) := Fld.ext Ex374 fx343
  have fx400 : Fld Z h374 p0 "com/example/hold/hold/check/ComponentSolver" "columns" "[[I" (.ref ca) := Fld.ext Ex374 fx344
  have fx401 : Fld Z h374 p0 "com/example/hold/hold/check/ComponentSolver" "values" "[[D" (.ref va) := Fld.ext Ex374 fx345
  have fx402 : Fld Z h374 p0 "com/example/hold/hold/check/ComponentSolver" "length" "[I" (.ref la) := Fld.ext Ex374 fx346
  have fx403 : Fld Z h374 p0 "com/example/hold/hold/check/ComponentSolver" "leaving" "[D" (.ref lv) := Fld.ext Ex374 fx347
  have fx404 : Fld Z h374 p0 "com/example/hold/hold/check/ComponentSolver" "exits" "[D" (.ref ex) := Fld.ext Ex374 fx348
  have fx405 : Fld Z h374 p0 "com/example/hold/hold/check/ComponentSolver" "surplus" "[D" (.ref su) := Fld.ext Ex374 fx349
  have fx406 : Fld Z h374 p0 "com/example/hold/hold/check/ComponentSolver" "rowsUsingCount" "[I" (.ref rc) := Fld.ext Ex374 fx350
  have fx407 : Fld Z h374 p0 "com/example/hold/hold/check/ComponentSolver" "columnCount" "[I" (.ref cc) := Fld.ext Ex374 fx351
  have fx408 : Ar Z h374 ca (.array .int) l1t1 := Ar.ext fx352 Ex374
  have fx409 : Ovc Z h374 ca "[I" := Ovc.ext fx353 Ex374
  have fx410 : Ar Z h374 va (.array .double) l2t1 := Ar.ext fx354 Ex374
  have fx411 : Ovc Z h374 va "[D" := Ovc.ext fx355 Ex374
  have fx412 : Ar Z h374 la .int [(.int (0 : Int32)), (.int (0 : Int32))] := Ar.ext fx356 Ex374
  have fx413 : Ar Z h374 lv .double [(.double (FP.l2d ll0)), (.double (FP.l2d ll1))] := Ar.ext fx357 Ex374
  have fx414 : Ar Z h374 ex .double [(.double (FP.l2d ee0)), (.double (FP.l2d ee1))] := Ar.ext fx358 Ex374
  have fx415 : Ar Z h374 su .double [(.double (FP.l2d (ll0 - 1))), (.double (FP.l2d (ll1 - 1)))] := Ar.ext fx359 Ex374
  have fx416 : Ar Z h374 rc .int [(.int (0 : Int32)), (.int (0 : Int32))] := Ar.ext fx360 Ex374
  have fx417 : Ar Z h374 cc .int [(.int (0 : Int32)), (.int (0 : Int32))] := Ar.ext fx361 Ex374
  have fx418 : Exa Z h374 a25 "[I" := Exa.ext Ex374 fx362
  have fx419 : Exa Z h374 a67 "java/util/PriorityQueue" := Exa.ext Ex374 fx363
  have fx420 : Ovc Z h374 qa "java/lang/Object" := Ovc.ext fx364 Ex374
  have fx421 : Ar Z h374 a25 .int [(.int (0 : Int32)), (.int (0 : Int32))] := Ar.ext fx365 Ex374
  have fx422 : Fld Z h374 a67 "java/util/PriorityQueue" "queue" "[Ljava/lang/Object;" (.ref qa) := Fld.ext Ex374 fx366
  have fx423 : Fld Z h374 a67 "java/util/PriorityQueue" "size" "I" (.int (2 : Int32)) := Fld.ext Ex374 fx367
  have fx424 : Fld Z h374 a67 "java/util/PriorityQueue" "comparator" "Ljava/util/Comparator;" .null := Fld.ext Ex374 fx368
  have fx425 : Fld Z h374 a67 "java/util/PriorityQueue" "modCount" "I" (.int (2 : Int32)) := Fld.ext Ex374 fx369
  have fx426 : Ar Z h374 qa (.object "java/lang/Object") [(.ref x0), (.ref x1), .null, .null, .null, .null, .null, .null, .null, .null, .null] := Ar.ext fx370 Ex374
  have fx427 : Ar Z h374 a319 .boolean [(.int (0 : Int32)), (.int (0 : Int32))] := Ar.ext fx372 Ex374
  have fx428 : Exa Z h374 a319 "[Z" := Exa.ext Ex374 Ea319
  have Z429 : n0 ≤ h374.size := Nat.le_trans Z371 Ex374.1
  have fx430 : Ar Z h374 a374 .int [(.int (0 : Int32)), (.int (0 : Int32))] := Aa374
  show Goes p.tables e below (T374.setTop (mkF m 119 #[.val (.ref p0), .val (.ref a25), .val (.ref a67), .val (.ref a319), .unset, .unset, .unset, .unset, .unset, .unset, .unset, .unset] [(.ref a374)])) _
  refine g_astore X374 hx (hb hby d5_119) rfl (l' := #[.val (.ref p0), .val (.ref a25), .val (.ref a67), .val (.ref a319), .val (.ref a374), .unset, .unset, .unset, .unset, .unset, .unset, .unset]) rfl ?_
  refine g_aloadN X374 hx (hb hby d5_121) rfl rfl ?_
  refine g_getF X374 hx hZ hown e374 (host := "") (Or.inl (hw _ (List.mem_of_getElem? (i := 9) rfl))) Via.refl fx399 (hb hby d5_122) (fun T431 X431 e431 => ?_)
  show Goes p.tables e below (T431.setTop (mkF m 125 #[.val (.ref p0), .val (.ref a25), .val (.ref a67), .val (.ref a319), .val (.ref a374), .unset, .unset, .unset, .unset, .unset, .unset, .unset] [(.int (2 : Int32))])) _
  refine g_newarr X431 hx hZ e431 (hw _ (List.mem_of_getElem? (i := 22) rfl)) (hb hby d5_125) (n := 2) (by decide) 2 (by decide) (by decide) (by decide) (by decide) (ad := "[D") (by decide) rfl (fun T432 h432 a432 ga432 X432 e432 Ex432 Aa432 Ea432 => ?_)
  have lt433 : lc < a432 := by rw [ga432]; exact fx393.lt
  have lt434 : x0 < a432 := by rw [ga432]; exact fx394.lt
  have lt435 : x1 < a432 := by rw [ga432]; exact fx395.lt
  have lt436 : p0 < a432 := by rw [ga432]; exact fx398.lt
  have lt437 : ca < a432 := by rw [ga432]; exact fx408.lt
  have lt438 : va < a432 := by rw [ga432]; exact fx410.lt
  have lt439 : la < a432 := by rw [ga432]; exact fx412.lt
  have lt440 : lv < a432 := by rw [ga432]; exact fx413.lt
  have lt441 : ex < a432 := by rw [ga432]; exact fx414.lt
  have lt442 : su < a432 := by rw [ga432]; exact fx415.lt
  have lt443 : rc < a432 := by rw [ga432]; exact fx416.lt
  have lt444 : cc < a432 := by rw [ga432]; exact fx417.lt
  have lt445 : a25 < a432 := by rw [ga432]; exact fx418.lt
  have lt446 : a67 < a432 := by rw [ga432]; exact fx419.lt
  have lt447 : qa < a432 := by rw [ga432]; exact fx426.lt
  have lt448 : a319 < a432 := by rw [ga432]; exact fx427.lt
  have lt449 : a374 < a432 := by rw [ga432]; exact fx430.lt
  have ge450 : n0 ≤ a432 := by rw [ga432]; exact Z429
  have fx451 : Sta Z h432 "java/lang/Long$LongCache" "cache" "[Ljava/lang/Long;" (.ref lc) := Sta.ext Ex432 fx392
  have fx452 : Ar Z h432 lc (.object "java/lang/Long") cl := Ar.ext fx393 Ex432
  have fx453 : Exa Z h432 x0 "java/lang/Long" := Exa.ext Ex432 fx394
  have fx454 : Exa Z h432 x1 "java/lang/Long" := Exa.ext Ex432 fx395
  have fx455 : Fld Z h432 x0 "java/lang/Long" "value" "J" (.long (0 : Int64)) := Fld.ext Ex432 fx396
  have fx456 : Fld Z h432 x1 "java/lang/Long" "value" "J" (.long (1 : Int64)) := Fld.ext Ex432 fx397
  have fx457 : Exa Z h432 p0 "com/example/hold/hold/check/ComponentSolver" := Exa.ext Ex432 fx398
  have fx458 : Fld Z h432 p0 "com/example/hold/hold/check/ComponentSolver" "size" "I" (.int (2 : Int32)) := Fld.ext Ex432 fx399
  have fx459 : Fld Z h432 p0 "com/example/hold/hold/check/ComponentSolver" "columns" "[[I" (.ref ca) := Fld.ext Ex432 fx400
  have fx460 : Fld Z h432 p0 "com/example/hold/hold/check/ComponentSolver" "values" "[[D" (.ref va) := Fld.ext Ex432 fx401
  have fx461 : Fld Z h432 p0 "com/example/hold/hold/check/ComponentSolver" "length" "[I" (.ref la) := Fld.ext Ex432 fx402
  have fx462 : Fld Z h432 p0 "com/example/hold/hold/check/ComponentSolver" "leaving" "[D" (.ref lv) := Fld.ext Ex432 fx403
  have fx463 : Fld Z h432 p0 "com/example/hold/hold/check/ComponentSolver" "exits" "[D" (.ref ex) := Fld.ext Ex432 fx404
  have fx464 : Fld Z h432 p0 "com/example/hold/hold/check/ComponentSolver" "surplus" "[D" (.ref su) := Fld.ext Ex432 fx405
  have fx465 : Fld Z h432 p0 "com/example/hold/hold/check/ComponentSolver" "rowsUsingCount" "[I" (.ref rc) := Fld.ext Ex432 fx406
  have fx466 : Fld Z h432 p0 "com/example/hold/hold/check/ComponentSolver" "columnCount" "[I" (.ref cc) := Fld.ext Ex432 fx407
  have fx467 : Ar Z h432 ca (.array .int) l1t1 := Ar.ext fx408 Ex432
  have fx468 : Ovc Z h432 ca "[I" := Ovc.ext fx409 Ex432
  have fx469 : Ar Z h432 va (.array .double) l2t1 := Ar.ext fx410 Ex432
  have fx470 : Ovc Z h432 va "[D" := Ovc.ext fx411 Ex432
  have fx471 : Ar Z h432 la .int [(.int (0 : Int32)), (.int (0 : Int32))] := Ar.ext fx412 Ex432
  have fx472 : Ar Z h432 lv .double [(.double (FP.l2d ll0)), (.double (FP.l2d ll1))] := Ar.ext fx413 Ex432
  have fx473 : Ar Z h432 ex .double [(.double (FP.l2d ee0)), (.double (FP.l2d ee1))] := Ar.ext fx414 Ex432
  have fx474 : Ar Z h432 su .double [(.double (FP.l2d (ll0 - 1))), (.double (FP.l2d (ll1 - 1)))] := Ar.ext fx415 Ex432
  have fx475 : Ar Z h432 rc .int [(.int (0 : Int32)), (.int (0 : Int32))] := Ar.ext fx416 Ex432
  have fx476 : Ar Z h432 cc .int [(.int (0 : Int32)), (.int (0 : Int32))] := Ar.ext fx417 Ex432
  have fx477 : Exa Z h432 a25 "[I" := Exa.ext Ex432 fx418
  have fx478 : Exa Z h432 a67 "java/util/PriorityQueue" := Exa.ext Ex432 fx419
  have fx479 : Ovc Z h432 qa "java/lang/Object" := Ovc.ext fx420 Ex432
  have fx480 : Ar Z h432 a25 .int [(.int (0 : Int32)), (.int (0 : Int32))] := Ar.ext fx421 Ex432
  have fx481 : Fld Z h432 a67 "java/util/PriorityQueue" "queue" "[Ljava/lang/Object;" (.ref qa) := Fld.ext Ex432 fx422
  have fx482 : Fld Z h432 a67 "java/util/PriorityQueue" "size" "I" (.int (2 : Int32)) := Fld.ext Ex432 fx423
  have fx483 : Fld Z h432 a67 "java/util/PriorityQueue" "comparator" "Ljava/util/Comparator;" .null := Fld.ext Ex432 fx424
  have fx484 : Fld Z h432 a67 "java/util/PriorityQueue" "modCount" "I" (.int (2 : Int32)) := Fld.ext Ex432 fx425
  have fx485 : Ar Z h432 qa (.object "java/lang/Object") [(.ref x0), (.ref x1), .null, .null, .null, .null, .null, .null, .null, .null, .null] := Ar.ext fx426 Ex432
  have fx486 : Ar Z h432 a319 .boolean [(.int (0 : Int32)), (.int (0 : Int32))] := Ar.ext fx427 Ex432
  have fx487 : Exa Z h432 a319 "[Z" := Exa.ext Ex432 fx428
  have fx488 : Ar Z h432 a374 .int [(.int (0 : Int32)), (.int (0 : Int32))] := Ar.ext fx430 Ex432
  have fx489 : Exa Z h432 a374 "[I" := Exa.ext Ex432 Ea374
  have Z490 : n0 ≤ h432.size := Nat.le_trans Z429 Ex432.1
  have fx491 : Ar Z h432 a432 .double [(.double (FP.l2d 0)), (.double (FP.l2d 0))] := (by rw [l2d_zero]; exact Aa432)
  show Goes p.tables e below (T432.setTop (mkF m 127 #[.val (.ref p0), .val (.ref a25), .val (.ref a67), .val (.ref a319), .val (.ref a374), .unset, .unset, .unset, .unset, .unset, .unset, .unset] [(.ref a432)])) _
  refine g_astore X432 hx (hb hby d5_127) rfl (l' := #[.val (.ref p0), .val (.ref a25), .val (.ref a67), .val (.ref a319), .val (.ref a374), .val (.ref a432), .unset, .unset, .unset, .unset, .unset, .unset]) rfl ?_
  refine g_iconst X432 hx (0 : Int32) (hb hby d5_129) rfl ?_
  refine g_istore X432 hx (hb hby d5_130) (l' := #[.val (.ref p0), .val (.ref a25), .val (.ref a67), .val (.ref a319), .val (.ref a374), .val (.ref a432), .val (.int (0 : Int32)), .unset, .unset, .unset, .unset, .unset]) rfl ?_
  refine g_iload X432 hx (hb hby d5_132) rfl ?_
  refine g_aloadN X432 hx (hb hby d5_134) rfl rfl ?_
  refine g_getF X432 hx hZ hown e432 (host := "") (Or.inl (hw _ (List.mem_of_getElem? (i := 9) rfl))) Via.refl fx458 (hb hby d5_135) (fun T492 X492 e492 => ?_)
  show Goes p.tables e below (T492.setTop (mkF m 138 #[.val (.ref p0), .val (.ref a25), .val (.ref a67), .val (.ref a319), .val (.ref a374), .val (.ref a432), .val (.int (0 : Int32)), .unset, .unset, .unset, .unset, .unset] [(.int (2 : Int32)), (.int (0 : Int32))])) _
  refine g_icmp_ge X492 hx (hb hby d5_138) (by decide) (pc' := 377) (by decide) (fun q => absurd (by decide) q) (fun _ => ?_)
  show Goes p.tables e below (T492.setTop (mkF m 141 #[.val (.ref p0), .val (.ref a25), .val (.ref a67), .val (.ref a319), .val (.ref a374), .val (.ref a432), .val (.int (0 : Int32)), .unset, .unset, .unset, .unset, .unset] [])) _
  refine g_aloadN X492 hx (hb hby d5_141) rfl rfl ?_
  refine g_callV X492 hx hZ hown (by rw [hml]; rfl) e492 (K := "java/util/PriorityQueue") (hw _ (List.mem_of_getElem? (i := 166) rfl)) (hw _ (List.mem_of_getElem? (i := 167) rfl)) (hw _ (List.mem_of_getElem? (i := 169) rfl)) (hw _ (List.mem_of_getElem? (i := 168) rfl)) (hw _ (List.mem_of_getElem? (i := 73) rfl)) (hw _ (List.mem_of_getElem? (i := 170) rfl)) fx478 (rmPo0 l Z a0 hw a67 h432 n0 Z490 qa x0 x1 fx481 fx482 fx483 fx484 fx478 fx485 fx479 ge81 gqa (Ne.symm (Nat.ne_of_lt lt129)) fx454 (Nat.ne_of_lt lt70) (Nat.ne_of_lt lt118)) [] rfl [] rfl (lenOf pd_26 rfl) (hb hby d5_142) (by decide) 0 (by decide) (by decide) (by first | decide | exact Nat.le_refl _) (by decide) (by decide) (fun v T493 L493 X493 hQ493 => ?_)
  obtain ⟨rfl, Np0, Kp0, o01, o02, o03, o04, o05⟩ := hQ493
  have fx494 : Sta Z T493.heap "java/lang/Long$LongCache" "cache" "[Ljava/lang/Long;" (.ref lc) := own_stakeep fx451 Kp0 (allS (own_nst fx478) (allS (own_nstA fx485) all0))
  have fx495 : Ar Z T493.heap lc (.object "java/lang/Long") cl := Ar.keep fx452 Kp0 (ninS (Nat.ne_of_lt lt68) (ninS (Nat.ne_of_lt lt116) nin0))
  have fx496 : Exa Z T493.heap x0 "java/lang/Long" := Exa.keep fx453 Kp0
  have fx497 : Exa Z T493.heap x1 "java/lang/Long" := Exa.keep fx454 Kp0
  have fx498 : Fld Z T493.heap x0 "java/lang/Long" "value" "J" (.long (0 : Int64)) := Fld.keep fx455 Kp0 (ninS (Nat.ne_of_lt lt69) (ninS (Nat.ne_of_lt lt117) nin0))
  have fx499 : Fld Z T493.heap x1 "java/lang/Long" "value" "J" (.long (1 : Int64)) := Fld.keep fx456 Kp0 (ninS (Nat.ne_of_lt lt70) (ninS (Nat.ne_of_lt lt118) nin0))
  have fx500 : Exa Z T493.heap p0 "com/example/hold/hold/check/ComponentSolver" := Exa.keep fx457 Kp0
  have fx501 : Fld Z T493.heap p0 "com/example/hold/hold/check/ComponentSolver" "size" "I" (.int (2 : Int32)) := Fld.keep fx458 Kp0 (ninS (Nat.ne_of_lt lt71) (ninS (Nat.ne_of_lt lt119) nin0))
  have fx502 : Fld Z T493.heap p0 "com/example/hold/hold/check/ComponentSolver" "columns" "[[I" (.ref ca) := Fld.keep fx459 Kp0 (ninS (Nat.ne_of_lt lt71) (ninS (Nat.ne_of_lt lt119) nin0))
  have fx503 : Fld Z T493.heap p0 "com/example/hold/hold/check/ComponentSolver" "values" "[[D" (.ref va) := Fld.keep fx460 Kp0 (ninS (Nat.ne_of_lt lt71) (ninS (Nat.ne_of_lt lt119) nin0))
  have fx504 : Fld Z T493.heap p0 "com/example/hold/hold/check/ComponentSolver" "length" "[I" (.ref la) := Fld.keep fx461 Kp0 (ninS (Nat.ne_of_lt lt71) (ninS (Nat.ne_of_lt lt119) nin0))
  have fx505 : Fld Z T493.heap p0 "com/example/hold/hold/check/ComponentSolver" "leaving" "[D" (.ref lv) := Fld.keep fx462 Kp0 (ninS (Nat.ne_of_lt lt71) (ninS (Nat.ne_of_lt lt119) nin0))
  have fx506 : Fld Z T493.heap p0 "com/example/hold/hold/check/ComponentSolver" "exits" "[D" (.ref ex) := Fld.keep fx463 Kp0 (ninS (Nat.ne_of_lt lt71) (ninS (Nat.ne_of_lt lt119) nin0))
  have fx507 : Fld Z T493.heap p0 "com/example/hold/hold/check/ComponentSolver" "surplus" "[D" (.ref su) := Fld.keep fx464 Kp0 (ninS (Nat.ne_of_lt lt71) (ninS (Nat.ne_of_lt lt119) nin0))
  have fx508 : Fld Z T493.heap p0 "com/example/hold/hold/check/ComponentSolver" "rowsUsingCount" "[I" (.ref rc) := Fld.keep fx465 Kp0 (ninS (Nat.ne_of_lt lt71) (ninS (Nat.ne_of_lt lt119) nin0))
  have fx509 : Fld Z T493.heap p0 "com/example/hold/hold/check/ComponentSolver" "columnCount" "[I" (.ref cc) := Fld.keep fx466 Kp0 (ninS (Nat.ne_of_lt lt71) (ninS (Nat.ne_of_lt lt119) nin0))
  have fx510 : Ar Z T493.heap ca (.array .int) l1t1 := Ar.keep fx467 Kp0 (ninS (Nat.ne_of_lt lt72) (ninS (Nat.ne_of_lt lt120) nin0))
  have fx511 : Ovc Z T493.heap ca "[I" := Ovc.keep fx468 Kp0
  have fx512 : Ar Z T493.heap va (.array .double) l2t1 := Ar.keep fx469 Kp0 (ninS (Nat.ne_of_lt lt73) (ninS (Nat.ne_of_lt lt121) nin0))
  have fx513 : Ovc Z T493.heap va "[D" := Ovc.keep fx470 Kp0
  have fx514 : Ar Z T493.heap la .int [(.int (0 : Int32)), (.int (0 : Int32))] := Ar.keep fx471 Kp0 (ninS (Nat.ne_of_lt lt74) (ninS (Nat.ne_of_lt lt122) nin0))
  have fx515 : Ar Z T493.heap lv .double [(.double (FP.l2d ll0)), (.double (FP.l2d ll1))] := Ar.keep fx472 Kp0 (ninS (Nat.ne_of_lt lt75) (ninS (Nat.ne_of_lt lt123) nin0))
  have fx516 : Ar Z T493.heap ex .double [(.double (FP.l2d ee0)), (.double (FP.l2d ee1))] := Ar.keep fx473 Kp0 (ninS (Nat.ne_of_lt lt76) (ninS (Nat.ne_of_lt lt124) nin0))
  have fx517 : Ar Z T493.heap su .double [(.double (FP.l2d (ll0 - 1))), (.double (FP.l2d (ll1 - 1)))] := Ar.keep fx474 Kp0 (ninS (Nat.ne_of_lt lt77) (ninS (Nat.ne_of_lt lt125) nin0))
  have fx518 : Ar Z T493.heap rc .int [(.int (0 : Int32)), (.int (0 : Int32))] := Ar.keep fx475 Kp0 (ninS (Nat.ne_of_lt lt78) (ninS (Nat.ne_of_lt lt126) nin0))
  have fx519 : Ar Z T493.heap cc .int [(.int (0 : Int32)), (.int (0 : Int32))] := Ar.keep fx476 Kp0 (ninS (Nat.ne_of_lt lt79) (ninS (Nat.ne_of_lt lt127) nin0))
  have fx520 : Exa Z T493.heap a25 "[I" := Exa.keep fx477 Kp0
  have fx521 : Exa Z T493.heap a67 "java/util/PriorityQueue" := Exa.keep fx478 Kp0
  have fx522 : Ovc Z T493.heap qa "java/lang/Object" := Ovc.keep fx479 Kp0
  have fx523 : Ar Z T493.heap a25 .int [(.int (0 : Int32)), (.int (0 : Int32))] := Ar.keep fx480 Kp0 (ninS (Nat.ne_of_lt lt80) (ninS (Nat.ne_of_lt lt128) nin0))
  have fx524 : Ar Z T493.heap a319 .boolean [(.int (0 : Int32)), (.int (0 : Int32))] := Ar.keep fx486 Kp0 (ninS (Ne.symm (Nat.ne_of_lt lt333)) (ninS (Ne.symm (Nat.ne_of_lt lt334)) nin0))
  have fx525 : Exa Z T493.heap a319 "[Z" := Exa.keep fx487 Kp0
  have fx526 : Ar Z T493.heap a374 .int [(.int (0 : Int32)), (.int (0 : Int32))] := Ar.keep fx488 Kp0 (ninS (Ne.symm (Nat.ne_of_lt lt388)) (ninS (Ne.symm (Nat.ne_of_lt lt389)) nin0))
  have fx527 : Exa Z T493.heap a374 "[I" := Exa.keep fx489 Kp0
  have fx528 : Ar Z T493.heap a432 .double [(.double (FP.l2d 0)), (.double (FP.l2d 0))] := Ar.keep fx491 Kp0 (ninS (Ne.symm (Nat.ne_of_lt lt446)) (ninS (Ne.symm (Nat.ne_of_lt lt447)) nin0))
  have fx529 : Exa Z T493.heap a432 "[D" := Exa.keep Ea432 Kp0
  have N530 := Fr.app N315 Np0
  have Z531 : n0 ≤ T493.heap.size := Nat.le_trans Z490 Kp0.1
  show Goes p.tables e below (T493.setTop (mkF m 145 #[.val (.ref p0), .val (.ref a25), .val (.ref a67), .val (.ref a319), .val (.ref a374), .val (.ref a432), .val (.int (0 : Int32)), .unset, .unset, .unset, .unset, .unset] [(.ref x0)])) _
  refine g_cast X493 hx hZ hown rfl (hw _ (List.mem_of_getElem? (i := 174) rfl)) (Ins.self fx496) (hb hby d5_145) (fun T532 X532 e532 => ?_)
  show Goes p.tables e below (T532.setTop (mkF m 148 #[.val (.ref p0), .val (.ref a25), .val (.ref a67), .val (.ref a319), .val (.ref a374), .val (.ref a432), .val (.int (0 : Int32)), .unset, .unset, .unset, .unset, .unset] [(.ref x0)])) _
  refine g_callV X532 hx hZ hown (by rw [hml]; rfl) e532 (K := "java/lang/Long") (hw _ (List.mem_of_getElem? (i := 175) rfl)) (hw _ (List.mem_of_getElem? (i := 176) rfl)) (hw _ (List.mem_of_getElem? (i := 178) rfl)) (hw _ (List.mem_of_getElem? (i := 177) rfl)) (hw _ (List.mem_of_getElem? (i := 114) rfl)) (hw _ (List.mem_of_getElem? (i := 179) rfl)) fx496 (rmLV0 l Z a0 hw x0 T493.heap n0 Z531 fx498) [] rfl [] rfl (lenOf pd_28 rfl) (hb hby d5_148) (by decide) 0 (by decide) (by decide) (by first | decide | exact Nat.le_refl _) (by decide) (by decide) (fun v T533 L533 X533 hQ533 => ?_)
  obtain ⟨rfl, e533, rfl⟩ := hQ533
  have N534 := Fr.app N530 (Fr.nil n0)
  show Goes p.tables e below (T533.setTop (mkF m 151 #[.val (.ref p0), .val (.ref a25), .val (.ref a67), .val (.ref a319), .val (.ref a374), .val (.ref a432), .val (.int (0 : Int32)), .unset, .unset, .unset, .unset, .unset] [(.long (0 : Int64))])) _
  refine g_lstore X533 hx (hb hby d5_151) (l' := #[.val (.ref p0), .val (.ref a25), .val (.ref a67), .val (.ref a319), .val (.ref a374), .val (.ref a432), .val (.int (0 : Int32)), .unset, .val (.long (0 : Int64)), .second, .unset, .unset]) rfl ?_
  refine g_lload X533 hx (hb hby d5_153) rfl ?_
  refine g_l2i X533 hx (hb hby d5_155) ?_
  refine g_nameI (v := (0 : Int32)) (by decide) ?_
  refine g_istore X533 hx (hb hby d5_156) (l' := #[.val (.ref p0), .val (.ref a25), .val (.ref a67), .val (.ref a319), .val (.ref a374), .val (.ref a432), .val (.int (0 : Int32)), .val (.int (0 : Int32)), .val (.long (0 : Int64)), .second, .unset, .unset]) rfl ?_
  refine g_aloadN X533 hx (hb hby d5_158) rfl rfl ?_
  refine g_iload X533 hx (hb hby d5_159) rfl ?_
  show Goes p.tables e below (T533.setTop (mkF m 161 #[.val (.ref p0), .val (.ref a25), .val (.ref a67), .val (.ref a319), .val (.ref a374), .val (.ref a432), .val (.int (0 : Int32)), .val (.int (0 : Int32)), .val (.long (0 : Int64)), .second, .unset, .unset] [(.int (0 : Int32)), (.ref a319)])) _
  refine g_zaload X533 hx hZ e533 fx524 (i := 0) (v := (.int (0 : Int32))) (by decide) rfl (hb hby d5_161) ?_
  show Goes p.tables e below (T533.setTop (mkF m 162 #[.val (.ref p0), .val (.ref a25), .val (.ref a67), .val (.ref a319), .val (.ref a374), .val (.ref a432), .val (.int (0 : Int32)), .val (.int (0 : Int32)), .val (.long (0 : Int64)), .second, .unset, .unset] [(.int (0 : Int32))])) _
  refine g_if_ne X533 hx (hb hby d5_162) (by decide) (pc' := 178) (by decide) (fun q => absurd (by decide) q) (fun _ => ?_)
  show Goes p.tables e below (T533.setTop (mkF m 165 #[.val (.ref p0), .val (.ref a25), .val (.ref a67), .val (.ref a319), .val (.ref a374), .val (.ref a432), .val (.int (0 : Int32)), .val (.int (0 : Int32)), .val (.long (0 : Int64)), .second, .unset, .unset] [])) _
  refine g_lload X533 hx (hb hby d5_165) rfl ?_
  refine g_bipush X533 hx (32 : Int32) (hb hby d5_167) (by decide) ?_
  refine g_lushr X533 hx (hb hby d5_169) ?_
  refine g_nameL (v := (0 : Int64)) (by decide) ?_
  refine g_l2i X533 hx (hb hby d5_170) ?_
  refine g_nameI (v := (0 : Int32)) (by decide) ?_
  refine g_aloadN X533 hx (hb hby d5_171) rfl rfl ?_
  refine g_iload X533 hx (hb hby d5_172) rfl ?_
  show Goes p.tables e below (T533.setTop (mkF m 174 #[.val (.ref p0), .val (.ref a25), .val (.ref a67), .val (.ref a319), .val (.ref a374), .val (.ref a432), .val (.int (0 : Int32)), .val (.int (0 : Int32)), .val (.long (0 : Int64)), .second, .unset, .unset] [(.int (0 : Int32)), (.ref a25), (.int (0 : Int32))])) _
  refine g_iaload X533 hx hZ e533 fx523 (i := 0) (v := (.int (0 : Int32))) (by decide) rfl (hb hby d5_174) ?_
  show Goes p.tables e below (T533.setTop (mkF m 175 #[.val (.ref p0), .val (.ref a25), .val (.ref a67), .val (.ref a319), .val (.ref a374), .val (.ref a432), .val (.int (0 : Int32)), .val (.int (0 : Int32)), .val (.long (0 : Int64)), .second, .unset, .unset] [(.int (0 : Int32)), (.int (0 : Int32))])) _
  refine g_icmp_eq X533 hx (hb hby d5_175) (by decide) (pc' := 181) (by decide) (fun _ => ?_) (fun q => absurd (by decide) q)
  show Goes p.tables e below (T533.setTop (mkF m 181 #[.val (.ref p0), .val (.ref a25), .val (.ref a67), .val (.ref a319), .val (.ref a374), .val (.ref a432), .val (.int (0 : Int32)), .val (.int (0 : Int32)), .val (.long (0 : Int64)), .second, .unset, .unset] [])) _
  refine g_iload X533 hx (hb hby d5_181) rfl ?_
  refine g_if_lt X533 hx (hb hby d5_183) (by decide) (pc' := 141) (by decide) (fun q => absurd q (by decide)) (fun _ => ?_)
  show Goes p.tables e below (T533.setTop (mkF m 186 #[.val (.ref p0), .val (.ref a25), .val (.ref a67), .val (.ref a319), .val (.ref a374), .val (.ref a432), .val (.int (0 : Int32)), .val (.int (0 : Int32)), .val (.long (0 : Int64)), .second, .unset, .unset] [])) _
  refine g_aloadN X533 hx (hb hby d5_186) rfl rfl ?_
  refine g_iload X533 hx (hb hby d5_187) rfl ?_
  refine g_iconst X533 hx (1 : Int32) (hb hby d5_189) rfl ?_
  refine g_zastore X533 hx hZ e533 fx524 0 (by decide) (by show 0 < 2; decide) (1 : Int32) (by decide) (hb hby d5_190) (fun T535 h535 X535 e535 W535 A535 => ?_)
  have fx536 : Sta Z h535 "java/lang/Long$LongCache" "cache" "[Ljava/lang/Long;" (.ref lc) := Sta.wr W535 fx494
  have fx537 : Ar Z h535 lc (.object "java/lang/Long") cl := Ar.other fx495 W535 (Nat.ne_of_lt lt320)
  have fx538 : Exa Z h535 x0 "java/lang/Long" := Exa.wr W535 fx496
  have fx539 : Exa Z h535 x1 "java/lang/Long" := Exa.wr W535 fx497
  have fx540 : Fld Z h535 x0 "java/lang/Long" "value" "J" (.long (0 : Int64)) := Fld.other W535 fx498 (Or.inl (Nat.ne_of_lt lt321))
  have fx541 : Fld Z h535 x1 "java/lang/Long" "value" "J" (.long (1 : Int64)) := Fld.other W535 fx499 (Or.inl (Nat.ne_of_lt lt322))
  have fx542 : Exa Z h535 p0 "com/example/hold/hold/check/ComponentSolver" := Exa.wr W535 fx500
  have fx543 : Fld Z h535 p0 "com/example/hold/hold/check/ComponentSolver" "size" "I" (.int (2 : Int32)) := Fld.other W535 fx501 (Or.inl (Nat.ne_of_lt lt323))
  have fx544 : Fld Z h535 p0 "com/example/hold/hold/check/ComponentSolver" "columns" "[[I" (.ref ca) := Fld.other W535 fx502 (Or.inl (Nat.ne_of_lt lt323))
  have fx545 : Fld Z h535 p0 "com/example/hold/hold/check/ComponentSolver" "values" "[[D" (.ref va) := Fld.other W535 fx503 (Or.inl (Nat.ne_of_lt lt323))
  have fx546 : Fld Z h535 p0 "com/example/hold/hold/check/ComponentSolver" "length" "[I" (.ref la) := Fld.other W535 fx504 (Or.inl (Nat.ne_of_lt lt323))
  have fx547 : Fld Z h535 p0 "com/example/hold/hold/check/ComponentSolver" "leaving" "[D" (.ref lv) := Fld.other W535 fx505 (Or.inl (Nat.ne_of_lt lt323))
  have fx548 : Fld Z h535 p0 "com/example/hold/hold/check/ComponentSolver" "exits" "[D" (.ref ex) := Fld.other W535 fx506 (Or.inl (Nat.ne_of_lt lt323))
  have fx549 : Fld Z h535 p0 "com/example/hold/hold/check/ComponentSolver" "surplus" "[D" (.ref su) := Fld.other W535 fx507 (Or.inl (Nat.ne_of_lt lt323))
  have fx550 : Fld Z h535 p0 "com/example/hold/hold/check/ComponentSolver" "rowsUsingCount" "[I" (.ref rc) := Fld.other W535 fx508 (Or.inl (Nat.ne_of_lt lt323))
  have fx551 : Fld Z h535 p0 "com/example/hold/hold/check/ComponentSolver" "columnCount" "[I" (.ref cc) := Fld.other W535 fx509 (Or.inl (Nat.ne_of_lt lt323))
  have fx552 : Ar Z h535 ca (.array .int) l1t1 := Ar.other fx510 W535 (Nat.ne_of_lt lt324)
  have fx553 : Ovc Z h535 ca "[I" := Ovc.wr fx511 W535
  have fx554 : Ar Z h535 va (.array .double) l2t1 := Ar.other fx512 W535 (Nat.ne_of_lt lt325)
  have fx555 : Ovc Z h535 va "[D" := Ovc.wr fx513 W535
  have fx556 : Ar Z h535 la .int [(.int (0 : Int32)), (.int (0 : Int32))] := Ar.other fx514 W535 (Nat.ne_of_lt lt326)
  have fx557 : Ar Z h535 lv .double [(.double (FP.l2d ll0)), (.double (FP.l2d ll1))] := Ar.other fx515 W535 (Nat.ne_of_lt lt327)
  have fx558 : Ar Z h535 ex .double [(.double (FP.l2d ee0)), (.double (FP.l2d ee1))] := Ar.other fx516 W535 (Nat.ne_of_lt lt328)
  have fx559 : Ar Z h535 su .double [(.double (FP.l2d (ll0 - 1))), (.double (FP.l2d (ll1 - 1)))] := Ar.other fx517 W535 (Nat.ne_of_lt lt329)
  have fx560 : Ar Z h535 rc .int [(.int (0 : Int32)), (.int (0 : Int32))] := Ar.other fx518 W535 (Nat.ne_of_lt lt330)
  have fx561 : Ar Z h535 cc .int [(.int (0 : Int32)), (.int (0 : Int32))] := Ar.other fx519 W535 (Nat.ne_of_lt lt331)
  have fx562 : Exa Z h535 a25 "[I" := Exa.wr W535 fx520
  have fx563 : Exa Z h535 a67 "java/util/PriorityQueue" := Exa.wr W535 fx521
  have fx564 : Ovc Z h535 qa "java/lang/Object" := Ovc.wr fx522 W535
  have fx565 : Ar Z h535 a25 .int [(.int (0 : Int32)), (.int (0 : Int32))] := Ar.other fx523 W535 (Nat.ne_of_lt lt332)
  have fx566 : Exa Z h535 a319 "[Z" := Exa.wr W535 fx525
  have fx567 : Ar Z h535 a374 .int [(.int (0 : Int32)), (.int (0 : Int32))] := Ar.other fx526 W535 (Ne.symm (Nat.ne_of_lt lt390))
  have fx568 : Exa Z h535 a374 "[I" := Exa.wr W535 fx527
  have fx569 : Ar Z h535 a432 .double [(.double (FP.l2d 0)), (.double (FP.l2d 0))] := Ar.other fx528 W535 (Ne.symm (Nat.ne_of_lt lt448))
  have fx570 : Exa Z h535 a432 "[D" := Exa.wr W535 fx529
  have fx571 : Fld Z h535 a67 "java/util/PriorityQueue" "queue" "[Ljava/lang/Object;" (.ref qa) := Fld.other W535 o01 (Or.inl (Nat.ne_of_lt lt333))
  have fx572 : Fld Z h535 a67 "java/util/PriorityQueue" "size" "I" (.int (1 : Int32)) := Fld.other W535 o02 (Or.inl (Nat.ne_of_lt lt333))
  have fx573 : Fld Z h535 a67 "java/util/PriorityQueue" "comparator" "Ljava/util/Comparator;" .null := Fld.other W535 o03 (Or.inl (Nat.ne_of_lt lt333))
  have fx574 : Fld Z h535 a67 "java/util/PriorityQueue" "modCount" "I" (.int (3 : Int32)) := Fld.other W535 o04 (Or.inl (Nat.ne_of_lt lt333))
  have fx575 : Ar Z h535 qa (.object "java/lang/Object") [(.ref x1), .null, .null, .null, .null, .null, .null, .null, .null, .null, .null] := Ar.other o05 W535 (Nat.ne_of_lt lt334)
  have fx576 : Ar Z h535 a319 .boolean [(.int (1 : Int32)), (.int (0 : Int32))] := A535
  have N577 := Fr.snoc X535 N534 ge335
  have Z578 : n0 ≤ h535.size := by rw [W535.size]; exact Z531
  show Goes p.tables e below (T535.setTop (mkF m 191 #[.val (.ref p0), .val (.ref a25), .val (.ref a67), .val (.ref a319), .val (.ref a374), .val (.ref a432), .val (.int (0 : Int32)), .val (.int (0 : Int32)), .val (.long (0 : Int64)), .second, .unset, .unset] [])) _
  refine g_aload X535 hx (hb hby d5_191) rfl rfl ?_
  refine g_iload X535 hx (hb hby d5_193) rfl ?_
  refine g_iload X535 hx (hb hby d5_195) rfl ?_
  refine g_iastore X535 hx hZ e535 fx567 0 (by decide) (by show 0 < 2; decide) (hb hby d5_197) (fun T579 h579 X579 e579 W579 A579 => ?_)
  have fx580 : Sta Z h579 "java/lang/Long$LongCache" "cache" "[Ljava/lang/Long;" (.ref lc) := Sta.wr W579 fx536
  have fx581 : Ar Z h579 lc (.object "java/lang/Long") cl := Ar.other fx537 W579 (Nat.ne_of_lt lt375)
  have fx582 : Exa Z h579 x0 "java/lang/Long" := Exa.wr W579 fx538
  have fx583 : Exa Z h579 x1 "java/lang/Long" := Exa.wr W579 fx539
  have fx584 : Fld Z h579 x0 "java/lang/Long" "value" "J" (.long (0 : Int64)) := Fld.other W579 fx540 (Or.inl (Nat.ne_of_lt lt376))
  have fx585 : Fld Z h579 x1 "java/lang/Long" "value" "J" (.long (1 : Int64)) := Fld.other W579 fx541 (Or.inl (Nat.ne_of_lt lt377))
  have fx586 : Exa Z h579 p0 "com/example/hold/hold/check/ComponentSolver" := Exa.wr W579 fx542
  have fx587 : Fld Z h579 p0 "com/example/hold/hold/check/ComponentSolver" "size" "I" (.int (2 : Int32)) := Fld.other W579 fx543 (Or.inl (Nat.ne_of_lt lt378))
  have fx588 : Fld Z h579 p0 "com/example/hold/hold/check/ComponentSolver" "columns" "[[I" (.ref ca) := Fld.other W579 fx544 (Or.inl (Nat.ne_of_lt lt378))
  have fx589 : Fld Z h579 p0 "com/example/hold/hold/check/ComponentSolver" "values" "[[D" (.ref va) := Fld.other W579 fx545 (Or.inl (Nat.ne_of_lt lt378))
  have fx590 : Fld Z h579 p0 "com/example/hold/hold/check/ComponentSolver" "length" "[I" (.ref la) := Fld.other W579 fx546 (Or.inl (Nat.ne_of_lt lt378))
  have fx591 : Fld Z h579 p0 "com/example/hold/hold/check/ComponentSolver" "leaving" "[D" (.ref lv) := Fld.other W579 fx547 (Or.inl (Nat.ne_of_lt lt378))
  have fx592 : Fld Z h579 p0 "com/example/hold/hold/check/ComponentSolver" "exits" "[D" (.ref ex) := Fld.other W579 fx548 (Or.inl (Nat.ne_of_lt lt378))
  have fx593 : Fld Z h579 p0 "com/example/hold/hold/check/ComponentSolver" "surplus" "[D" (.ref su) := Fld.other W579 fx549 (Or.inl (Nat.ne_of_lt lt378))
  have fx594 : Fld Z h579 p0 "com/example/hold/hold/check/ComponentSolver" "rowsUsingCount" "[I" (.ref rc) := Fld.other W579 fx550 (Or.inl (Nat.ne_of_lt lt378))
  have fx595 : Fld Z h579 p0 "com/example/hold/hold/check/ComponentSolver" "columnCount" "[I" (.ref cc) := Fld.other W579 fx551 (Or.inl (Nat.ne_of_lt lt378))
  have fx596 : Ar Z h579 ca (.array .int) l1t1 := Ar.other fx552 W579 (Nat.ne_of_lt lt379)
  have fx597 : Ovc Z h579 ca "[I" := Ovc.wr fx553 W579
  have fx598 : Ar Z h579 va (.array .double) l2t1 := Ar.other fx554 W579 (Nat.ne_of_lt lt380)
  have fx599 : Ovc Z h579 va "[D" := Ovc.wr fx555 W579
  have fx600 : Ar Z h579 la .int [(.int (0 : Int32)), (.int (0 : Int32))] := Ar.other fx556 W579 (Nat.ne_of_lt lt381)
  have fx601 : Ar Z h579 lv .double [(.double (FP.l2d ll0)), (.double (FP.l2d ll1))] := Ar.other fx557 W579 (Nat.ne_of_lt lt382)
  have fx602 : Ar Z h579 ex .double [(.double (FP.l2d ee0)), (.double (FP.l2d ee1))] := Ar.other fx558 W579 (Nat.ne_of_lt lt383)
  have fx603 : Ar Z h579 su .double [(.double (FP.l2d (ll0 - 1))), (.double (FP.l2d (ll1 - 1)))] := Ar.other fx559 W579 (Nat.ne_of_lt lt384)
  have fx604 : Ar Z h579 rc .int [(.int (0 : Int32)), (.int (0 : Int32))] := Ar.other fx560 W579 (Nat.ne_of_lt lt385)
  have fx605 : Ar Z h579 cc .int [(.int (0 : Int32)), (.int (0 : Int32))] := Ar.other fx561 W579 (Nat.ne_of_lt lt386)
  have fx606 : Exa Z h579 a25 "[I" := Exa.wr W579 fx562
  have fx607 : Exa Z h579 a67 "java/util/PriorityQueue" := Exa.wr W579 fx563
  have fx608 : Ovc Z h579 qa "java/lang/Object" := Ovc.wr fx564 W579
  have fx609 : Ar Z h579 a25 .int [(.int (0 : Int32)), (.int (0 : Int32))] := Ar.other fx565 W579 (Nat.ne_of_lt lt387)
  have fx610 : Exa Z h579 a319 "[Z" := Exa.wr W579 fx566
  have fx611 : Exa Z h579 a374 "[I" := Exa.wr W579 fx568
  have fx612 : Ar Z h579 a432 .double [(.double (FP.l2d 0)), (.double (FP.l2d 0))] := Ar.other fx569 W579 (Ne.symm (Nat.ne_of_lt lt449))
  have fx613 : Exa Z h579 a432 "[D" := Exa.wr W579 fx570
  have fx614 : Fld Z h579 a67 "java/util/PriorityQueue" "queue" "[Ljava/lang/Object;" (.ref qa) := Fld.other W579 fx571 (Or.inl (Nat.ne_of_lt lt388))
  have fx615 : Fld Z h579 a67 "java/util/PriorityQueue" "size" "I" (.int (1 : Int32)) := Fld.other W579 fx572 (Or.inl (Nat.ne_of_lt lt388))
  have fx616 : Fld Z h579 a67 "java/util/PriorityQueue" "comparator" "Ljava/util/Comparator;" .null := Fld.other W579 fx573 (Or.inl (Nat.ne_of_lt lt388))
  have fx617 : Fld Z h579 a67 "java/util/PriorityQueue" "modCount" "I" (.int (3 : Int32)) := Fld.other W579 fx574 (Or.inl (Nat.ne_of_lt lt388))
  have fx618 : Ar Z h579 qa (.object "java/lang/Object") [(.ref x1), .null, .null, .null, .null, .null, .null, .null, .null, .null, .null] := Ar.other fx575 W579 (Nat.ne_of_lt lt389)
  have fx619 : Ar Z h579 a319 .boolean [(.int (1 : Int32)), (.int (0 : Int32))] := Ar.other fx576 W579 (Nat.ne_of_lt lt390)
  have fx620 : Ar Z h579 a374 .int [(.int (0 : Int32)), (.int (0 : Int32))] := A579
  have N621 := Fr.snoc X579 N577 ge391
  have Z622 : n0 ≤ h579.size := by rw [W579.size]; exact Z578
  show Goes p.tables e below (T579.setTop (mkF m 198 #[.val (.ref p0), .val (.ref a25), .val (.ref a67), .val (.ref a319), .val (.ref a374), .val (.ref a432), .val (.int (0 : Int32)), .val (.int (0 : Int32)), .val (.long (0 : Int64)), .second, .unset, .unset] [])) _
  refine g_aload X579 hx (hb hby d5_198) rfl rfl ?_
  refine g_iload X579 hx (hb hby d5_200) rfl ?_
  refine g_aloadN X579 hx (hb hby d5_202) rfl rfl ?_
  refine g_getF X579 hx hZ hown e579 (host := "") (Or.inl (hw _ (List.mem_of_getElem? (i := 23) rfl))) Via.refl fx591 (hb hby d5_203) (fun T623 X623 e623 => ?_)
  show Goes p.tables e below (T623.setTop (mkF m 206 #[.val (.ref p0), .val (.ref a25), .val (.ref a67), .val (.ref a319), .val (.ref a374), .val (.ref a432), .val (.int (0 : Int32)), .val (.int (0 : Int32)), .val (.long (0 : Int64)), .second, .unset, .unset] [(.ref lv), (.int (0 : Int32)), (.ref a432)])) _
  refine g_iload X623 hx (hb hby d5_206) rfl ?_
  refine g_daload X623 hx hZ e623 fx601 (i := 0) (v := (.double (FP.l2d ll0))) (by decide) rfl (hb hby d5_208) ?_
  show Goes p.tables e below (T623.setTop (mkF m 209 #[.val (.ref p0), .val (.ref a25), .val (.ref a67), .val (.ref a319), .val (.ref a374), .val (.ref a432), .val (.int (0 : Int32)), .val (.int (0 : Int32)), .val (.long (0 : Int64)), .second, .unset, .unset] [(.double (FP.l2d ll0)), (.int (0 : Int32)), (.ref a432)])) _
  refine g_dastore X623 hx hZ e623 fx612 0 (by decide) (by show 0 < 2; decide) (hb hby d5_209) (fun T624 h624 X624 e624 W624 A624 => ?_)
  have fx625 : Sta Z h624 "java/lang/Long$LongCache" "cache" "[Ljava/lang/Long;" (.ref lc) := Sta.wr W624 fx580
  have fx626 : Ar Z h624 lc (.object "java/lang/Long") cl := Ar.other fx581 W624 (Nat.ne_of_lt lt433)
  have fx627 : Exa Z h624 x0 "java/lang/Long" := Exa.wr W624 fx582
  have fx628 : Exa Z h624 x1 "java/lang/Long" := Exa.wr W624 fx583
  have fx629 : Fld Z h624 x0 "java/lang/Long" "value" "J" (.long (0 : Int64)) := Fld.other W624 fx584 (Or.inl (Nat.ne_of_lt lt434))
  have fx630 : Fld Z h624 x1 "java/lang/Long" "value" "J" (.long (1 : Int64)) := Fld.other W624 fx585 (Or.inl (Nat.ne_of_lt lt435))
  have fx631 : Exa Z h624 p0 "com/example/hold/hold/check/ComponentSolver" := Exa.wr W624 fx586
  have fx632 : Fld Z h624 p0 "com/example/hold/hold/check/ComponentSolver" "size" "I" (.int (2 : Int32)) := Fld.other W624 fx587 (Or.inl (Nat.ne_of_lt lt436))
  have fx633 : Fld Z h624 p0 "com/example/hold/hold/check/ComponentSolver" "columns" "[[I" (.ref ca) := Fld.other W624 fx588 (Or.inl (Nat.ne_of_lt lt436))
  have fx634 : Fld Z h624 p0 "com/example/hold/hold/check/ComponentSolver" "values" "[[D" (.ref va) := Fld.other W624 fx589 (Or.inl (Nat.ne_of_lt lt436))
  have fx635 : Fld Z h624 p0 "com/example/hold/hold/check/ComponentSolver" "length" "[I" (.ref la) := Fld.other W624 fx590 (Or.inl (Nat.ne_of_lt lt436))
  have fx636 : Fld Z h624 p0 "com/example/hold/hold/check/ComponentSolver" "leaving" "[D" (.ref lv) := Fld.other W624 fx591 (Or.inl (Nat.ne_of_lt lt436))
  have fx637 : Fld Z h624 p0 "com/example/hold/hold/check/ComponentSolver" "exits" "[D" (.ref ex) := Fld.other W624 fx592 (Or.inl (Nat.ne_of_lt lt436))
  have fx638 : Fld Z h624 p0 "com/example/hold/hold/check/ComponentSolver" "surplus" "[D" (.ref su) := Fld.other W624 fx593 (Or.inl (Nat.ne_of_lt lt436))
  have fx639 : Fld Z h624 p0 "com/example/hold/hold/check/ComponentSolver" "rowsUsingCount" "[I" (.ref rc) := Fld.other W624 fx594 (Or.inl (Nat.ne_of_lt lt436))
  have fx640 : Fld Z h624 p0 "com/example/hold/hold/check/ComponentSolver" "columnCount" "[I" (.ref cc) := Fld.other W624 fx595 (Or.inl (Nat.ne_of_lt lt436))
  have fx641 : Ar Z h624 ca (.array .int) l1t1 := Ar.other fx596 W624 (Nat.ne_of_lt lt437)
  have fx642 : Ovc Z h624 ca "[I" := Ovc.wr fx597 W624
  have fx643 : Ar Z h624 va (.array .double) l2t1 := Ar.other fx598 W624 (Nat.ne_of_lt lt438)
  have fx644 : Ovc Z h624 va "[D" := Ovc.wr fx599 W624
  have fx645 : Ar Z h624 la .int [(.int (0 : Int32)), (.int (0 : Int32))] := Ar.other fx600 W624 (Nat.ne_of_lt lt439)
  have fx646 : Ar Z h624 lv .double [(.double (FP.l2d ll0)), (.double (FP.l2d ll1))] := Ar.other fx601 W624 (Nat.ne_of_lt lt440)
  have fx647 : Ar Z h624 ex .double [(.double (FP.l2d ee0)), (.double (FP.l2d ee1))] := Ar.other fx602 W624 (Nat.ne_of_lt lt441)
  have fx648 : Ar Z h624 su .double [(.double (FP.l2d (ll0 - 1))), (.double (FP.l2d (ll1 - 1)))] := Ar.other fx603 W624 (Nat.ne_of_lt lt442)
  have fx649 : Ar Z h624 rc .int [(.int (0 : Int32)), (.int (0 : Int32))] := Ar.other fx604 W624 (Nat.ne_of_lt lt443)
  have fx650 : Ar Z h624 cc .int [(.int (0 : Int32)), (.int (0 : Int32))] := Ar.other fx605 W624 (Nat.ne_of_lt lt444)
  have fx651 : Exa Z h624 a25 "[I" := Exa.wr W624 fx606
  have fx652 : Exa Z h624 a67 "java/util/PriorityQueue" := Exa.wr W624 fx607
  have fx653 : Ovc Z h624 qa "java/lang/Object" := Ovc.wr fx608 W624
  have fx654 : Ar Z h624 a25 .int [(.int (0 : Int32)), (.int (0 : Int32))] := Ar.other fx609 W624 (Nat.ne_of_lt lt445)
  have fx655 : Exa Z h624 a319 "[Z" := Exa.wr W624 fx610
  have fx656 : Exa Z h624 a374 "[I" := Exa.wr W624 fx611
  have fx657 : Exa Z h624 a432 "[D" := Exa.wr W624 fx613
  have fx658 : Fld Z h624 a67 "java/util/PriorityQueue" "queue" "[Ljava/lang/Object;" (.ref qa) := Fld.other W624 fx614 (Or.inl (Nat.ne_of_lt lt446))
  have fx659 : Fld Z h624 a67 "java/util/PriorityQueue" "size" "I" (.int (1 : Int32)) := Fld.other W624 fx615 (Or.inl (Nat.ne_of_lt lt446))
  have fx660 : Fld Z h624 a67 "java/util/PriorityQueue" "comparator" "Ljava/util/Comparator;" .null := Fld.other W624 fx616 (Or.inl (Nat.ne_of_lt lt446))
  have fx661 : Fld Z h624 a67 "java/util/PriorityQueue" "modCount" "I" (.int (3 : Int32)) := Fld.other W624 fx617 (Or.inl (Nat.ne_of_lt lt446))
  have fx662 : Ar Z h624 qa (.object "java/lang/Object") [(.ref x1), .null, .null, .null, .null, .null, .null, .null, .null, .null, .null] := Ar.other fx618 W624 (Nat.ne_of_lt lt447)
  have fx663 : Ar Z h624 a319 .boolean [(.int (1 : Int32)), (.int (0 : Int32))] := Ar.other fx619 W624 (Nat.ne_of_lt lt448)
  have fx664 : Ar Z h624 a374 .int [(.int (0 : Int32)), (.int (0 : Int32))] := Ar.other fx620 W624 (Nat.ne_of_lt lt449)
  have fx665 : Ar Z h624 a432 .double [(.double (FP.l2d ll0)), (.double (FP.l2d 0))] := A624
  have N666 := Fr.snoc X624 N621 ge450
  have Z667 : n0 ≤ h624.size := by rw [W624.size]; exact Z622
  show Goes p.tables e below (T624.setTop (mkF m 210 #[.val (.ref p0), .val (.ref a25), .val (.ref a67), .val (.ref a319), .val (.ref a374), .val (.ref a432), .val (.int (0 : Int32)), .val (.int (0 : Int32)), .val (.long (0 : Int64)), .second, .unset, .unset] [])) _
  refine g_iconst X624 hx (0 : Int32) (hb hby d5_210) rfl ?_
  refine g_istore X624 hx (hb hby d5_211) (l' := #[.val (.ref p0), .val (.ref a25), .val (.ref a67), .val (.ref a319), .val (.ref a374), .val (.ref a432), .val (.int (0 : Int32)), .val (.int (0 : Int32)), .val (.int (0 : Int32)), .unset, .unset, .unset]) rfl ?_
  refine g_iload X624 hx (hb hby d5_213) rfl ?_
  refine g_aloadN X624 hx (hb hby d5_215) rfl rfl ?_
  refine g_getF X624 hx hZ hown e624 (host := "") (Or.inl (hw _ (List.mem_of_getElem? (i := 20) rfl))) Via.refl fx635 (hb hby d5_216) (fun T668 X668 e668 => ?_)
  show Goes p.tables e below (T668.setTop (mkF m 219 #[.val (.ref p0), .val (.ref a25), .val (.ref a67), .val (.ref a319), .val (.ref a374), .val (.ref a432), .val (.int (0 : Int32)), .val (.int (0 : Int32)), .val (.int (0 : Int32)), .unset, .unset, .unset] [(.ref la), (.int (0 : Int32))])) _
  refine g_iload X668 hx (hb hby d5_219) rfl ?_
  refine g_iaload X668 hx hZ e668 fx645 (i := 0) (v := (.int (0 : Int32))) (by decide) rfl (hb hby d5_221) ?_
  show Goes p.tables e below (T668.setTop (mkF m 222 #[.val (.ref p0), .val (.ref a25), .val (.ref a67), .val (.ref a319), .val (.ref a374), .val (.ref a432), .val (.int (0 : Int32)), .val (.int (0 : Int32)), .val (.int (0 : Int32)), .unset, .unset, .unset] [(.int (0 : Int32)), (.int (0 : Int32))])) _
  refine g_icmp_ge X668 hx (hb hby d5_222) (by decide) (pc' := 249) (by decide) (fun _ => ?_) (fun q => absurd q (by decide))
  show Goes p.tables e below (T668.setTop (mkF m 249 #[.val (.ref p0), .val (.ref a25), .val (.ref a67), .val (.ref a319), .val (.ref a374), .val (.ref a432), .val (.int (0 : Int32)), .val (.int (0 : Int32)), .val (.int (0 : Int32)), .unset, .unset, .unset] [])) _
  refine g_aload X668 hx (hb hby d5_249) rfl rfl ?_
  refine g_iload X668 hx (hb hby d5_251) rfl ?_
  refine g_dup2 X668 hx (hb hby d5_253) rfl rfl ?_
  refine g_daload X668 hx hZ e668 fx665 (i := 0) (v := (.double (FP.l2d ll0))) (by decide) rfl (hb hby d5_254) ?_
  show Goes p.tables e below (T668.setTop (mkF m 255 #[.val (.ref p0), .val (.ref a25), .val (.ref a67), .val (.ref a319), .val (.ref a374), .val (.ref a432), .val (.int (0 : Int32)), .val (.int (0 : Int32)), .val (.int (0 : Int32)), .unset, .unset, .unset] [(.double (FP.l2d ll0)), (.int (0 : Int32)), (.ref a432)])) _
  refine g_aloadN X668 hx (hb hby d5_255) rfl rfl ?_
  refine g_getF X668 hx hZ hown e668 (host := "") (Or.inl (hw _ (List.mem_of_getElem? (i := 27) rfl))) Via.refl fx638 (hb hby d5_256) (fun T669 X669 e669 => ?_)
  show Goes p.tables e below (T669.setTop (mkF m 259 #[.val (.ref p0), .val (.ref a25), .val (.ref a67), .val (.ref a319), .val (.ref a374), .val (.ref a432), .val (.int (0 : Int32)), .val (.int (0 : Int32)), .val (.int (0 : Int32)), .unset, .unset, .unset] [(.ref su), (.double (FP.l2d ll0)), (.int (0 : Int32)), (.ref a432)])) _
  refine g_iload X669 hx (hb hby d5_259) rfl ?_
  refine g_daload X669 hx hZ e669 fx648 (i := 0) (v := (.double (FP.l2d (ll0 - 1)))) (by decide) rfl (hb hby d5_261) ?_
  show Goes p.tables e below (T669.setTop (mkF m 262 #[.val (.ref p0), .val (.ref a25), .val (.ref a67), .val (.ref a319), .val (.ref a374), .val (.ref a432), .val (.int (0 : Int32)), .val (.int (0 : Int32)), .val (.int (0 : Int32)), .unset, .unset, .unset] [(.double (FP.l2d (ll0 - 1))), (.double (FP.l2d ll0)), (.int (0 : Int32)), (.ref a432)])) _
  refine g_dsub X669 hx (FP.l2d 1) (own_sub1 ll0 hll0 hK) (nn_w rfl) (hb hby d5_262) ?_
  show Goes p.tables e below (T669.setTop (mkF m 263 #[.val (.ref p0), .val (.ref a25), .val (.ref a67), .val (.ref a319), .val (.ref a374), .val (.ref a432), .val (.int (0 : Int32)), .val (.int (0 : Int32)), .val (.int (0 : Int32)), .unset, .unset, .unset] [(.double (FP.l2d 1)), (.int (0 : Int32)), (.ref a432)])) _
  refine g_dastore X669 hx hZ e669 fx665 0 (by decide) (by show 0 < 2; decide) (hb hby d5_263) (fun T670 h670 X670 e670 W670 A670 => ?_)
  have fx671 : Sta Z h670 "java/lang/Long$LongCache" "cache" "[Ljava/lang/Long;" (.ref lc) := Sta.wr W670 fx625
  have fx672 : Ar Z h670 lc (.object "java/lang/Long") cl := Ar.other fx626 W670 (Nat.ne_of_lt lt433)
  have fx673 : Exa Z h670 x0 "java/lang/Long" := Exa.wr W670 fx627
  have fx674 : Exa Z h670 x1 "java/lang/Long" := Exa.wr W670 fx628
  have fx675 : Fld Z h670 x0 "java/lang/Long" "value" "J" (.long (0 : Int64)) := Fld.other W670 fx629 (Or.inl (Nat.ne_of_lt lt434))
  have fx676 : Fld Z h670 x1 "java/lang/Long" "value" "J" (.long (1 : Int64)) := Fld.other W670 fx630 (Or.inl (Nat.ne_of_lt lt435))
  have fx677 : Exa Z h670 p0 "com/example/hold/hold/check/ComponentSolver" := Exa.wr W670 fx631
  have fx678 : Fld Z h670 p0 "com/example/hold/hold/check/ComponentSolver" "size" "I" (.int (2 : Int32)) := Fld.other W670 fx632 (Or.inl (Nat.ne_of_lt lt436))
  have fx679 : Fld Z h670 p0 "com/example/hold/hold/check/ComponentSolver" "columns" "[[I" (.ref ca) := Fld.other W670 fx633 (Or.inl (Nat.ne_of_lt lt436))
  have fx680 : Fld Z h670 p0 "com/example/hold/hold/check/ComponentSolver" "values" "[[D" (.ref va) := Fld.other W670 fx634 (Or.inl (Nat.ne_of_lt lt436))
  have fx681 : Fld Z h670 p0 "com/example/hold/hold/check/ComponentSolver" "length" "[I" (.ref la) := Fld.other W670 fx635 (Or.inl (Nat.ne_of_lt lt436))
  have fx682 : Fld Z h670 p0 "com/example/hold/hold/check/ComponentSolver" "leaving" "[D" (.ref lv) := Fld.other W670 fx636 (Or.inl (Nat.ne_of_lt lt436))
  have fx683 : Fld Z h670 p0 "com/example/hold/hold/check/ComponentSolver" "exits" "[D" (.ref ex) := Fld.other W670 fx637 (Or.inl (Nat.ne_of_lt lt436))
  have fx684 : Fld Z h670 p0 "com/example/hold/hold/check/ComponentSolver" "surplus" "[D" (.ref su) := Fld.other W670 fx638 (Or.inl (Nat.ne_of_lt lt436))
  have fx685 : Fld Z h670 p0 "com/example/hold/hold/check/ComponentSolver" "rowsUsingCount" "[I" (.ref rc) := Fld.other W670 fx639 (Or.inl (Nat.ne_of_lt lt436))
  have fx686 : Fld Z h670 p0 "com/example/hold/hold/check/ComponentSolver" "columnCount" "[I" (.ref cc) := Fld.other W670 fx640 (Or.inl (Nat.ne_of_lt lt436))
  have fx687 : Ar Z h670 ca (.array .int) l1t1 := Ar.other fx641 W670 (Nat.ne_of_lt lt437)
  have fx688 : Ovc Z h670 ca "[I" := Ovc.wr fx642 W670
  have fx689 : Ar Z h670 va (.array .double) l2t1 := Ar.other fx643 W670 (Nat.ne_of_lt lt438)
  have fx690 : Ovc Z h670 va "[D" := Ovc.wr fx644 W670
  have fx691 : Ar Z h670 la .int [(.int (0 : Int32)), (.int (0 : Int32))] := Ar.other fx645 W670 (Nat.ne_of_lt lt439)
  have fx692 : Ar Z h670 lv .double [(.double (FP.l2d ll0)), (.double (FP.l2d ll1))] := Ar.other fx646 W670 (Nat.ne_of_lt lt440)
  have fx693 : Ar Z h670 ex .double [(.double (FP.l2d ee0)), (.double (FP.l2d ee1))] := Ar.other fx647 W670 (Nat.ne_of_lt lt441)
  have fx694 : Ar Z h670 su .double [(.double (FP.l2d (ll0 - 1))), (.double (FP.l2d (ll1 - 1)))] := Ar.other fx648 W670 (Nat.ne_of_lt lt442)
  have fx695 : Ar Z h670 rc .int [(.int (0 : Int32)), (.int (0 : Int32))] := Ar.other fx649 W670 (Nat.ne_of_lt lt443)
  have fx696 : Ar Z h670 cc .int [(.int (0 : Int32)), (.int (0 : Int32))] := Ar.other fx650 W670 (Nat.ne_of_lt lt444)
  have fx697 : Exa Z h670 a25 "[I" := Exa.wr W670 fx651
  have fx698 : Exa Z h670 a67 "java/util/PriorityQueue" := Exa.wr W670 fx652
  have fx699 : Ovc Z h670 qa "java/lang/Object" := Ovc.wr fx653 W670
  have fx700 : Ar Z h670 a25 .int [(.int (0 : Int32)), (.int (0 : Int32))] := Ar.other fx654 W670 (Nat.ne_of_lt lt445)
  have fx701 : Exa Z h670 a319 "[Z" := Exa.wr W670 fx655
  have fx702 : Exa Z h670 a374 "[I" := Exa.wr W670 fx656
  have fx703 : Exa Z h670 a432 "[D" := Exa.wr W670 fx657
  have fx704 : Fld Z h670 a67 "java/util/PriorityQueue" "queue" "[Ljava/lang/Object;" (.ref qa) := Fld.other W670 fx658 (Or.inl (Nat.ne_of_lt lt446))
  have fx705 : Fld Z h670 a67 "java/util/PriorityQueue" "size" "I" (.int (1 : Int32)) := Fld.other W670 fx659 (Or.inl (Nat.ne_of_lt lt446))
  have fx706 : Fld Z h670 a67 "java/util/PriorityQueue" "comparator" "Ljava/util/Comparator;" .null := Fld.other W670 fx660 (Or.inl (Nat.ne_of_lt lt446))
  have fx707 : Fld Z h670 a67 "java/util/PriorityQueue" "modCount" "I" (.int (3 : Int32)) := Fld.other W670 fx661 (Or.inl (Nat.ne_of_lt lt446))
  have fx708 : Ar Z h670 qa (.object "java/lang/Object") [(.ref x1), .null, .null, .null, .null, .null, .null, .null, .null, .null, .null] := Ar.other fx662 W670 (Nat.ne_of_lt lt447)
  have fx709 : Ar Z h670 a319 .boolean [(.int (1 : Int32)), (.int (0 : Int32))] := Ar.other fx663 W670 (Nat.ne_of_lt lt448)
  have fx710 : Ar Z h670 a374 .int [(.int (0 : Int32)), (.int (0 : Int32))] := Ar.other fx664 W670 (Nat.ne_of_lt lt449)
  have fx711 : Ar Z h670 a432 .double [(.double (FP.l2d 1)), (.double (FP.l2d 0))] := A670
  have N712 := Fr.snoc X670 N666 ge450
  have Z713 : n0 ≤ h670.size := by rw [W670.size]; exact Z667
  show Goes p.tables e below (T670.setTop (mkF m 264 #[.val (.ref p0), .val (.ref a25), .val (.ref a67), .val (.ref a319), .val (.ref a374), .val (.ref a432), .val (.int (0 : Int32)), .val (.int (0 : Int32)), .val (.int (0 : Int32)), .unset, .unset, .unset] [])) _
  refine g_iconst X670 hx (0 : Int32) (hb hby d5_264) rfl ?_
  refine g_istore X670 hx (hb hby d5_265) (l' := #[.val (.ref p0), .val (.ref a25), .val (.ref a67), .val (.ref a319), .val (.ref a374), .val (.ref a432), .val (.int (0 : Int32)), .val (.int (0 : Int32)), .val (.int (0 : Int32)), .unset, .unset, .unset]) rfl ?_
  refine g_iload X670 hx (hb hby d5_267) rfl ?_
  refine g_aloadN X670 hx (hb hby d5_269) rfl rfl ?_
  refine g_getF X670 hx hZ hown e670 (host := "") (Or.inl (hw _ (List.mem_of_getElem? (i := 31) rfl))) Via.refl fx685 (hb hby d5_270) (fun T714 X714 e714 => ?_)
  show Goes p.tables e below (T714.setTop (mkF m 273 #[.val (.ref p0), .val (.ref a25), .val (.ref a67), .val (.ref a319), .val (.ref a374), .val (.ref a432), .val (.int (0 : Int32)), .val (.int (0 : Int32)), .val (.int (0 : Int32)), .unset, .unset, .unset] [(.ref rc), (.int (0 : Int32))])) _
  refine g_iload X714 hx (hb hby d5_273) rfl ?_
  refine g_iaload X714 hx hZ e714 fx695 (i := 0) (v := (.int (0 : Int32))) (by decide) rfl (hb hby d5_275) ?_
  show Goes p.tables e below (T714.setTop (mkF m 276 #[.val (.ref p0), .val (.ref a25), .val (.ref a67), .val (.ref a319), .val (.ref a374), .val (.ref a432), .val (.int (0 : Int32)), .val (.int (0 : Int32)), .val (.int (0 : Int32)), .unset, .unset, .unset] [(.int (0 : Int32)), (.int (0 : Int32))])) _
  refine g_icmp_ge X714 hx (hb hby d5_276) (by decide) (pc' := 319) (by decide) (fun _ => ?_) (fun q => absurd q (by decide))
  show Goes p.tables e below (T714.setTop (mkF m 319 #[.val (.ref p0), .val (.ref a25), .val (.ref a67), .val (.ref a319), .val (.ref a374), .val (.ref a432), .val (.int (0 : Int32)), .val (.int (0 : Int32)), .val (.int (0 : Int32)), .unset, .unset, .unset] [])) _
  refine g_iconst X714 hx (0 : Int32) (hb hby d5_319) rfl ?_
  refine g_istore X714 hx (hb hby d5_320) (l' := #[.val (.ref p0), .val (.ref a25), .val (.ref a67), .val (.ref a319), .val (.ref a374), .val (.ref a432), .val (.int (0 : Int32)), .val (.int (0 : Int32)), .val (.int (0 : Int32)), .unset, .unset, .unset]) rfl ?_
  refine g_iload X714 hx (hb hby d5_322) rfl ?_
  refine g_aloadN X714 hx (hb hby d5_324) rfl rfl ?_
  refine g_getF X714 hx hZ hown e714 (host := "") (Or.inl (hw _ (List.mem_of_getElem? (i := 20) rfl))) Via.refl fx681 (hb hby d5_325) (fun T715 X715 e715 => ?_)
  show Goes p.tables e below (T715.setTop (mkF m 328 #[.val (.ref p0), .val (.ref a25), .val (.ref a67), .val (.ref a319), .val (.ref a374), .val (.ref a432), .val (.int (0 : Int32)), .val (.int (0 : Int32)), .val (.int (0 : Int32)), .unset, .unset, .unset] [(.ref la), (.int (0 : Int32))])) _
  refine g_iload X715 hx (hb hby d5_328) rfl ?_
  refine g_iaload X715 hx hZ e715 fx691 (i := 0) (v := (.int (0 : Int32))) (by decide) rfl (hb hby d5_330) ?_
  show Goes p.tables e below (T715.setTop (mkF m 331 #[.val (.ref p0), .val (.ref a25), .val (.ref a67), .val (.ref a319), .val (.ref a374), .val (.ref a432), .val (.int (0 : Int32)), .val (.int (0 : Int32)), .val (.int (0 : Int32)), .unset, .unset, .unset] [(.int (0 : Int32)), (.int (0 : Int32))])) _
  refine g_icmp_ge X715 hx (hb hby d5_331) (by decide) (pc' := 371) (by decide) (fun _ => ?_) (fun q => absurd q (by decide))
  show Goes p.tables e below (T715.setTop (mkF m 371 #[.val (.ref p0), .val (.ref a25), .val (.ref a67), .val (.ref a319), .val (.ref a374), .val (.ref a432), .val (.int (0 : Int32)), .val (.int (0 : Int32)), .val (.int (0 : Int32)), .unset, .unset, .unset] [])) _
  refine g_iinc X715 hx (1 : Int32) (hb hby d5_371) rfl rfl (l' := #[.val (.ref p0), .val (.ref a25), .val (.ref a67), .val (.ref a319), .val (.ref a374), .val (.ref a432), .val (.int (1 : Int32)), .val (.int (0 : Int32)), .val (.int (0 : Int32)), .unset, .unset, .unset]) rfl ?_
  refine g_goto X715 hx (hb hby d5_374) (by decide) (pc' := 132) (by decide) ?_
  refine g_iload X715 hx (hb hby d5_132) rfl ?_
  refine g_aloadN X715 hx (hb hby d5_134) rfl rfl ?_
  refine g_getF X715 hx hZ hown e715 (host := "") (Or.inl (hw _ (List.mem_of_getElem? (i := 9) rfl))) Via.refl fx678 (hb hby d5_135) (fun T716 X716 e716 => ?_)
  show Goes p.tables e below (T716.setTop (mkF m 138 #[.val (.ref p0), .val (.ref a25), .val (.ref a67), .val (.ref a319), .val (.ref a374), .val (.ref a432), .val (.int (1 : Int32)), .val (.int (0 : Int32)), .val (.int (0 : Int32)), .unset, .unset, .unset] [(.int (2 : Int32)), (.int (1 : Int32))])) _
  refine g_icmp_ge X716 hx (hb hby d5_138) (by decide) (pc' := 377) (by decide) (fun q => absurd (by decide) q) (fun _ => ?_)
  show Goes p.tables e below (T716.setTop (mkF m 141 #[.val (.ref p0), .val (.ref a25), .val (.ref a67), .val (.ref a319), .val (.ref a374), .val (.ref a432), .val (.int (1 : Int32)), .val (.int (0 : Int32)), .val (.int (0 : Int32)), .unset, .unset, .unset] [])) _
  refine g_aloadN X716 hx (hb hby d5_141) rfl rfl ?_
  refine g_callV X716 hx hZ hown (by rw [hml]; rfl) e716 (K := "java/util/PriorityQueue") (hw _ (List.mem_of_getElem? (i := 166) rfl)) (hw _ (List.mem_of_getElem? (i := 167) rfl)) (hw _ (List.mem_of_getElem? (i := 169) rfl)) (hw _ (List.mem_of_getElem? (i := 168) rfl)) (hw _ (List.mem_of_getElem? (i := 73) rfl)) (hw _ (List.mem_of_getElem? (i := 170) rfl)) fx698 (rmPo1 l Z a0 hw a67 h670 n0 Z713 qa x0 x1 fx704 fx705 fx706 fx707 fx698 fx708 fx699 ge81 gqa (Ne.symm (Nat.ne_of_lt lt129))) [] rfl [] rfl (lenOf pd_26 rfl) (hb hby d5_142) (by decide) 0 (by decide) (by decide) (by first | decide | exact Nat.le_refl _) (by decide) (by decide) (fun v T717 L717 X717 hQ717 => ?_)
  obtain ⟨rfl, Np1, Kp1, o11, o12, o13, o14, o15⟩ := hQ717
  have fx718 : Sta Z T717.heap "java/lang/Long$LongCache" "cache" "[Ljava/lang/Long;" (.ref lc) := own_stakeep fx671 Kp1 (allS (own_nst fx698) (allS (own_nstA fx708) all0))
  have fx719 : Ar Z T717.heap lc (.object "java/lang/Long") cl := Ar.keep fx672 Kp1 (ninS (Nat.ne_of_lt lt68) (ninS (Nat.ne_of_lt lt116) nin0))
  have fx720 : Exa Z T717.heap x0 "java/lang/Long" := Exa.keep fx673 Kp1
  have fx721 : Exa Z T717.heap x1 "java/lang/Long" := Exa.keep fx674 Kp1
  have fx722 : Fld Z T717.heap x0 "java/lang/Long" "value" "J" (.long (0 : Int64)) := Fld.keep fx675 Kp1 (ninS (Nat.ne_of_lt lt69) (ninS (Nat.ne_of_lt lt117) nin0))
  have fx723 : Fld Z T717.heap x1 "java/lang/Long" "value" "J" (.long (1 : Int64)) := Fld.keep fx676 Kp1 (ninS (Nat.ne_of_lt lt70) (ninS (Nat.ne_of_lt lt118) nin0))
  have fx724 : Exa Z T717.heap p0 "com/example/hold/hold/check/ComponentSolver" := Exa.keep fx677 Kp1
  have fx725 : Fld Z T717.heap p0 "com/example/hold/hold/check/ComponentSolver" "size" "I" (.int (2 : Int32)) := Fld.keep fx678 Kp1 (ninS (Nat.ne_of_lt lt71) (ninS (Nat.ne_of_lt lt119) nin0))
  have fx726 : Fld Z T717.heap p0 "com/example/hold/hold/check/ComponentSolver" "columns" "[[I" (.ref ca) := Fld.keep fx679 Kp1 (ninS (Nat.ne_of_lt lt71) (ninS (Nat.ne_of_lt lt119) nin0))
  have fx727 : Fld Z T717.heap p0 "com/example/hold/hold/check/ComponentSolver" "values" "[[D" (.ref va) := Fld.keep fx680 Kp1 (ninS (Nat.ne_of_lt lt71) (ninS (Nat.ne_of_lt lt119) nin0))
  have fx728 : Fld Z T717.heap p0 "com/example/hold/hold/check/ComponentSolver" "length" "[I" (.ref la) := Fld.keep fx681 Kp1 (ninS (Nat.ne_of_lt lt71) (ninS (Nat.ne_of_lt lt119) nin0))
  have fx729 : Fld Z T717.heap p0 "com/example/hold/hold/check/ComponentSolver" "leaving" "[D" (.ref lv) := Fld.keep fx682 Kp1 (ninS (Nat.ne_of_lt lt71) (ninS (Nat.ne_of_lt lt119) nin0))
  have fx730 : Fld Z T717.heap p0 "com/example/hold/hold/check/ComponentSolver" "exits" "[D" (.ref ex) := Fld.keep fx683 Kp1 (ninS (Nat.ne_of_lt lt71) (ninS (Nat.ne_of_lt lt119) nin0))
  have fx731 : Fld Z T717.heap p0 "com/example/hold/hold/check/ComponentSolver" "surplus" "[D" (.ref su) := Fld.keep fx684 Kp1 (ninS (Nat.ne_of_lt lt71) (ninS (Nat.ne_of_lt lt119) nin0))
  have fx732 : Fld Z T717.heap p0 "com/example/hold/hold/check/ComponentSolver" "rowsUsingCount" "[I" (.ref rc) := Fld.keep fx685 Kp1 (ninS (Nat.ne_of_lt lt71) (ninS (Nat.ne_of_lt lt119) nin0))
  have fx733 : Fld Z T717.heap p0 "com/example/hold/hold/check/ComponentSolver" "columnCount" "[I" (.ref cc) := Fld.keep fx686 Kp1 (ninS (Nat.ne_of_lt lt71) (ninS (Nat.ne_of_lt lt119) nin0))
  have fx734 : Ar Z T717.heap ca (.array .int) l1t1 := Ar.keep fx687 Kp1 (ninS (Nat.ne_of_lt lt72) (ninS (Nat.ne_of_lt lt120) nin0))
  have fx735 : Ovc Z T717.heap ca "[I" := Ovc.keep fx688 Kp1
  have fx736 : Ar Z T717.heap va (.array .double) l2t1 := Ar.keep fx689 Kp1 (ninS (Nat.ne_of_lt lt73) (ninS (Nat.ne_of_lt lt121) nin0))
  have fx737 : Ovc Z T717.heap va "[D" := Ovc.keep fx690 Kp1
  have fx738 : Ar Z T717.heap la .int [(.int (0 : Int32)), (.int (0 : Int32))] := Ar.keep fx691 Kp1 (ninS (Nat.ne_of_lt lt74) (ninS (Nat.ne_of_lt lt122) nin0))
  have fx739 : Ar Z T717.heap lv .double [(.double (FP.l2d ll0)), (.double (FP.l2d ll1))] := Ar.keep fx692 Kp1 (ninS (Nat.ne_of_lt lt75) (ninS (Nat.ne_of_lt lt123) nin0))
  have fx740 : Ar Z T717.heap ex .double [(.double (FP.l2d ee0)), (.double (FP.l2d ee1))] := Ar.keep fx693 Kp1 (ninS (Nat.ne_of_lt lt76) (ninS (Nat.ne_of_lt lt124) nin0))
  have fx741 : Ar Z T717.heap su .double [(.double (FP.l2d (ll0 - 1))), (.double (FP.l2d (ll1 - 1)))] := Ar.keep fx694 Kp1 (ninS (Nat.ne_of_lt lt77) (ninS (Nat.ne_of_lt lt125) nin0))
  have fx742 : Ar Z T717.heap rc .int [(.int (0 : Int32)), (.int (0 : Int32))] := Ar.keep fx695 Kp1 (ninS (Nat.ne_of_lt lt78) (ninS (Nat.ne_of_lt lt126) nin0))
  have fx743 : Ar Z T717.heap cc .int [(.int (0 : Int32)), (.int (0 : Int32))] := Ar.keep fx696 Kp1 (ninS (Nat.ne_of_lt lt79) (ninS (Nat.ne_of_lt lt127) nin0))
  have fx744 : Exa Z T717.heap a25 "[I" := Exa.keep fx697 Kp1
  have fx745 : Exa Z T717.heap a67 "java/util/PriorityQueue" := Exa.keep fx698 Kp1
  have fx746 : Ovc Z T717.heap qa "java/lang/Object" := Ovc.keep fx699 Kp1
  have fx747 : Ar Z T717.heap a25 .int [(.int (0 : Int32)), (.int (0 : Int32))] := Ar.keep fx700 Kp1 (ninS (Nat.ne_of_lt lt80) (ninS (Nat.ne_of_lt lt128) nin0))
  have fx748 : Exa Z T717.heap a319 "[Z" := Exa.keep fx701 Kp1
  have fx749 : Exa Z T717.heap a374 "[I" := Exa.keep fx702 Kp1
  have fx750 : Exa Z T717.heap a432 "[D" := Exa.keep fx703 Kp1
  have fx751 : Ar Z T717.heap a319 .boolean [(.int (1 : Int32)), (.int (0 : Int32))] := Ar.keep fx709 Kp1 (ninS (Ne.symm (Nat.ne_of_lt lt333)) (ninS (Ne.symm (Nat.ne_of_lt lt334)) nin0))
  have fx752 : Ar Z T717.heap a374 .int [(.int (0 : Int32)), (.int (0 : Int32))] := Ar.keep fx710 Kp1 (ninS (Ne.symm (Nat.ne_of_lt lt388)) (ninS (Ne.symm (Nat.ne_of_lt lt389)) nin0))
  have fx753 : Ar Z T717.heap a432 .double [(.double (FP.l2d 1)), (.double (FP.l2d 0))] := Ar.keep fx711 Kp1 (ninS (Ne.symm (Nat.ne_of_lt lt446)) (ninS (Ne.symm (Nat.ne_of_lt lt447)) nin0))
  have N754 := Fr.app N712 Np1
  have Z755 : n0 ≤ T717.heap.size := Nat.le_trans Z713 Kp1.1
  show Goes p.tables e below (T717.setTop (mkF m 145 #[.val (.ref p0), .val (.ref a25), .val (.ref a67), .val (.ref a319), .val (.ref a374), .val (.ref a432), .val (.int (1 : Int32)), .val (.int (0 : Int32)), .val (.int (0 : Int32)), .unset, .unset, .unset] [(.ref x1)])) _
  refine g_cast X717 hx hZ hown rfl (hw _ (List.mem_of_getElem? (i := 174) rfl)) (Ins.self fx721) (hb hby d5_145) (fun T756 X756 e756 => ?_)
  show Goes p.tables e below (T756.setTop (mkF m 148 #[.val (.ref p0), .val (.ref a25), .val (.ref a67), .val (.ref a319), .val (.ref a374), .val (.ref a432), .val (.int (1 : Int32)), .val (.int (0 : Int32)), .val (.int (0 : Int32)), .unset, .unset, .unset] [(.ref x1)])) _
  refine g_callV X756 hx hZ hown (by rw [hml]; rfl) e756 (K := "java/lang/Long") (hw _ (List.mem_of_getElem? (i := 175) rfl)) (hw _ (List.mem_of_getElem? (i := 176) rfl)) (hw _ (List.mem_of_getElem? (i := 178) rfl)) (hw _ (List.mem_of_getElem? (i := 177) rfl)) (hw _ (List.mem_of_getElem? (i := 114) rfl)) (hw _ (List.mem_of_getElem? (i := 179) rfl)) fx721 (rmLV1 l Z a0 hw x1 T717.heap n0 Z755 fx723) [] rfl [] rfl (lenOf pd_28 rfl) (hb hby d5_148) (by decide) 0 (by decide) (by decide) (by first | decide | exact Nat.le_refl _) (by decide) (by decide) (fun v T757 L757 X757 hQ757 => ?_)
  obtain ⟨rfl, e757, rfl⟩ := hQ757
  have N758 := Fr.app N754 (Fr.nil n0)
  show Goes p.tables e below (T757.setTop (mkF m 151 #[.val (.ref p0), .val (.ref a25), .val (.ref a67), .val (.ref a319), .val (.ref a374), .val (.ref a432), .val (.int (1 : Int32)), .val (.int (0 : Int32)), .val (.int (0 : Int32)), .unset, .unset, .unset] [(.long (1 : Int64))])) _
  refine g_lstore X757 hx (hb hby d5_151) (l' := #[.val (.ref p0), .val (.ref a25), .val (.ref a67), .val (.ref a319), .val (.ref a374), .val (.ref a432), .val (.int (1 : Int32)), .val (.int (0 : Int32)), .val (.long (1 : Int64)), .second, .unset, .unset]) rfl ?_
  refine g_lload X757 hx (hb hby d5_153) rfl ?_
  refine g_l2i X757 hx (hb hby d5_155) ?_
  refine g_nameI (v := (1 : Int32)) (by decide) ?_
  refine g_istore X757 hx (hb hby d5_156) (l' := #[.val (.ref p0), .val (.ref a25), .val (.ref a67), .val (.ref a319), .val (.ref a374), .val (.ref a432), .val (.int (1 : Int32)), .val (.int (1 : Int32)), .val (.long (1 : Int64)), .second, .unset, .unset]) rfl ?_
  refine g_aloadN X757 hx (hb hby d5_158) rfl rfl ?_
  refine g_iload X757 hx (hb hby d5_159) rfl ?_
  show Goes p.tables e below (T757.setTop (mkF m 161 #[.val (.ref p0), .val (.ref a25), .val (.ref a67), .val (.ref a319), .val (.ref a374), .val (.ref a432), .val (.int (1 : Int32)), .val (.int (1 : Int32)), .val (.long (1 : Int64)), .second, .unset, .unset] [(.int (1 : Int32)), (.ref a319)])) _
  refine g_zaload X757 hx hZ e757 fx751 (i := 1) (v := (.int (0 : Int32))) (by decide) rfl (hb hby d5_161) ?_
  show Goes p.tables e below (T757.setTop (mkF m 162 #[.val (.ref p0), .val (.ref a25), .val (.ref a67), .val (.ref a319), .val (.ref a374), .val (.ref a432), .val (.int (1 : Int32)), .val (.int (1 : Int32)), .val (.long (1 : Int64)), .second, .unset, .unset] [(.int (0 : Int32))])) _
  refine g_if_ne X757 hx (hb hby d5_162) (by decide) (pc' := 178) (by decide) (fun q => absurd (by decide) q) (fun _ => ?_)
  show Goes p.tables e below (T757.setTop (mkF m 165 #[.val (.ref p0), .val (.ref a25), .val (.ref a67), .val (.ref a319), .val (.ref a374), .val (.ref a432), .val (.int (1 : Int32)), .val (.int (1 : Int32)), .val (.long (1 : Int64)), .second, .unset, .unset] [])) _
  refine g_lload X757 hx (hb hby d5_165) rfl ?_
  refine g_bipush X757 hx (32 : Int32) (hb hby d5_167) (by decide) ?_
  refine g_lushr X757 hx (hb hby d5_169) ?_
  refine g_nameL (v := (0 : Int64)) (by decide) ?_
  refine g_l2i X757 hx (hb hby d5_170) ?_
  refine g_nameI (v := (0 : Int32)) (by decide) ?_
  refine g_aloadN X757 hx (hb hby d5_171) rfl rfl ?_
  refine g_iload X757 hx (hb hby d5_172) rfl ?_
  show Goes p.tables e below (T757.setTop (mkF m 174 #[.val (.ref p0), .val (.ref a25), .val (.ref a67), .val (.ref a319), .val (.ref a374), .val (.ref a432), .val (.int (1 : Int32)), .val (.int (1 : Int32)), .val (.long (1 : Int64)), .second, .unset, .unset] [(.int (1 : Int32)), (.ref a25), (.int (0 : Int32))])) _
  refine g_iaload X757 hx hZ e757 fx747 (i := 1) (v := (.int (0 : Int32))) (by decide) rfl (hb hby d5_174) ?_
  show Goes p.tables e below (T757.setTop (mkF m 175 #[.val (.ref p0), .val (.ref a25), .val (.ref a67), .val (.ref a319), .val (.ref a374), .val (.ref a432), .val (.int (1 : Int32)), .val (.int (1 : Int32)), .val (.long (1 : Int64)), .second, .unset, .unset] [(.int (0 : Int32)), (.int (0 : Int32))])) _
  refine g_icmp_eq X757 hx (hb hby d5_175) (by decide) (pc' := 181) (by decide) (fun _ => ?_) (fun q => absurd (by decide) q)
  show Goes p.tables e below (T757.setTop (mkF m 181 #[.val (.ref p0), .val (.ref a25), .val (.ref a67), .val (.ref a319), .val (.ref a374), .val (.ref a432), .val (.int (1 : Int32)), .val (.int (1 : Int32)), .val (.long (1 : Int64)), .second, .unset, .unset] [])) _
  refine g_iload X757 hx (hb hby d5_181) rfl ?_
  refine g_if_lt X757 hx (hb hby d5_183) (by decide) (pc' := 141) (by decide) (fun q => absurd q (by decide)) (fun _ => ?_)
  show Goes p.tables e below (T757.setTop (mkF m 186 #[.val (.ref p0), .val (.ref a25), .val (.ref a67), .val (.ref a319), .val (.ref a374), .val (.ref a432), .val (.int (1 : Int32)), .val (.int (1 : Int32)), .val (.long (1 : Int64)), .second, .unset, .unset] [])) _
  refine g_aloadN X757 hx (hb hby d5_186) rfl rfl ?_
  refine g_iload X757 hx (hb hby d5_187) rfl ?_
  refine g_iconst X757 hx (1 : Int32) (hb hby d5_189) rfl ?_
  refine g_zastore X757 hx hZ e757 fx751 1 (by decide) (by show 1 < 2; decide) (1 : Int32) (by decide) (hb hby d5_190) (fun T759 h759 X759 e759 W759 A759 => ?_)
  have fx760 : Sta Z h759 "java/lang/Long$LongCache" "cache" "[Ljava/lang/Long;" (.ref lc) := Sta.wr W759 fx718
  have fx761 : Ar Z h759 lc (.object "java/lang/Long") cl := Ar.other fx719 W759 (Nat.ne_of_lt lt320)
  have fx762 : Exa Z h759 x0 "java/lang/Long" := Exa.wr W759 fx720
  have fx763 : Exa Z h759 x1 "java/lang/Long" := Exa.wr W759 fx721
  have fx764 : Fld Z h759 x0 "java/lang/Long" "value" "J" (.long (0 : Int64)) := Fld.other W759 fx722 (Or.inl (Nat.ne_of_lt lt321))
  have fx765 : Fld Z h759 x1 "java/lang/Long" "value" "J" (.long (1 : Int64)) := Fld.other W759 fx723 (Or.inl (Nat.ne_of_lt lt322))
  have fx766 : Exa Z h759 p0 "com/example/hold/hold/check/ComponentSolver" := Exa.wr W759 fx724
  have fx767 : Fld Z h759 p0 "com/example/hold/hold/check/ComponentSolver" "size" "I" (.int (2 : Int32)) := Fld.other W759 fx725 (Or.inl (Nat.ne_of_lt lt323))
  have fx768 : Fld Z h759 p0 "com/example/hold/hold/check/ComponentSolver" "columns" "[[I" (.ref ca) := Fld.other W759 fx726 (Or.inl (Nat.ne_of_lt lt323))
  have fx769 : Fld Z h759 p0 "com/example/hold/hold/check/ComponentSolver" "values" "[[D" (.ref va) := Fld.other W759 fx727 (Or.inl (Nat.ne_of_lt lt323))
  have fx770 : Fld Z h759 p0 "com/example/hold/hold/check/ComponentSolver" "length" "[I" (.ref la) := Fld.other W759 fx728 (Or.inl (Nat.ne_of_lt lt323))
  have fx771 : Fld Z h759 p0 "com/example/hold/hold/check/ComponentSolver" "leaving" "[D" (.ref lv) := Fld.other W759 fx729 (Or.inl (Nat.ne_of_lt lt323))
  have fx772 : Fld Z h759 p0 "com/example/hold/hold/check/ComponentSolver" "exits" "[D" (.ref ex) := Fld.other W759 fx730 (Or.inl (Nat.ne_of_lt lt323))
  have fx773 : Fld Z h759 p0 "com/example/hold/hold/check/ComponentSolver" "surplus" "[D" (.ref su) := Fld.other W759 fx731 (Or.inl (Nat.ne_of_lt lt323))
  have fx774 : Fld Z h759 p0 "com/example/hold/hold/check/ComponentSolver" "rowsUsingCount" "[I" (.ref rc) := Fld.other W759 fx732 (Or.inl (Nat.ne_of_lt lt323))
  have fx775 : Fld Z h759 p0 "com/example/hold/hold/check/ComponentSolver" "columnCount" "[I" (.ref cc) := Fld.other W759 fx733 (Or.inl (Nat.ne_of_lt lt323))
  have fx776 : Ar Z h759 ca (.array .int) l1t1 := Ar.other fx734 W759 (Nat.ne_of_lt lt324)
  have fx777 : Ovc Z h759 ca "[I" := Ovc.wr fx735 W759
  have fx778 : Ar Z h759 va (.array .double) l2t1 := Ar.other fx736 W759 (Nat.ne_of_lt lt325)
  have fx779 : Ovc Z h759 va "[D" := Ovc.wr fx737 W759
  have fx780 : Ar Z h759 la .int [(.int (0 : Int32)), (.int (0 : Int32))] := Ar.other fx738 W759 (Nat.ne_of_lt lt326)
  have fx781 : Ar Z h759 lv .double [(.double (FP.l2d ll0)), (.double (FP.l2d ll1))] := Ar.other fx739 W759 (Nat.ne_of_lt lt327)
  have fx782 : Ar Z h759 ex .double [(.double (FP.l2d ee0)), (.double (FP.l2d ee1))] := Ar.other fx740 W759 (Nat.ne_of_lt lt328)
  have fx783 : Ar Z h759 su .double [(.double (FP.l2d (ll0 - 1))), (.double (FP.l2d (ll1 - 1)))] := Ar.other fx741 W759 (Nat.ne_of_lt lt329)
  have fx784 : Ar Z h759 rc .int [(.int (0 : Int32)), (.int (0 : Int32))] := Ar.other fx742 W759 (Nat.ne_of_lt lt330)
  have fx785 : Ar Z h759 cc .int [(.int (0 : Int32)), (.int (0 : Int32))] := Ar.other fx743 W759 (Nat.ne_of_lt lt331)
  have fx786 : Exa Z h759 a25 "[I" := Exa.wr W759 fx744
  have fx787 : Exa Z h759 a67 "java/util/PriorityQueue" := Exa.wr W759 fx745
  have fx788 : Ovc Z h759 qa "java/lang/Object" := Ovc.wr fx746 W759
  have fx789 : Ar Z h759 a25 .int [(.int (0 : Int32)), (.int (0 : Int32))] := Ar.other fx747 W759 (Nat.ne_of_lt lt332)
  have fx790 : Exa Z h759 a319 "[Z" := Exa.wr W759 fx748
  have fx791 : Exa Z h759 a374 "[I" := Exa.wr W759 fx749
  have fx792 : Exa Z h759 a432 "[D" := Exa.wr W759 fx750
  have fx793 : Ar Z h759 a374 .int [(.int (0 : Int32)), (.int (0 : Int32))] := Ar.other fx752 W759 (Ne.symm (Nat.ne_of_lt lt390))
  have fx794 : Ar Z h759 a432 .double [(.double (FP.l2d 1)), (.double (FP.l2d 0))] := Ar.other fx753 W759 (Ne.symm (Nat.ne_of_lt lt448))
  have fx795 : Fld Z h759 a67 "java/util/PriorityQueue" "queue" "[Ljava/lang/Object;" (.ref qa) := Fld.other W759 o11 (Or.inl (Nat.ne_of_lt lt333))
  have fx796 : Fld Z h759 a67 "java/util/PriorityQueue" "size" "I" (.int (0 : Int32)) := Fld.other W759 o12 (Or.inl (Nat.ne_of_lt lt333))
  have fx797 : Fld Z h759 a67 "java/util/PriorityQueue" "comparator" "Ljava/util/Comparator;" .null := Fld.other W759 o13 (Or.inl (Nat.ne_of_lt lt333))
  have fx798 : Fld Z h759 a67 "java/util/PriorityQueue" "modCount" "I" (.int (4 : Int32)) := Fld.other W759 o14 (Or.inl (Nat.ne_of_lt lt333))
  have fx799 : Ar Z h759 qa (.object "java/lang/Object") [.null, .null, .null, .null, .null, .null, .null, .null, .null, .null, .null] := Ar.other o15 W759 (Nat.ne_of_lt lt334)
  have fx800 : Ar Z h759 a319 .boolean [(.int (1 : Int32)), (.int (1 : Int32))] := A759
  have N801 := Fr.snoc X759 N758 ge335
  have Z802 : n0 ≤ h759.size := by rw [W759.size]; exact Z755
  show Goes p.tables e below (T759.setTop (mkF m 191 #[.val (.ref p0), .val (.ref a25), .val (.ref a67), .val (.ref a319), .val (.ref a374), .val (.ref a432), .val (.int (1 : Int32)), .val (.int (1 : Int32)), .val (.long (1 : Int64)), .second, .unset, .unset] [])) _
  refine g_aload X759 hx (hb hby d5_191) rfl rfl ?_
  refine g_iload X759 hx (hb hby d5_193) rfl ?_
  refine g_iload X759 hx (hb hby d5_195) rfl ?_
  refine g_iastore X759 hx hZ e759 fx793 1 (by decide) (by show 1 < 2; decide) (hb hby d5_197) (fun T803 h803 X803 e803 W803 A803 => ?_)
  have fx804 : Sta Z h803 "java/lang/Long$LongCache" "cache" "[Ljava/lang/Long;" (.ref lc) := Sta.wr W803 fx760
  have fx805 : Ar Z h803 lc (.object "java/lang/Long") cl := Ar.other fx761 W803 (Nat.ne_of_lt lt375)
  have fx806 : Exa Z h803 x0 "java/lang/Long" := Exa.wr W803 fx762
  have fx807 : Exa Z h803 x1 "java/lang/Long" := Exa.wr W803 fx763
  have fx808 : Fld Z h803 x0 "java/lang/Long" "value" "J" (.long (0 : Int64)) := Fld.other W803 fx764 (Or.inl (Nat.ne_of_lt lt376))
  have fx809 : Fld Z h803 x1 "java/lang/Long" "value" "J" (.long (1 : Int64)) := Fld.other W803 fx765 (Or.inl (Nat.ne_of_lt lt377))
  have fx810 : Exa Z h803 p0 "com/example/hold/hold/check/ComponentSolver" := Exa.wr W803 fx766
  have fx811 : Fld Z h803 p0 "com/example/hold/hold/check/ComponentSolver" "size" "I" (.int (2 : Int32)) := Fld.other W803 fx767 (Or.inl (Nat.ne_of_lt lt378))
  have fx812 : Fld Z h803 p0 "com/example/hold/hold/check/ComponentSolver" "columns" "[[I" (.ref ca) := Fld.other W803 fx768 (Or.inl (Nat.ne_of_lt lt378))
  have fx813 : Fld Z h803 p0 "com/example/hold/hold/check/ComponentSolver" "values" "[[D" (.ref va) := Fld.other W803 fx769 (Or.inl (Nat.ne_of_lt lt378))
  have fx814 : Fld Z h803 p0 "com/example/hold/hold/check/ComponentSolver" "length" "[I" (.ref la) := Fld.other W803 fx770 (Or.inl (Nat.ne_of_lt lt378))
  have fx815 : Fld Z h803 p0 "com/example/hold/hold/check/ComponentSolver" "leaving" "[D" (.ref lv) := Fld.other W803 fx771 (Or.inl (Nat.ne_of_lt lt378))
  have fx816 : Fld Z h803 p0 "com/example/hold/hold/check/ComponentSolver" "exits" "[D" (.ref ex) := Fld.other W803 fx772 (Or.inl (Nat.ne_of_lt lt378))
  have fx817 : Fld Z h803 p0 "com/example/hold/hold/check/ComponentSolver" "surplus" "[D" (.ref su) := Fld.other W803 fx773 (Or.inl (Nat.ne_of_lt lt378))
  have fx818 : Fld Z h803 p0 "com/example/hold/hold/check/ComponentSolver" "rowsUsingCount" "[I" (.ref rc) := Fld.other W803 fx774 (Or.inl (Nat.ne_of_lt lt378))
  have fx819 : Fld Z h803 p0 "com/example/hold/hold/check/ComponentSolver" "columnCount" "[I" (.ref cc) := Fld.other W803 fx775 (Or.inl (Nat.ne_of_lt lt378))
  have fx820 : Ar Z h803 ca (.array .int) l1t1 := Ar.other fx776 W803 (Nat.ne_of_lt lt379)
  have fx821 : Ovc Z h803 ca "[I" := Ovc.wr fx777 W803
  have fx822 : Ar Z h803 va (.array .double) l2t1 := Ar.other fx778 W803 (Nat.ne_of_lt lt380)
  have fx823 : Ovc Z h803 va "[D" := Ovc.wr fx779 W803
  have fx824 : Ar Z h803 la .int [(.int (0 : Int32)), (.int (0 : Int32))] := Ar.other fx780 W803 (Nat.ne_of_lt lt381)
  have fx825 : Ar Z h803 lv .double [(.double (FP.l2d ll0)), (.double (FP.l2d ll1))] := Ar.other fx781 W803 (Nat.ne_of_lt lt382)
  have fx826 : Ar Z h803 ex .double [(.double (FP.l2d ee0)), (.double (FP.l2d ee1))] := Ar.other fx782 W803 (Nat.ne_of_lt lt383)
  have fx827 : Ar Z h803 su .double [(.double (FP.l2d (ll0 - 1))), (.double (FP.l2d (ll1 - 1)))] := Ar.other fx783 W803 (Nat.ne_of_lt lt384)
  have fx828 : Ar Z h803 rc .int [(.int (0 : Int32)), (.int (0 : Int32))] := Ar.other fx784 W803 (Nat.ne_of_lt lt385)
  have fx829 : Ar Z h803 cc .int [(.int (0 : Int32)), (.int (0 : Int32))] := Ar.other fx785 W803 (Nat.ne_of_lt lt386)
  have fx830 : Exa Z h803 a25 "[I" := Exa.wr W803 fx786
  have fx831 : Exa Z h803 a67 "java/util/PriorityQueue" := Exa.wr W803 fx787
  have fx832 : Ovc Z h803 qa "java/lang/Object" := Ovc.wr fx788 W803
  have fx833 : Ar Z h803 a25 .int [(.int (0 : Int32)), (.int (0 : Int32))] := Ar.other fx789 W803 (Nat.ne_of_lt lt387)
  have fx834 : Exa Z h803 a319 "[Z" := Exa.wr W803 fx790
  have fx835 : Exa Z h803 a374 "[I" := Exa.wr W803 fx791
  have fx836 : Exa Z h803 a432 "[D" := Exa.wr W803 fx792
  have fx837 : Ar Z h803 a432 .double [(.double (FP.l2d 1)), (.double (FP.l2d 0))] := Ar.other fx794 W803 (Ne.symm (Nat.ne_of_lt lt449))
  have fx838 : Fld Z h803 a67 "java/util/PriorityQueue" "queue" "[Ljava/lang/Object;" (.ref qa) := Fld.other W803 fx795 (Or.inl (Nat.ne_of_lt lt388))
  have fx839 : Fld Z h803 a67 "java/util/PriorityQueue" "size" "I" (.int (0 : Int32)) := Fld.other W803 fx796 (Or.inl (Nat.ne_of_lt lt388))
  have fx840 : Fld Z h803 a67 "java/util/PriorityQueue" "comparator" "Ljava/util/Comparator;" .null := Fld.other W803 fx797 (Or.inl (Nat.ne_of_lt lt388))
  have fx841 : Fld Z h803 a67 "java/util/PriorityQueue" "modCount" "I" (.int (4 : Int32)) := Fld.other W803 fx798 (Or.inl (Nat.ne_of_lt lt388))
  have fx842 : Ar Z h803 qa (.object "java/lang/Object") [.null, .null, .null, .null, .null, .null, .null, .null, .null, .null, .null] := Ar.other fx799 W803 (Nat.ne_of_lt lt389)
  have fx843 : Ar Z h803 a319 .boolean [(.int (1 : Int32)), (.int (1 : Int32))] := Ar.other fx800 W803 (Nat.ne_of_lt lt390)
  have fx844 : Ar Z h803 a374 .int [(.int (0 : Int32)), (.int (1 : Int32))] := A803
  have N845 := Fr.snoc X803 N801 ge391
  have Z846 : n0 ≤ h803.size := by rw [W803.size]; exact Z802
  show Goes p.tables e below (T803.setTop (mkF m 198 #[.val (.ref p0), .val (.ref a25), .val (.ref a67), .val (.ref a319), .val (.ref a374), .val (.ref a432), .val (.int (1 : Int32)), .val (.int (1 : Int32)), .val (.long (1 : Int64)), .second, .unset, .unset] [])) _
  refine g_aload X803 hx (hb hby d5_198) rfl rfl ?_
  refine g_iload X803 hx (hb hby d5_200) rfl ?_
  refine g_aloadN X803 hx (hb hby d5_202) rfl rfl ?_
  refine g_getF X803 hx hZ hown e803 (host := "") (Or.inl (hw _ (List.mem_of_getElem? (i := 23) rfl))) Via.refl fx815 (hb hby d5_203) (fun T847 X847 e847 => ?_)
  show Goes p.tables e below (T847.setTop (mkF m 206 #[.val (.ref p0), .val (.ref a25), .val (.ref a67), .val (.ref a319), .val (.ref a374), .val (.ref a432), .val (.int (1 : Int32)), .val (.int (1 : Int32)), .val (.long (1 : Int64)), .second, .unset, .unset] [(.ref lv), (.int (1 : Int32)), (.ref a432)])) _
  refine g_iload X847 hx (hb hby d5_206) rfl ?_
  refine g_daload X847 hx hZ e847 fx825 (i := 1) (v := (.double (FP.l2d ll1))) (by decide) rfl (hb hby d5_208) ?_
  show Goes p.tables e below (T847.setTop (mkF m 209 #[.val (.ref p0), .val (.ref a25), .val (.ref a67), .val (.ref a319), .val (.ref a374), .val (.ref a432), .val (.int (1 : Int32)), .val (.int (1 : Int32)), .val (.long (1 : Int64)), .second, .unset, .unset] [(.double (FP.l2d ll1)), (.int (1 : Int32)), (.ref a432)])) _
  refine g_dastore X847 hx hZ e847 fx837 1 (by decide) (by show 1 < 2; decide) (hb hby d5_209) (fun T848 h848 X848 e848 W848 A848 => ?_)
  have fx849 : Sta Z h848 "java/lang/Long$LongCache" "cache" "[Ljava/lang/Long;" (.ref lc) := Sta.wr W848 fx804
  have fx850 : Ar Z h848 lc (.object "java/lang/Long") cl := Ar.other fx805 W848 (Nat.ne_of_lt lt433)
  have fx851 : Exa Z h848 x0 "java/lang/Long" := Exa.wr W848 fx806
  have fx852 : Exa Z h848 x1 "java/lang/Long" := Exa.wr W848 fx807
  have fx853 : Fld Z h848 x0 "java/lang/Long" "value" "J" (.long (0 : Int64)) := Fld.other W848 fx808 (Or.inl (Nat.ne_of_lt lt434))
  have fx854 : Fld Z h848 x1 "java/lang/Long" "value" "J" (.long (1 : Int64)) := Fld.other W848 fx809 (Or.inl (Nat.ne_of_lt lt435))
  have fx855 : Exa Z h848 p0 "com/example/hold/hold/check/ComponentSolver" := Exa.wr W848 fx810
  have fx856 : Fld Z h848 p0 "com/example/hold/hold/check/ComponentSolver" "size" "I" (.int (2 : Int32)) := Fld.other W848 fx811 (Or.inl (Nat.ne_of_lt lt436))
  have fx857 : Fld Z h848 p0 "com/example/hold/hold/check/ComponentSolver" "columns" "[[I" (.ref ca) := Fld.other W848 fx812 (Or.inl (Nat.ne_of_lt lt436))
  have fx858 : Fld Z h848 p0 "com/example/hold/hold/check/ComponentSolver" "values" "[[D" (.ref va) := Fld.other W848 fx813 (Or.inl (Nat.ne_of_lt lt436))
  have fx859 : Fld Z h848 p0 "com/example/hold/hold/check/ComponentSolver" "length" "[I" (.ref la) := Fld.other W848 fx814 (Or.inl (Nat.ne_of_lt lt436))
  have fx860 : Fld Z h848 p0 "com/example/hold/hold/check/ComponentSolver" "leaving" "[D" (.ref lv) := Fld.other W848 fx815 (Or.inl (Nat.ne_of_lt lt436))
  have fx861 : Fld Z h848 p0 "com/example/hold/hold/check/ComponentSolver" "exits" "[D" (.ref ex) := Fld.other W848 fx816 (Or.inl (Nat.ne_of_lt lt436))
  have fx862 : Fld Z h848 p0 "com/example/hold/hold/check/ComponentSolver" "surplus" "[D" (.ref su) := Fld.other W848 fx817 (Or.inl (Nat.ne_of_lt lt436))
  have fx863 : Fld Z h848 p0 "com/example/hold/hold/check/ComponentSolver" "rowsUsingCount" "[I" (.ref rc) := Fld.other W848 fx818 (Or.inl (Nat.ne_of_lt lt436))
  have fx864 : Fld Z h848 p0 "com/example/hold/hold/check/ComponentSolver" "columnCount" "[I" (.ref cc) := Fld.other W848 fx819 (Or.inl (Nat.ne_of_lt lt436))
  have fx865 : Ar Z h848 ca (.array .int) l1t1 := Ar.other fx820 W848 (Nat.ne_of_lt lt437)
  have fx866 : Ovc Z h848 ca "[I" := Ovc.wr fx821 W848
  have fx867 : Ar Z h848 va (.array .double) l2t1 := Ar.other fx822 W848 (Nat.ne_of_lt lt438)
  have fx868 : Ovc Z h848 va "[D" := Ovc.wr fx823 W848
  have fx869 : Ar Z h848 la .int [(.int (0 : Int32)), (.int (0 : Int32))] := Ar.other fx824 W848 (Nat.ne_of_lt lt439)
  have fx870 : Ar Z h848 lv .double [(.double (FP.l2d ll0)), (.double (FP.l2d ll1))] := Ar.other fx825 W848 (Nat.ne_of_lt lt440)
  have fx871 : Ar Z h848 ex .double [(.double (FP.l2d ee0)), (.double (FP.l2d ee1))] := Ar.other fx826 W848 (Nat.ne_of_lt lt441)
  have fx872 : Ar Z h848 su .double [(.double (FP.l2d (ll0 - 1))), (.double (FP.l2d (ll1 - 1)))] := Ar.other fx827 W848 (Nat.ne_of_lt lt442)
  have fx873 : Ar Z h848 rc .int [(.int (0 : Int32)), (.int (0 : Int32))] := Ar.other fx828 W848 (Nat.ne_of_lt lt443)
  have fx874 : Ar Z h848 cc .int [(.int (0 : Int32)), (.int (0 : Int32))] := Ar.other fx829 W848 (Nat.ne_of_lt lt444)
  have fx875 : Exa Z h848 a25 "[I" := Exa.wr W848 fx830
  have fx876 : Exa Z h848 a67 "java/util/PriorityQueue" := Exa.wr W848 fx831
  have fx877 : Ovc Z h848 qa "java/lang/Object" := Ovc.wr fx832 W848
  have fx878 : Ar Z h848 a25 .int [(.int (0 : Int32)), (.int (0 : Int32))] := Ar.other fx833 W848 (Nat.ne_of_lt lt445)
  have fx879 : Exa Z h848 a319 "[Z" := Exa.wr W848 fx834
  have fx880 : Exa Z h848 a374 "[I" := Exa.wr W848 fx835
  have fx881 : Exa Z h848 a432 "[D" := Exa.wr W848 fx836
  have fx882 : Fld Z h848 a67 "java/util/PriorityQueue" "queue" "[Ljava/lang/Object;" (.ref qa) := Fld.other W848 fx838 (Or.inl (Nat.ne_of_lt lt446))
  have fx883 : Fld Z h848 a67 "java/util/PriorityQueue" "size" "I" (.int (0 : Int32)) := Fld.other W848 fx839 (Or.inl (Nat.ne_of_lt lt446))
  have fx884 : Fld Z h848 a67 "java/util/PriorityQueue" "comparator" "Ljava/util/Comparator;" .null := Fld.other W848 fx840 (Or.inl (Nat.ne_of_lt lt446))
  have fx885 : Fld Z h848 a67 "java/util/PriorityQueue" "modCount" "I" (.int (4 : Int32)) := Fld.other W848 fx841 (Or.inl (Nat.ne_of_lt lt446))
  have fx886 : Ar Z h848 qa (.object "java/lang/Object") [.null, .null, .null, .null, .null, .null, .null, .null, .null, .null, .null] := Ar.other fx842 W848 (Nat.ne_of_lt lt447)
  have fx887 : Ar Z h848 a319 .boolean [(.int (1 : Int32)), (.int (1 : Int32))] := Ar.other fx843 W848 (Nat.ne_of_lt lt448)
  have fx888 : Ar Z h848 a374 .int [(.int (0 : Int32)), (.int (1 : Int32))] := Ar.other fx844 W848 (Nat.ne_of_lt lt449)
  have fx889 : Ar Z h848 a432 .double [(.double (FP.l2d 1)), (.double (FP.l2d ll1))] := A848
  have N890 := Fr.snoc X848 N845 ge450
  have Z891 : n0 ≤ h848.size := by rw [W848.size]; exact Z846
  show Goes p.tables e below (T848.setTop (mkF m 210 #[.val (.ref p0), .val (.ref a25), .val (.ref a67), .val (.ref a319), .val (.ref a374), .val (.ref a432), .val (.int (1 : Int32)), .val (.int (1 : Int32)), .val (.long (1 : Int64)), .second, .unset, .unset] [])) _
  refine g_iconst X848 hx (0 : Int32) (hb hby d5_210) rfl ?_
  refine g_istore X848 hx (hb hby d5_211) (l' := #[.val (.ref p0), .val (.ref a25), .val (.ref a67), .val (.ref a319), .val (.ref a374), .val (.ref a432), .val (.int (1 : Int32)), .val (.int (1 : Int32)), .val (.int (0 : Int32)), .unset, .unset, .unset]) rfl ?_
  refine g_iload X848 hx (hb hby d5_213) rfl ?_
  refine g_aloadN X848 hx (hb hby d5_215) rfl rfl ?_
  refine g_getF X848 hx hZ hown e848 (host := "") (Or.inl (hw _ (List.mem_of_getElem? (i := 20) rfl))) Via.refl fx859 (hb hby d5_216) (fun T892 X892 e892 => ?_)
  show Goes p.tables e below (T892.setTop (mkF m 219 #[.val (.ref p0), .val (.ref a25), .val (.ref a67), .val (.ref a319), .val (.ref a374), .val (.ref a432), .val (.int (1 : Int32)), .val (.int (1 : Int32)), .val (.int (0 : Int32)), .unset, .unset, .unset] [(.ref la), (.int (0 : Int32))])) _
  refine g_iload X892 hx (hb hby d5_219) rfl ?_
  refine g_iaload X892 hx hZ e892 fx869 (i := 1) (v := (.int (0 : Int32))) (by decide) rfl (hb hby d5_221) ?_
  show Goes p.tables e below (T892.setTop (mkF m 222 #[.val (.ref p0), .val (.ref a25), .val (.ref a67), .val (.ref a319), .val (.ref a374), .val (.ref a432), .val (.int (1 : Int32)), .val (.int (1 : Int32)), .val (.int (0 : Int32)), .unset, .unset, .unset] [(.int (0 : Int32)), (.int (0 : Int32))])) _
  refine g_icmp_ge X892 hx (hb hby d5_222) (by decide) (pc' := 249) (by decide) (fun _ => ?_) (fun q => absurd q (by decide))
  show Goes p.tables e below (T892.setTop (mkF m 249 #[.val (.ref p0), .val (.ref a25), .val (.ref a67), .val (.ref a319), .val (.ref a374), .val (.ref a432), .val (.int (1 : Int32)), .val (.int (1 : Int32)), .val (.int (0 : Int32)), .unset, .unset, .unset] [])) _
  refine g_aload X892 hx (hb hby d5_249) rfl rfl ?_
  refine g_iload X892 hx (hb hby d5_251) rfl ?_
  refine g_dup2 X892 hx (hb hby d5_253) rfl rfl ?_
  refine g_daload X892 hx hZ e892 fx889 (i := 1) (v := (.double (FP.l2d ll1))) (by decide) rfl (hb hby d5_254) ?_
  show Goes p.tables e below (T892.setTop (mkF m 255 #[.val (.ref p0), .val (.ref a25), .val (.ref a67), .val (.ref a319), .val (.ref a374), .val (.ref a432), .val (.int (1 : Int32)), .val (.int (1 : Int32)), .val (.int (0 : Int32)), .unset, .unset, .unset] [(.double (FP.l2d ll1)), (.int (1 : Int32)), (.ref a432)])) _
  refine g_aloadN X892 hx (hb hby d5_255) rfl rfl ?_
  refine g_getF X892 hx hZ hown e892 (host := "") (Or.inl (hw _ (List.mem_of_getElem? (i := 27) rfl))) Via.refl fx862 (hb hby d5_256) (fun T893 X893 e893 => ?_)
  show Goes p.tables e below (T893.setTop (mkF m 259 #[.val (.ref p0), .val (.ref a25), .val (.ref a67), .val (.ref a319), .val (.ref a374), .val (.ref a432), .val (.int (1 : Int32)), .val (.int (1 : Int32)), .val (.int (0 : Int32)), .unset, .unset, .unset] [(.ref su), (.double (FP.l2d ll1)), (.int (1 : Int32)), (.ref a432)])) _
  refine g_iload X893 hx (hb hby d5_259) rfl ?_
  refine g_daload X893 hx hZ e893 fx872 (i := 1) (v := (.double (FP.l2d (ll1 - 1)))) (by decide) rfl (hb hby d5_261) ?_
  show Goes p.tables e below (T893.setTop (mkF m 262 #[.val (.ref p0), .val (.ref a25), .val (.ref a67), .val (.ref a319), .val (.ref a374), .val (.ref a432), .val (.int (1 : Int32)), .val (.int (1 : Int32)), .val (.int (0 : Int32)), .unset, .unset, .unset] [(.double (FP.l2d (ll1 - 1))), (.double (FP.l2d ll1)), (.int (1 : Int32)), (.ref a432)])) _
  refine g_dsub X893 hx (FP.l2d 1) (own_sub1 ll1 hll1 hK) (nn_w rfl) (hb hby d5_262) ?_
  show Goes p.tables e below (T893.setTop (mkF m 263 #[.val (.ref p0), .val (.ref a25), .val (.ref a67), .val (.ref a319), .val (.ref a374), .val (.ref a432), .val (.int (1 : Int32)), .val (.int (1 : Int32)), .val (.int (0 : Int32)), .unset, .unset, .unset] [(.double (FP.l2d 1)), (.int (1 : Int32)), (.ref a432)])) _
  refine g_dastore X893 hx hZ e893 fx889 1 (by decide) (by show 1 < 2; decide) (hb hby d5_263) (fun T894 h894 X894 e894 W894 A894 => ?_)
  have fx895 : Sta Z h894 "java/lang/Long$LongCache" "cache" "[Ljava/lang/Long;" (.ref lc) := Sta.wr W894 fx849
  have fx896 : Ar Z h894 lc (.object "java/lang/Long") cl := Ar.other fx850 W894 (Nat.ne_of_lt lt433)
  have fx897 : Exa Z h894 x0 "java/lang/Long" := Exa.wr W894 fx851
  have fx898 : Exa Z h894 x1 "java/lang/Long" := Exa.wr W894 fx852
  have fx899 : Fld Z h894 x0 "java/lang/Long" "value" "J" (.long (0 : Int64)) := Fld.other W894 fx853 (Or.inl (Nat.ne_of_lt lt434))
  have fx900 : Fld Z h894 x1 "java/lang/Long" "value" "J" (.long (1 : Int64)) := Fld.other W894 fx854 (Or.inl (Nat.ne_of_lt lt435))
  have fx901 : Exa Z h894 p0 "com/example/hold/hold/check/ComponentSolver" := Exa.wr W894 fx855
  have fx902 : Fld Z h894 p0 "com/example/hold/hold/check/ComponentSolver" "size" "I" (.int (2 : Int32)) := Fld.other W894 fx856 (Or.inl (Nat.ne_of_lt lt436))
  have fx903 : Fld Z h894 p0 "com/example/hold/hold/check/ComponentSolver" "columns" "[[I" (.ref ca) := Fld.other W894 fx857 (Or.inl (Nat.ne_of_lt lt436))
  have fx904 : Fld Z h894 p0 "com/example/hold/hold/check/ComponentSolver" "values" "[[D" (.ref va) := Fld.other W894 fx858 (Or.inl (Nat.ne_of_lt lt436))
  have fx905 : Fld Z h894 p0 "com/example/hold/hold/check/ComponentSolver" "length" "[I" (.ref la) := Fld.other W894 fx859 (Or.inl (Nat.ne_of_lt lt436))
  have fx906 : Fld Z h894 p0 "com/example/hold/hold/check/ComponentSolver" "leaving" "[D" (.ref lv) := Fld.other W894 fx860 (Or.inl (Nat.ne_of_lt lt436))
  have fx907 : Fld Z h894 p0 "com/example/hold/hold/check/ComponentSolver" "exits" "[D" (.ref ex) := Fld.other W894 fx861 (Or.inl (Nat.ne_of_lt lt436))
  have fx908 : Fld Z h894 p0 "com/example/hold/hold/check/ComponentSolver" "surplus" "[D" (.ref su) := Fld.other W894 fx862 (Or.inl (Nat.ne_of_lt lt436))
  have fx909 : Fld Z h894 p0 "com/example/hold/hold/check/ComponentSolver" "rowsUsingCount" "[I" (.ref rc) := Fld.other W894 fx863 (Or.inl (Nat.ne_of_lt lt436))
  have fx910 : Fld Z h894 p0 "com/example/hold/hold/check/ComponentSolver" "columnCount" "[I" (.ref cc) := Fld.other W894 fx864 (Or.inl (Nat.ne_of_lt lt436))
  have fx911 : Ar Z h894 ca (.array .int) l1t1 := Ar.other fx865 W894 (Nat.ne_of_lt lt437)
  have fx912 : Ovc Z h894 ca "[I" := Ovc.wr fx866 W894
  have fx913 : Ar Z h894 va (.array .double) l2t1 := Ar.other fx867 W894 (Nat.ne_of_lt lt438)
  have fx914 : Ovc Z h894 va "[D" := Ovc.wr fx868 W894
  have fx915 : Ar Z h894 la .int [(.int (0 : Int32)), (.int (0 : Int32))] := Ar.other fx869 W894 (Nat.ne_of_lt lt439)
  have fx916 : Ar Z h894 lv .double [(.double (FP.l2d ll0)), (.double (FP.l2d ll1))] := Ar.other fx870 W894 (Nat.ne_of_lt lt440)
  have fx917 : Ar Z h894 ex .double [(.double (FP.l2d ee0)), (.double (FP.l2d ee1))] := Ar.other fx871 W894 (Nat.ne_of_lt lt441)
  have fx918 : Ar Z h894 su .double [(.double (FP.l2d (ll0 - 1))), (.double (FP.l2d (ll1 - 1)))] := Ar.other fx872 W894 (Nat.ne_of_lt lt442)
  have fx919 : Ar Z h894 rc .int [(.int (0 : Int32)), (.int (0 : Int32))] := Ar.other fx873 W894 (Nat.ne_of_lt lt443)
  have fx920 : Ar Z h894 cc .int [(.int (0 : Int32)), (.int (0 : Int32))] := Ar.other fx874 W894 (Nat.ne_of_lt lt444)
  have fx921 : Exa Z h894 a25 "[I" := Exa.wr W894 fx875
  have fx922 : Exa Z h894 a67 "java/util/PriorityQueue" := Exa.wr W894 fx876
  have fx923 : Ovc Z h894 qa "java/lang/Object" := Ovc.wr fx877 W894
  have fx924 : Ar Z h894 a25 .int [(.int (0 : Int32)), (.int (0 : Int32))] := Ar.other fx878 W894 (Nat.ne_of_lt lt445)
  have fx925 : Exa Z h894 a319 "[Z" := Exa.wr W894 fx879
  have fx926 : Exa Z h894 a374 "[I" := Exa.wr W894 fx880
  have fx927 : Exa Z h894 a432 "[D" := Exa.wr W894 fx881
  have fx928 : Fld Z h894 a67 "java/util/PriorityQueue" "queue" "[Ljava/lang/Object;" (.ref qa) := Fld.other W894 fx882 (Or.inl (Nat.ne_of_lt lt446))
  have fx929 : Fld Z h894 a67 "java/util/PriorityQueue" "size" "I" (.int (0 : Int32)) := Fld.other W894 fx883 (Or.inl (Nat.ne_of_lt lt446))
  have fx930 : Fld Z h894 a67 "java/util/PriorityQueue" "comparator" "Ljava/util/Comparator;" .null := Fld.other W894 fx884 (Or.inl (Nat.ne_of_lt lt446))
  have fx931 : Fld Z h894 a67 "java/util/PriorityQueue" "modCount" "I" (.int (4 : Int32)) := Fld.other W894 fx885 (Or.inl (Nat.ne_of_lt lt446))
  have fx932 : Ar Z h894 qa (.object "java/lang/Object") [.null, .null, .null, .null, .null, .null, .null, .null, .null, .null, .null] := Ar.other fx886 W894 (Nat.ne_of_lt lt447)
  have fx933 : Ar Z h894 a319 .boolean [(.int (1 : Int32)), (.int (1 : Int32))] := Ar.other fx887 W894 (Nat.ne_of_lt lt448)
  have fx934 : Ar Z h894 a374 .int [(.int (0 : Int32)), (.int (1 : Int32))] := Ar.other fx888 W894 (Nat.ne_of_lt lt449)
  have fx935 : Ar Z h894 a432 .double [(.double (FP.l2d 1)), (.double (FP.l2d 1))] := A894
  have N936 := Fr.snoc X894 N890 ge450
  have Z937 : n0 ≤ h894.size := by rw [W894.size]; exact Z891
  show Goes p.tables e below (T894.setTop (mkF m 264 #[.val (.ref p0), .val (.ref a25), .val (.ref a67), .val (.ref a319), .val (.ref a374), .val (.ref a432), .val (.int (1 : Int32)), .val (.int (1 : Int32)), .val (.int (0 : Int32)), .unset, .unset, .unset] [])) _
  refine g_iconst X894 hx (0 : Int32) (hb hby d5_264) rfl ?_
  refine g_istore X894 hx (hb hby d5_265) (l' := #[.val (.ref p0), .val (.ref a25), .val (.ref a67), .val (.ref a319), .val (.ref a374), .val (.ref a432), .val (.int (1 : Int32)), .val (.int (1 : Int32)), .val (.int (0 : Int32)), .unset, .unset, .unset]) rfl ?_
  refine g_iload X894 hx (hb hby d5_267) rfl ?_
  refine g_aloadN X894 hx (hb hby d5_269) rfl rfl ?_
  refine g_getF X894 hx hZ hown e894 (host := "") (Or.inl (hw _ (List.mem_of_getElem? (i := 31) rfl))) Via.refl fx909 (hb hby d5_270) (fun T938 X938 e938 => ?_)
  show Goes p.tables e below (T938.setTop (mkF m 273 #[.val (.ref p0), .val (.ref a25), .val (.ref a67), .val (.ref a319), .val (.ref a374), .val (.ref a432), .val (.int (1 : Int32)), .val (.int (1 : Int32)), .val (.int (0 : Int32)), .unset, .unset, .unset] [(.ref rc), (.int (0 : Int32))])) _
  refine g_iload X938 hx (hb hby d5_273) rfl ?_
  refine g_iaload X938 hx hZ e938 fx919 (i := 1) (v := (.int (0 : Int32))) (by decide) rfl (hb hby d5_275) ?_
  show Goes p.tables e below (T938.setTop (mkF m 276 #[.val (.ref p0), .val (.ref a25), .val (.ref a67), .val (.ref a319), .val (.ref a374), .val (.ref a432), .val (.int (1 : Int32)), .val (.int (1 : Int32)), .val (.int (0 : Int32)), .unset, .unset, .unset] [(.int (0 : Int32)), (.int (0 : Int32))])) _
  refine g_icmp_ge X938 hx (hb hby d5_276) (by decide) (pc' := 319) (by decide) (fun _ => ?_) (fun q => absurd q (by decide))
  show Goes p.tables e below (T938.setTop (mkF m 319 #[.val (.ref p0), .val (.ref a25), .val (.ref a67), .val (.ref a319), .val (.ref a374), .val (.ref a432), .val (.int (1 : Int32)), .val (.int (1 : Int32)), .val (.int (0 : Int32)), .unset, .unset, .unset] [])) _
  refine g_iconst X938 hx (0 : Int32) (hb hby d5_319) rfl ?_
  refine g_istore X938 hx (hb hby d5_320) (l' := #[.val (.ref p0), .val (.ref a25), .val (.ref a67), .val (.ref a319), .val (.ref a374), .val (.ref a432), .val (.int (1 : Int32)), .val (.int (1 : Int32)), .val (.int (0 : Int32)), .unset, .unset, .unset]) rfl ?_
  refine g_iload X938 hx (hb hby d5_322) rfl ?_
  refine g_aloadN X938 hx (hb hby d5_324) rfl rfl ?_
  refine g_getF X938 hx hZ hown e938 (host := "") (Or.inl (hw _ (List.mem_of_getElem? (i := 20) rfl))) Via.refl fx905 (hb hby d5_325) (fun T939 X939 e939 => ?_)
  show Goes p.tables e below (T939.setTop (mkF m 328 #[.val (.ref p0), .val (.ref a25), .val (.ref a67), .val (.ref a319), .val (.ref a374), .val (.ref a432), .val (.int (1 : Int32)), .val (.int (1 : Int32)), .val (.int (0 : Int32)), .unset, .unset, .unset] [(.ref la), (.int (0 : Int32))])) _
  refine g_iload X939 hx (hb hby d5_328) rfl ?_
  refine g_iaload X939 hx hZ e939 fx915 (i := 1) (v := (.int (0 : Int32))) (by decide) rfl (hb hby d5_330) ?_
  show Goes p.tables e below (T939.setTop (mkF m 331 #[.val (.ref p0), .val (.ref a25), .val (.ref a67), .val (.ref a319), .val (.ref a374), .val (.ref a432), .val (.int (1 : Int32)), .val (.int (1 : Int32)), .val (.int (0 : Int32)), .unset, .unset, .unset] [(.int (0 : Int32)), (.int (0 : Int32))])) _
  refine g_icmp_ge X939 hx (hb hby d5_331) (by decide) (pc' := 371) (by decide) (fun _ => ?_) (fun q => absurd q (by decide))
  show Goes p.tables e below (T939.setTop (mkF m 371 #[.val (.ref p0), .val (.ref a25), .val (.ref a67), .val (.ref a319), .val (.ref a374), .val (.ref a432), .val (.int (1 : Int32)), .val (.int (1 : Int32)), .val (.int (0 : Int32)), .unset, .unset, .unset] [])) _
  refine g_iinc X939 hx (1 : Int32) (hb hby d5_371) rfl rfl (l' := #[.val (.ref p0), .val (.ref a25), .val (.ref a67), .val (.ref a319), .val (.ref a374), .val (.ref a432), .val (.int (2 : Int32)), .val (.int (1 : Int32)), .val (.int (0 : Int32)), .unset, .unset, .unset]) rfl ?_
  refine g_goto X939 hx (hb hby d5_374) (by decide) (pc' := 132) (by decide) ?_
  refine g_iload X939 hx (hb hby d5_132) rfl ?_
  refine g_aloadN X939 hx (hb hby d5_134) rfl rfl ?_
  refine g_getF X939 hx hZ hown e939 (host := "") (Or.inl (hw _ (List.mem_of_getElem? (i := 9) rfl))) Via.refl fx902 (hb hby d5_135) (fun T940 X940 e940 => ?_)
  show Goes p.tables e below (T940.setTop (mkF m 138 #[.val (.ref p0), .val (.ref a25), .val (.ref a67), .val (.ref a319), .val (.ref a374), .val (.ref a432), .val (.int (2 : Int32)), .val (.int (1 : Int32)), .val (.int (0 : Int32)), .unset, .unset, .unset] [(.int (2 : Int32)), (.int (2 : Int32))])) _
  refine g_icmp_ge X940 hx (hb hby d5_138) (by decide) (pc' := 377) (by decide) (fun _ => ?_) (fun q => absurd q (by decide))
  show Goes p.tables e below (T940.setTop (mkF m 377 #[.val (.ref p0), .val (.ref a25), .val (.ref a67), .val (.ref a319), .val (.ref a374), .val (.ref a432), .val (.int (2 : Int32)), .val (.int (1 : Int32)), .val (.int (0 : Int32)), .unset, .unset, .unset] [])) _
  refine g_aloadN X940 hx (hb hby d5_377) rfl rfl ?_
  refine g_getF X940 hx hZ hown e940 (host := "") (Or.inl (hw _ (List.mem_of_getElem? (i := 9) rfl))) Via.refl fx902 (hb hby d5_378) (fun T941 X941 e941 => ?_)
  show Goes p.tables e below (T941.setTop (mkF m 381 #[.val (.ref p0), .val (.ref a25), .val (.ref a67), .val (.ref a319), .val (.ref a374), .val (.ref a432), .val (.int (2 : Int32)), .val (.int (1 : Int32)), .val (.int (0 : Int32)), .unset, .unset, .unset] [(.int (2 : Int32))])) _
  refine g_newarr X941 hx hZ e941 (hw _ (List.mem_of_getElem? (i := 22) rfl)) (hb hby d5_381) (n := 2) (by decide) 2 (by decide) (by decide) (by decide) (by decide) (ad := "[D") (by decide) rfl (fun T942 h942 a942 ga942 X942 e942 Ex942 Aa942 Ea942 => ?_)
  have lt943 : lc < a942 := by rw [ga942]; exact fx896.lt
  have lt944 : x0 < a942 := by rw [ga942]; exact fx897.lt
  have lt945 : x1 < a942 := by rw [ga942]; exact fx898.lt
  have lt946 : p0 < a942 := by rw [ga942]; exact fx901.lt
  have lt947 : ca < a942 := by rw [ga942]; exact fx911.lt
  have lt948 : va < a942 := by rw [ga942]; exact fx913.lt
  have lt949 : la < a942 := by rw [ga942]; exact fx915.lt
  have lt950 : lv < a942 := by rw [ga942]; exact fx916.lt
  have lt951 : ex < a942 := by rw [ga942]; exact fx917.lt
  have lt952 : su < a942 := by rw [ga942]; exact fx918.lt
  have lt953 : rc < a942 := by rw [ga942]; exact fx919.lt
  have lt954 : cc < a942 := by rw [ga942]; exact fx920.lt
  have lt955 : a25 < a942 := by rw [ga942]; exact fx921.lt
  have lt956 : a67 < a942 := by rw [ga942]; exact fx922.lt
  have lt957 : a319 < a942 := by rw [ga942]; exact fx925.lt
  have lt958 : a374 < a942 := by rw [ga942]; exact fx926.lt
  have lt959 : a432 < a942 := by rw [ga942]; exact fx927.lt
  have lt960 : qa < a942 := by rw [ga942]; exact fx932.lt
  have ge961 : n0 ≤ a942 := by rw [ga942]; exact Z937
  have fx962 : Sta Z h942 "java/lang/Long$LongCache" "cache" "[Ljava/lang/Long;" (.ref lc) := Sta.ext Ex942 fx895
  have fx963 : Ar Z h942 lc (.object "java/lang/Long") cl := Ar.ext fx896 Ex942
  have fx964 : Exa Z h942 x0 "java/lang/Long" := Exa.ext Ex942 fx897
  have fx965 : Exa Z h942 x1 "java/lang/Long" := Exa.ext Ex942 fx898
  have fx966 : Fld Z h942 x0 "java/lang/Long" "value" "J" (.long (0 : Int64)) := Fld.ext Ex942 fx899
  have fx967 : Fld Z h942 x1 "java/lang/Long" "value" "J" (.long (1 : Int64)) := Fld.ext Ex942 fx900
  have fx968 : Exa Z h942 p0 "com/example/hold/hold/check/ComponentSolver" := Exa.ext Ex942 fx901
  have fx969 : Fld Z h942 p0 "com/example/hold/hold/check/ComponentSolver" "size" "I" (.int (2 : Int32)) := Fld.ext Ex942 fx902
  have fx970 : Fld Z h942 p0 "com/example/hold/hold/check/ComponentSolver" "columns" "[[I" (.ref ca) := Fld.ext Ex942 fx903
  have fx971 : Fld Z h942 p0 "com/example/hold/hold/check/ComponentSolver" "values" "[[D" (.ref va) := Fld.ext Ex942 fx904
  have fx972 : Fld Z h942 p0 "com/example/hold/hold/check/ComponentSolver" "length" "[I" (.ref la) := Fld.ext Ex942 fx905
  have fx973 : Fld Z h942 p0 "com/example/hold/hold/check/ComponentSolver" "leaving" "[D" (.ref lv) := Fld.ext Ex942 fx906
  have fx974 : Fld Z h942 p0 "com/example/hold/hold/check/ComponentSolver" "exits" "[D" (.ref ex) := Fld.ext Ex942 fx907
  have fx975 : Fld Z h942 p0 "com/example/hold/hold/check/ComponentSolver" "surplus" "[D" (.ref su) := Fld.ext Ex942 fx908
  have fx976 : Fld Z h942 p0 "com/example/hold/hold/check/ComponentSolver" "rowsUsingCount" "[I" (.ref rc) := Fld.ext Ex942 fx909
  have fx977 : Fld Z h942 p0 "com/example/hold/hold/check/ComponentSolver" "columnCount" "[I" (.ref cc) := Fld.ext Ex942 fx910
  have fx978 : Ar Z h942 ca (.array .int) l1t1 := Ar.ext fx911 Ex942
  have fx979 : Ovc Z h942 ca "[I" := Ovc.ext fx912 Ex942
  have fx980 : Ar Z h942 va (.array .double) l2t1 := Ar.ext fx913 Ex942
  have fx981 : Ovc Z h942 va "[D" := Ovc.ext fx914 Ex942
  have fx982 : Ar Z h942 la .int [(.int (0 : Int32)), (.int (0 : Int32))] := Ar.ext fx915 Ex942
  have fx983 : Ar Z h942 lv .double [(.double (FP.l2d ll0)), (.double (FP.l2d ll1))] := Ar.ext fx916 Ex942
  have fx984 : Ar Z h942 ex .double [(.double (FP.l2d ee0)), (.double (FP.l2d ee1))] := Ar.ext fx917 Ex942
  have fx985 : Ar Z h942 su .double [(.double (FP.l2d (ll0 - 1))), (.double (FP.l2d (ll1 - 1)))] := Ar.ext fx918 Ex942
  have fx986 : Ar Z h942 rc .int [(.int (0 : Int32)), (.int (0 : Int32))] := Ar.ext fx919 Ex942
  have fx987 : Ar Z h942 cc .int [(.int (0 : Int32)), (.int (0 : Int32))] := Ar.ext fx920 Ex942
  have fx988 : Exa Z h942 a25 "[I" := Exa.ext Ex942 fx921
  have fx989 : Exa Z h942 a67 "java/util/PriorityQueue" := Exa.ext Ex942 fx922
  have fx990 : Ovc Z h942 qa "java/lang/Object" := Ovc.ext fx923 Ex942
  have fx991 : Ar Z h942 a25 .int [(.int (0 : Int32)), (.int (0 : Int32))] := Ar.ext fx924 Ex942
  have fx992 : Exa Z h942 a319 "[Z" := Exa.ext Ex942 fx925
  have fx993 : Exa Z h942 a374 "[I" := Exa.ext Ex942 fx926
  have fx994 : Exa Z h942 a432 "[D" := Exa.ext Ex942 fx927
  have fx995 : Fld Z h942 a67 "java/util/PriorityQueue" "queue" "[Ljava/lang/Object;" (.ref qa) := Fld.ext Ex942 fx928
  have fx996 : Fld Z h942 a67 "java/util/PriorityQueue" "size" "I" (.int (0 : Int32)) := Fld.ext Ex942 fx929
  have fx997 : Fld Z h942 a67 "java/util/PriorityQueue" "comparator" "Ljava/util/Comparator;" .null := Fld.ext Ex942 fx930
  have fx998 : Fld Z h942 a67 "java/util/PriorityQueue" "modCount" "I" (.int (4 : Int32)) := Fld.ext Ex942 fx931
  have fx999 : Ar Z h942 qa (.object "java/lang/Object") [.null, .null, .null, .null, .null, .null, .null, .null, .null, .null, .null] := Ar.ext fx932 Ex942
  have fx1000 : Ar Z h942 a319 .boolean [(.int (1 : Int32)), (.int (1 : Int32))] := Ar.ext fx933 Ex942
  have fx1001 : Ar Z h942 a374 .int [(.int (0 : Int32)), (.int (1 : Int32))] := Ar.ext fx934 Ex942
  have fx1002 : Ar Z h942 a432 .double [(.double (FP.l2d 1)), (.double (FP.l2d 1))] := Ar.ext fx935 Ex942
  have Z1003 : n0 ≤ h942.size := Nat.le_trans Z937 Ex942.1
  have fx1004 : Ar Z h942 a942 .double [(.double (FP.l2d 0)), (.double (FP.l2d 0))] := (by rw [l2d_zero]; exact Aa942)
  show Goes p.tables e below (T942.setTop (mkF m 383 #[.val (.ref p0), .val (.ref a25), .val (.ref a67), .val (.ref a319), .val (.ref a374), .val (.ref a432), .val (.int (2 : Int32)), .val (.int (1 : Int32)), .val (.int (0 : Int32)), .unset, .unset, .unset] [(.ref a942)])) _
  refine g_astore X942 hx (hb hby d5_383) rfl (l' := #[.val (.ref p0), .val (.ref a25), .val (.ref a67), .val (.ref a319), .val (.ref a374), .val (.ref a432), .val (.ref a942), .val (.int (1 : Int32)), .val (.int (0 : Int32)), .unset, .unset, .unset]) rfl ?_
  refine g_aloadN X942 hx (hb hby d5_385) rfl rfl ?_
  refine g_getF X942 hx hZ hown e942 (host := "") (Or.inl (hw _ (List.mem_of_getElem? (i := 9) rfl))) Via.refl fx969 (hb hby d5_386) (fun T1005 X1005 e1005 => ?_)
  show Goes p.tables e below (T1005.setTop (mkF m 389 #[.val (.ref p0), .val (.ref a25), .val (.ref a67), .val (.ref a319), .val (.ref a374), .val (.ref a432), .val (.ref a942), .val (.int (1 : Int32)), .val (.int (0 : Int32)), .unset, .unset, .unset] [(.int (2 : Int32))])) _
  refine g_iconst X1005 hx (1 : Int32) (hb hby d5_389) rfl ?_
  refine g_isub X1005 hx (hb hby d5_390) ?_
  refine g_nameI (v := (1 : Int32)) (by decide) ?_
  refine g_istore X1005 hx (hb hby d5_391) (l' := #[.val (.ref p0), .val (.ref a25), .val (.ref a67), .val (.ref a319), .val (.ref a374), .val (.ref a432), .val (.ref a942), .val (.int (1 : Int32)), .val (.int (0 : Int32)), .unset, .unset, .unset]) rfl ?_
  refine g_iload X1005 hx (hb hby d5_393) rfl ?_
  refine g_if_lt X1005 hx (hb hby d5_395) (by decide) (pc' := 483) (by decide) (fun q => absurd q (by decide)) (fun _ => ?_)
  show Goes p.tables e below (T1005.setTop (mkF m 398 #[.val (.ref p0), .val (.ref a25), .val (.ref a67), .val (.ref a319), .val (.ref a374), .val (.ref a432), .val (.ref a942), .val (.int (1 : Int32)), .val (.int (0 : Int32)), .unset, .unset, .unset] [])) _
  refine g_aload X1005 hx (hb hby d5_398) rfl rfl ?_
  refine g_iload X1005 hx (hb hby d5_400) rfl ?_
  refine g_iaload X1005 hx hZ e1005 fx1001 (i := 1) (v := (.int (1 : Int32))) (by decide) rfl (hb hby d5_402) ?_
  show Goes p.tables e below (T1005.setTop (mkF m 403 #[.val (.ref p0), .val (.ref a25), .val (.ref a67), .val (.ref a319), .val (.ref a374), .val (.ref a432), .val (.ref a942), .val (.int (1 : Int32)), .val (.int (0 : Int32)), .unset, .unset, .unset] [(.int (1 : Int32))])) _
  refine g_istore X1005 hx (hb hby d5_403) (l' := #[.val (.ref p0), .val (.ref a25), .val (.ref a67), .val (.ref a319), .val (.ref a374), .val (.ref a432), .val (.ref a942), .val (.int (1 : Int32)), .val (.int (1 : Int32)), .unset, .unset, .unset]) rfl ?_
  refine g_aloadN X1005 hx (hb hby d5_405) rfl rfl ?_
  refine g_getF X1005 hx hZ hown e1005 (host := "") (Or.inl (hw _ (List.mem_of_getElem? (i := 25) rfl))) Via.refl fx974 (hb hby d5_406) (fun T1006 X1006 e1006 => ?_)
  show Goes p.tables e below (T1006.setTop (mkF m 409 #[.val (.ref p0), .val (.ref a25), .val (.ref a67), .val (.ref a319), .val (.ref a374), .val (.ref a432), .val (.ref a942), .val (.int (1 : Int32)), .val (.int (1 : Int32)), .unset, .unset, .unset] [(.ref ex)])) _
  refine g_iload X1006 hx (hb hby d5_409) rfl ?_
  refine g_daload X1006 hx hZ e1006 fx984 (i := 1) (v := (.double (FP.l2d ee1))) (by decide) rfl (hb hby d5_411) ?_
  show Goes p.tables e below (T1006.setTop (mkF m 412 #[.val (.ref p0), .val (.ref a25), .val (.ref a67), .val (.ref a319), .val (.ref a374), .val (.ref a432), .val (.ref a942), .val (.int (1 : Int32)), .val (.int (1 : Int32)), .unset, .unset, .unset] [(.double (FP.l2d ee1))])) _
  refine g_dstore X1006 hx (hb hby d5_412) (l' := #[.val (.ref p0), .val (.ref a25), .val (.ref a67), .val (.ref a319), .val (.ref a374), .val (.ref a432), .val (.ref a942), .val (.int (1 : Int32)), .val (.int (1 : Int32)), .val (.double (FP.l2d ee1)), .second, .unset]) rfl ?_
  refine g_iconst X1006 hx (0 : Int32) (hb hby d5_414) rfl ?_
  refine g_istore X1006 hx (hb hby d5_415) (l' := #[.val (.ref p0), .val (.ref a25), .val (.ref a67), .val (.ref a319), .val (.ref a374), .val (.ref a432), .val (.ref a942), .val (.int (1 : Int32)), .val (.int (1 : Int32)), .val (.double (FP.l2d ee1)), .second, .val (.int (0 : Int32))]) rfl ?_
  refine g_iload X1006 hx (hb hby d5_417) rfl ?_
  refine g_aloadN X1006 hx (hb hby d5_419) rfl rfl ?_
  refine g_getF X1006 hx hZ hown e1006 (host := "") (Or.inl (hw _ (List.mem_of_getElem? (i := 20) rfl))) Via.refl fx972 (hb hby d5_420) (fun T1007 X1007 e1007 => ?_)
  show Goes p.tables e below (T1007.setTop (mkF m 423 #[.val (.ref p0), .val (.ref a25), .val (.ref a67), .val (.ref a319), .val (.ref a374), .val (.ref a432), .val (.ref a942), .val (.int (1 : Int32)), .val (.int (1 : Int32)), .val (.double (FP.l2d ee1)), .second, .val (.int (0 : Int32))] [(.ref la), (.int (0 : Int32))])) _
  refine g_iload X1007 hx (hb hby d5_423) rfl ?_
  refine g_iaload X1007 hx hZ e1007 fx982 (i := 1) (v := (.int (0 : Int32))) (by decide) rfl (hb hby d5_425) ?_
  show Goes p.tables e below (T1007.setTop (mkF m 426 #[.val (.ref p0), .val (.ref a25), .val (.ref a67), .val (.ref a319), .val (.ref a374), .val (.ref a432), .val (.ref a942), .val (.int (1 : Int32)), .val (.int (1 : Int32)), .val (.double (FP.l2d ee1)), .second, .val (.int (0 : Int32))] [(.int (0 : Int32)), (.int (0 : Int32))])) _
  refine g_icmp_ge X1007 hx (hb hby d5_426) (by decide) (pc' := 464) (by decide) (fun _ => ?_) (fun q => absurd q (by decide))
  show Goes p.tables e below (T1007.setTop (mkF m 464 #[.val (.ref p0), .val (.ref a25), .val (.ref a67), .val (.ref a319), .val (.ref a374), .val (.ref a432), .val (.ref a942), .val (.int (1 : Int32)), .val (.int (1 : Int32)), .val (.double (FP.l2d ee1)), .second, .val (.int (0 : Int32))] [])) _
  refine g_aload X1007 hx (hb hby d5_464) rfl rfl ?_
  refine g_iload X1007 hx (hb hby d5_466) rfl ?_
  refine g_dload X1007 hx (hb hby d5_468) rfl ?_
  refine g_aload X1007 hx (hb hby d5_470) rfl rfl ?_
  refine g_iload X1007 hx (hb hby d5_472) rfl ?_
  refine g_daload X1007 hx hZ e1007 fx1002 (i := 1) (v := (.double (FP.l2d 1))) (by decide) rfl (hb hby d5_474) ?_
  show Goes p.tables e below (T1007.setTop (mkF m 475 #[.val (.ref p0), .val (.ref a25), .val (.ref a67), .val (.ref a319), .val (.ref a374), .val (.ref a432), .val (.ref a942), .val (.int (1 : Int32)), .val (.int (1 : Int32)), .val (.double (FP.l2d ee1)), .second, .val (.int (0 : Int32))] [(.double (FP.l2d 1)), (.double (FP.l2d ee1)), (.int (1 : Int32)), (.ref a942)])) _
  refine g_ddiv X1007 hx (FP.l2d ee1) (own_div1 ee1) (nn_w rfl) (hb hby d5_475) ?_
  show Goes p.tables e below (T1007.setTop (mkF m 476 #[.val (.ref p0), .val (.ref a25), .val (.ref a67), .val (.ref a319), .val (.ref a374), .val (.ref a432), .val (.ref a942), .val (.int (1 : Int32)), .val (.int (1 : Int32)), .val (.double (FP.l2d ee1)), .second, .val (.int (0 : Int32))] [(.double (FP.l2d ee1)), (.int (1 : Int32)), (.ref a942)])) _
  refine g_dastore X1007 hx hZ e1007 fx1004 1 (by decide) (by show 1 < 2; decide) (hb hby d5_476) (fun T1008 h1008 X1008 e1008 W1008 A1008 => ?_)
  have fx1009 : Sta Z h1008 "java/lang/Long$LongCache" "cache" "[Ljava/lang/Long;" (.ref lc) := Sta.wr W1008 fx962
  have fx1010 : Ar Z h1008 lc (.object "java/lang/Long") cl := Ar.other fx963 W1008 (Nat.ne_of_lt lt943)
  have fx1011 : Exa Z h1008 x0 "java/lang/Long" := Exa.wr W1008 fx964
  have fx1012 : Exa Z h1008 x1 "java/lang/Long" := Exa.wr W1008 fx965
  have fx1013 : Fld Z h1008 x0 "java/lang/Long" "value" "J" (.long (0 : Int64)) := Fld.other W1008 fx966 (Or.inl (Nat.ne_of_lt lt944))
  have fx1014 : Fld Z h1008 x1 "java/lang/Long" "value" "J" (.long (1 : Int64)) := Fld.other W1008 fx967 (Or.inl (Nat.ne_of_lt lt945))
  have fx1015 : Exa Z h1008 p0 "com/example/hold/hold/check/ComponentSolver" := Exa.wr W1008 fx968
  have fx1016 : Fld Z h1008 p0 "com/example/hold/hold/check/ComponentSolver" "size" "I" (.int (2 : Int32)) := Fld.other W1008 fx969 (Or.inl (Nat.ne_of_lt lt946))
  have fx1017 : Fld Z h1008 p0 "com/example/hold/hold/check/ComponentSolver" "columns" "[[I" (.ref ca) := Fld.other W1008 fx970 (Or.inl (Nat.ne_of_lt lt946))
  have fx1018 : Fld Z h1008 p0 "com/example/hold/hold/check/ComponentSolver" "values" "[[D" (.ref va) := Fld.other W1008 fx971 (Or.inl (Nat.ne_of_lt lt946))
  have fx1019 : Fld Z h1008 p0 "com/example/hold/hold/check/ComponentSolver" "length" "[I" (.ref la) := Fld.other W1008 fx972 (Or.inl (Nat.ne_of_lt lt946))
  have fx1020 : Fld Z h1008 p0 "com/example/hold/hold/check/ComponentSolver" "leaving" "[D" (.ref lv) := Fld.other W1008 fx973 (Or.inl (Nat.ne_of_lt lt946))
  have fx1021 : Fld Z h1008 p0 "com/example/hold/hold/check/ComponentSolver" "exits" "[D" (.ref ex) := Fld.other W1008 fx974 (Or.inl (Nat.ne_of_lt lt946))
  have fx1022 : Fld Z h1008 p0 "com/example/hold/hold/check/ComponentSolver" "surplus" "[D" (.ref su) := Fld.other W1008 fx975 (Or.inl (Nat.ne_of_lt lt946))
  have fx1023 : Fld Z h1008 p0 "com/example/hold/hold/check/ComponentSolver" "rowsUsingCount" "[I" (.ref rc) := Fld.other W1008 fx976 (Or.inl (Nat.ne_of_lt lt946))
  have fx1024 : Fld Z h1008 p0 "com/example/hold/hold/check/ComponentSolver" "columnCount" "[I" (.ref cc) := Fld.other W1008 fx977 (Or.inl (Nat.ne_of_lt lt946))
  have fx1025 : Ar Z h1008 ca (.array .int) l1t1 := Ar.other fx978 W1008 (Nat.ne_of_lt lt947)
  have fx1026 : Ovc Z h1008 ca "[I" := Ovc.wr fx979 W1008
  have fx1027 : Ar Z h1008 va (.array .double) l2t1 := Ar.other fx980 W1008 (Nat.ne_of_lt lt948)
  have fx1028 : Ovc Z h1008 va "[D" := Ovc.wr fx981 W1008
  have fx1029 : Ar Z h1008 la .int [(.int (0 : Int32)), (.int (0 : Int32))] := Ar.other fx982 W1008 (Nat.ne_of_lt lt949)
  have fx1030 : Ar Z h1008 lv .double [(.double (FP.l2d ll0)), (.double (FP.l2d ll1))] := Ar.other fx983 W1008 (Nat.ne_of_lt lt950)
  have fx1031 : Ar Z h1008 ex .double [(.double (FP.l2d ee0)), (.double (FP.l2d ee1))] := Ar.other fx984 W1008 (Nat.ne_of_lt lt951)
  have fx1032 : Ar Z h1008 su .double [(.double (FP.l2d (ll0 - 1))), (.double (FP.l2d (ll1 - 1)))] := Ar.other fx985 W1008 (Nat.ne_of_lt lt952)
  have fx1033 : Ar Z h1008 rc .int [(.int (0 : Int32)), (.int (0 : Int32))] := Ar.other fx986 W1008 (Nat.ne_of_lt lt953)
  have fx1034 : Ar Z h1008 cc .int [(.int (0 : Int32)), (.int (0 : Int32))] := Ar.other fx987 W1008 (Nat.ne_of_lt lt954)
  have fx1035 : Exa Z h1008 a25 "[I" := Exa.wr W1008 fx988
  have fx1036 : Exa Z h1008 a67 "java/util/PriorityQueue" := Exa.wr W1008 fx989
  have fx1037 : Ovc Z h1008 qa "java/lang/Object" := Ovc.wr fx990 W1008
  have fx1038 : Ar Z h1008 a25 .int [(.int (0 : Int32)), (.int (0 : Int32))] := Ar.other fx991 W1008 (Nat.ne_of_lt lt955)
  have fx1039 : Exa Z h1008 a319 "[Z" := Exa.wr W1008 fx992
  have fx1040 : Exa Z h1008 a374 "[I" := Exa.wr W1008 fx993
  have fx1041 : Exa Z h1008 a432 "[D" := Exa.wr W1008 fx994
  have fx1042 : Fld Z h1008 a67 "java/util/PriorityQueue" "queue" "[Ljava/lang/Object;" (.ref qa) := Fld.other W1008 fx995 (Or.inl (Nat.ne_of_lt lt956))
  have fx1043 : Fld Z h1008 a67 "java/util/PriorityQueue" "size" "I" (.int (0 : Int32)) := Fld.other W1008 fx996 (Or.inl (Nat.ne_of_lt lt956))
  have fx1044 : Fld Z h1008 a67 "java/util/PriorityQueue" "comparator" "Ljava/util/Comparator;" .null := Fld.other W1008 fx997 (Or.inl (Nat.ne_of_lt lt956))
  have fx1045 : Fld Z h1008 a67 "java/util/PriorityQueue" "modCount" "I" (.int (4 : Int32)) := Fld.other W1008 fx998 (Or.inl (Nat.ne_of_lt lt956))
  have fx1046 : Ar Z h1008 qa (.object "java/lang/Object") [.null, .null, .null, .null, .null, .null, .null, .null, .null, .null, .null] := Ar.other fx999 W1008 (Nat.ne_of_lt lt960)
  have fx1047 : Ar Z h1008 a319 .boolean [(.int (1 : Int32)), (.int (1 : Int32))] := Ar.other fx1000 W1008 (Nat.ne_of_lt lt957)
  have fx1048 : Ar Z h1008 a374 .int [(.int (0 : Int32)), (.int (1 : Int32))] := Ar.other fx1001 W1008 (Nat.ne_of_lt lt958)
  have fx1049 : Ar Z h1008 a432 .double [(.double (FP.l2d 1)), (.double (FP.l2d 1))] := Ar.other fx1002 W1008 (Nat.ne_of_lt lt959)
  have fx1050 : Exa Z h1008 a942 "[D" := Exa.wr W1008 Ea942
  have fx1051 : Ar Z h1008 a942 .double [(.double (FP.l2d 0)), (.double (FP.l2d ee1))] := A1008
  have N1052 := Fr.snoc X1008 N936 ge961
  have Z1053 : n0 ≤ h1008.size := by rw [W1008.size]; exact Z1003
  show Goes p.tables e below (T1008.setTop (mkF m 477 #[.val (.ref p0), .val (.ref a25), .val (.ref a67), .val (.ref a319), .val (.ref a374), .val (.ref a432), .val (.ref a942), .val (.int (1 : Int32)), .val (.int (1 : Int32)), .val (.double (FP.l2d ee1)), .second, .val (.int (0 : Int32))] [])) _
  refine g_iinc X1008 hx (-1 : Int32) (hb hby d5_477) rfl rfl (l' := #[.val (.ref p0), .val (.ref a25), .val (.ref a67), .val (.ref a319), .val (.ref a374), .val (.ref a432), .val (.ref a942), .val (.int (0 : Int32)), .val (.int (1 : Int32)), .val (.double (FP.l2d ee1)), .second, .val (.int (0 : Int32))]) rfl ?_
  refine g_goto X1008 hx (hb hby d5_480) (by decide) (pc' := 393) (by decide) ?_
  refine g_iload X1008 hx (hb hby d5_393) rfl ?_
  refine g_if_lt X1008 hx (hb hby d5_395) (by decide) (pc' := 483) (by decide) (fun q => absurd q (by decide)) (fun _ => ?_)
  show Goes p.tables e below (T1008.setTop (mkF m 398 #[.val (.ref p0), .val (.ref a25), .val (.ref a67), .val (.ref a319), .val (.ref a374), .val (.ref a432), .val (.ref a942), .val (.int (0 : Int32)), .val (.int (1 : Int32)), .val (.double (FP.l2d ee1)), .second, .val (.int (0 : Int32))] [])) _
  refine g_aload X1008 hx (hb hby d5_398) rfl rfl ?_
  refine g_iload X1008 hx (hb hby d5_400) rfl ?_
  refine g_iaload X1008 hx hZ e1008 fx1048 (i := 0) (v := (.int (0 : Int32))) (by decide) rfl (hb hby d5_402) ?_
  show Goes p.tables e below (T1008.setTop (mkF m 403 #[.val (.ref p0), .val (.ref a25), .val (.ref a67), .val (.ref a319), .val (.ref a374), .val (.ref a432), .val (.ref a942), .val (.int (0 : Int32)), .val (.int (1 : Int32)), .val (.double (FP.l2d ee1)), .second, .val (.int (0 : Int32))] [(.int (0 : Int32))])) _
  refine g_istore X1008 hx (hb hby d5_403) (l' := #[.val (.ref p0), .val (.ref a25), .val (.ref a67), .val (.ref a319), .val (.ref a374), .val (.ref a432), .val (.ref a942), .val (.int (0 : Int32)), .val (.int (0 : Int32)), .val (.double (FP.l2d ee1)), .second, .val (.int (0 : Int32))]) rfl ?_
  refine g_aloadN X1008 hx (hb hby d5_405) rfl rfl ?_
  refine g_getF X1008 hx hZ hown e1008 (host := "") (Or.inl (hw _ (List.mem_of_getElem? (i := 25) rfl))) Via.refl fx1021 (hb hby d5_406) (fun T1054 X1054 e1054 => ?_)
  show Goes p.tables e below (T1054.setTop (mkF m 409 #[.val (.ref p0), .val (.ref a25), .val (.ref a67), .val (.ref a319), .val (.ref a374), .val (.ref a432), .val (.ref a942), .val (.int (0 : Int32)), .val (.int (0 : Int32)), .val (.double (FP.l2d ee1)), .second, .val (.int (0 : Int32))] [(.ref ex)])) _
  refine g_iload X1054 hx (hb hby d5_409) rfl ?_
  refine g_daload X1054 hx hZ e1054 fx1031 (i := 0) (v := (.double (FP.l2d ee0))) (by decide) rfl (hb hby d5_411) ?_
  show Goes p.tables e below (T1054.setTop (mkF m 412 #[.val (.ref p0), .val (.ref a25), .val (.ref a67), .val (.ref a319), .val (.ref a374), .val (.ref a432), .val (.ref a942), .val (.int (0 : Int32)), .val (.int (0 : Int32)), .val (.double (FP.l2d ee1)), .second, .val (.int (0 : Int32))] [(.double (FP.l2d ee0))])) _
  refine g_dstore X1054 hx (hb hby d5_412) (l' := #[.val (.ref p0), .val (.ref a25), .val (.ref a67), .val (.ref a319), .val (.ref a374), .val (.ref a432), .val (.ref a942), .val (.int (0 : Int32)), .val (.int (0 : Int32)), .val (.double (FP.l2d ee0)), .second, .val (.int (0 : Int32))]) rfl ?_
  refine g_iconst X1054 hx (0 : Int32) (hb hby d5_414) rfl ?_
  refine g_istore X1054 hx (hb hby d5_415) (l' := #[.val (.ref p0), .val (.ref a25), .val (.ref a67), .val (.ref a319), .val (.ref a374), .val (.ref a432), .val (.ref a942), .val (.int (0 : Int32)), .val (.int (0 : Int32)), .val (.double (FP.l2d ee0)), .second, .val (.int (0 : Int32))]) rfl ?_
  refine g_iload X1054 hx (hb hby d5_417) rfl ?_
  refine g_aloadN X1054 hx (hb hby d5_419) rfl rfl ?_
  refine g_getF X1054 hx hZ hown e1054 (host := "") (Or.inl (hw _ (List.mem_of_getElem? (i := 20) rfl))) Via.refl fx1019 (hb hby d5_420) (fun T1055 X1055 e1055 => ?_)
  show Goes p.tables e below (T1055.setTop (mkF m 423 #[.val (.ref p0), .val (.ref a25), .val (.ref a67), .val (.ref a319), .val (.ref a374), .val (.ref a432), .val (.ref a942), .val (.int (0 : Int32)), .val (.int (0 : Int32)), .val (.double (FP.l2d ee0)), .second, .val (.int (0 : Int32))] [(.ref la), (.int (0 : Int32))])) _
  refine g_iload X1055 hx (hb hby d5_423) rfl ?_
  refine g_iaload X1055 hx hZ e1055 fx1029 (i := 0) (v := (.int (0 : Int32))) (by decide) rfl (hb hby d5_425) ?_
  show Goes p.tables e below (T1055.setTop (mkF m 426 #[.val (.ref p0), .val (.ref a25), .val (.ref a67), .val (.ref a319), .val (.ref a374), .val (.ref a432), .val (.ref a942), .val (.int (0 : Int32)), .val (.int (0 : Int32)), .val (.double (FP.l2d ee0)), .second, .val (.int (0 : Int32))] [(.int (0 : Int32)), (.int (0 : Int32))])) _
  refine g_icmp_ge X1055 hx (hb hby d5_426) (by decide) (pc' := 464) (by decide) (fun _ => ?_) (fun q => absurd q (by decide))
  show Goes p.tables e below (T1055.setTop (mkF m 464 #[.val (.ref p0), .val (.ref a25), .val (.ref a67), .val (.ref a319), .val (.ref a374), .val (.ref a432), .val (.ref a942), .val (.int (0 : Int32)), .val (.int (0 : Int32)), .val (.double (FP.l2d ee0)), .second, .val (.int (0 : Int32))] [])) _
  refine g_aload X1055 hx (hb hby d5_464) rfl rfl ?_
  refine g_iload X1055 hx (hb hby d5_466) rfl ?_
  refine g_dload X1055 hx (hb hby d5_468) rfl ?_
  refine g_aload X1055 hx (hb hby d5_470) rfl rfl ?_
  refine g_iload X1055 hx (hb hby d5_472) rfl ?_
  refine g_daload X1055 hx hZ e1055 fx1049 (i := 0) (v := (.double (FP.l2d 1))) (by decide) rfl (hb hby d5_474) ?_
  show Goes p.tables e below (T1055.setTop (mkF m 475 #[.val (.ref p0), .val (.ref a25), .val (.ref a67), .val (.ref a319), .val (.ref a374), .val (.ref a432), .val (.ref a942), .val (.int (0 : Int32)), .val (.int (0 : Int32)), .val (.double (FP.l2d ee0)), .second, .val (.int (0 : Int32))] [(.double (FP.l2d 1)), (.double (FP.l2d ee0)), (.int (0 : Int32)), (.ref a942)])) _
  refine g_ddiv X1055 hx (FP.l2d ee0) (own_div1 ee0) (nn_w rfl) (hb hby d5_475) ?_
  show Goes p.tables e below (T1055.setTop (mkF m 476 #[.val (.ref p0), .val (.ref a25), .val (.ref a67), .val (.ref a319), .val (.ref a374), .val (.ref a432), .val (.ref a942), .val (.int (0 : Int32)), .val (.int (0 : Int32)), .val (.double (FP.l2d ee0)), .second, .val (.int (0 : Int32))] [(.double (FP.l2d ee0)), (.int (0 : Int32)), (.ref a942)])) _
  refine g_dastore X1055 hx hZ e1055 fx1051 0 (by decide) (by show 0 < 2; decide) (hb hby d5_476) (fun T1056 h1056 X1056 e1056 W1056 A1056 => ?_)
  have fx1057 : Sta Z h1056 "java/lang/Long$LongCache" "cache" "[Ljava/lang/Long;" (.ref lc) := Sta.wr W1056 fx1009
  have fx1058 : Ar Z h1056 lc (.object "java/lang/Long") cl := Ar.other fx1010 W1056 (Nat.ne_of_lt lt943)
  have fx1059 : Exa Z h1056 x0 "java/lang/Long" := Exa.wr W1056 fx1011
  have fx1060 : Exa Z h1056 x1 "java/lang/Long" := Exa.wr W1056 fx1012
  have fx1061 : Fld Z h1056 x0 "java/lang/Long" "value" "J" (.long (0 : Int64)) := Fld.other W1056 fx1013 (Or.inl (Nat.ne_of_lt lt944))
  have fx1062 : Fld Z h1056 x1 "java/lang/Long" "value" "J" (.long (1 : Int64)) := Fld.other W1056 fx1014 (Or.inl (Nat.ne_of_lt lt945))
  have fx1063 : Exa Z h1056 p0 "com/example/hold/hold/check/ComponentSolver" := Exa.wr W1056 fx1015
  have fx1064 : Fld Z h1056 p0 "com/example/hold/hold/check/ComponentSolver" "size" "I" (.int (2 : Int32)) := Fld.other W1056 fx1016 (Or.inl (Nat.ne_of_lt lt946))
  have fx1065 : Fld Z h1056 p0 "com/example/hold/hold/check/ComponentSolver" "columns" "[[I" (.ref ca) := Fld.other W1056 fx1017 (Or.inl (Nat.ne_of_lt lt946))
  have fx1066 : Fld Z h1056 p0 "com/example/hold/hold/check/ComponentSolver" "values" "[[D" (.ref va) := Fld.other W1056 fx1018 (Or.inl (Nat.ne_of_lt lt946))
  have fx1067 : Fld Z h1056 p0 "com/example/hold/hold/check/ComponentSolver" "length" "[I" (.ref la) := Fld.other W1056 fx1019 (Or.inl (Nat.ne_of_lt lt946))
  have fx1068 : Fld Z h1056 p0 "com/example/hold/hold/check/ComponentSolver" "leaving" "[D" (.ref lv) := Fld.other W1056 fx1020 (Or.inl (Nat.ne_of_lt lt946))
  have fx1069 : Fld Z h1056 p0 "com/example/hold/hold/check/ComponentSolver" "exits" "[D" (.ref ex) := Fld.other W1056 fx1021 (Or.inl (Nat.ne_of_lt lt946))
  have fx1070 : Fld Z h1056 p0 "com/example/hold/hold/check/ComponentSolver" "surplus" "[D" (.ref su) := Fld.other W1056 fx1022 (Or.inl (Nat.ne_of_lt lt946))
  have fx1071 : Fld Z h1056 p0 "com/example/hold/hold/check/ComponentSolver" "rowsUsingCount" "[I" (.ref rc) := Fld.other W1056 fx1023 (Or.inl (Nat.ne_of_lt lt946))
  have fx1072 : Fld Z h1056 p0 "com/example/hold/hold/check/ComponentSolver" "columnCount" "[I" (.ref cc) := Fld.other W1056 fx1024 (Or.inl (Nat.ne_of_lt lt946))
  have fx1073 : Ar Z h1056 ca (.array .int) l1t1 := Ar.other fx1025 W1056 (Nat.ne_of_lt lt947)
  have fx1074 : Ovc Z h1056 ca "[I" := Ovc.wr fx1026 W1056
  have fx1075 : Ar Z h1056 va (.array .double) l2t1 := Ar.other fx1027 W1056 (Nat.ne_of_lt lt948)
  have fx1076 : Ovc Z h1056 va "[D" := Ovc.wr fx1028 W1056
  have fx1077 : Ar Z h1056 la .int [(.int (0 : Int32)), (.int (0 : Int32))] := Ar.other fx1029 W1056 (Nat.ne_of_lt lt949)
  have fx1078 : Ar Z h1056 lv .double [(.double (FP.l2d ll0)), (.double (FP.l2d ll1))] := Ar.other fx1030 W1056 (Nat.ne_of_lt lt950)
  have fx1079 : Ar Z h1056 ex .double [(.double (FP.l2d ee0)), (.double (FP.l2d ee1))] := Ar.other fx1031 W1056 (Nat.ne_of_lt lt951)
  have fx1080 : Ar Z h1056 su .double [(.double (FP.l2d (ll0 - 1))), (.double (FP.l2d (ll1 - 1)))] := Ar.other fx1032 W1056 (Nat.ne_of_lt lt952)
  have fx1081 : Ar Z h1056 rc .int [(.int (0 : Int32)), (.int (0 : Int32))] := Ar.other fx1033 W1056 (Nat.ne_of_lt lt953)
  have fx1082 : Ar Z h1056 cc .int [(.int (0 : Int32)), (.int (0 : Int32))] := Ar.other fx1034 W1056 (Nat.ne_of_lt lt954)
  have fx1083 : Exa Z h1056 a25 "[I" := Exa.wr W1056 fx1035
  have fx1084 : Exa Z h1056 a67 "java/util/PriorityQueue" := Exa.wr W1056 fx1036
  have fx1085 : Ovc Z h1056 qa "java/lang/Object" := Ovc.wr fx1037 W1056
  have fx1086 : Ar Z h1056 a25 .int [(.int (0 : Int32)), (.int (0 : Int32))] := Ar.other fx1038 W1056 (Nat.ne_of_lt lt955)
  have fx1087 : Exa Z h1056 a319 "[Z" := Exa.wr W1056 fx1039
  have fx1088 : Exa Z h1056 a374 "[I" := Exa.wr W1056 fx1040
  have fx1089 : Exa Z h1056 a432 "[D" := Exa.wr W1056 fx1041
  have fx1090 : Fld Z h1056 a67 "java/util/PriorityQueue" "queue" "[Ljava/lang/Object;" (.ref qa) := Fld.other W1056 fx1042 (Or.inl (Nat.ne_of_lt lt956))
  have fx1091 : Fld Z h1056 a67 "java/util/PriorityQueue" "size" "I" (.int (0 : Int32)) := Fld.other W1056 fx1043 (Or.inl (Nat.ne_of_lt lt956))
  have fx1092 : Fld Z h1056 a67 "java/util/PriorityQueue" "comparator" "Ljava/util/Comparator;" .null := Fld.other W1056 fx1044 (Or.inl (Nat.ne_of_lt lt956))
  have fx1093 : Fld Z h1056 a67 "java/util/PriorityQueue" "modCount" "I" (.int (4 : Int32)) := Fld.other W1056 fx1045 (Or.inl (Nat.ne_of_lt lt956))
  have fx1094 : Ar Z h1056 qa (.object "java/lang/Object") [.null, .null, .null, .null, .null, .null, .null, .null, .null, .null, .null] := Ar.other fx1046 W1056 (Nat.ne_of_lt lt960)
  have fx1095 : Ar Z h1056 a319 .boolean [(.int (1 : Int32)), (.int (1 : Int32))] := Ar.other fx1047 W1056 (Nat.ne_of_lt lt957)
  have fx1096 : Ar Z h1056 a374 .int [(.int (0 : Int32)), (.int (1 : Int32))] := Ar.other fx1048 W1056 (Nat.ne_of_lt lt958)
  have fx1097 : Ar Z h1056 a432 .double [(.double (FP.l2d 1)), (.double (FP.l2d 1))] := Ar.other fx1049 W1056 (Nat.ne_of_lt lt959)
  have fx1098 : Exa Z h1056 a942 "[D" := Exa.wr W1056 fx1050
  have fx1099 : Ar Z h1056 a942 .double [(.double (FP.l2d ee0)), (.double (FP.l2d ee1))] := A1056
  have N1100 := Fr.snoc X1056 N1052 ge961
  have Z1101 : n0 ≤ h1056.size := by rw [W1056.size]; exact Z1053
  show Goes p.tables e below (T1056.setTop (mkF m 477 #[.val (.ref p0), .val (.ref a25), .val (.ref a67), .val (.ref a319), .val (.ref a374), .val (.ref a432), .val (.ref a942), .val (.int (0 : Int32)), .val (.int (0 : Int32)), .val (.double (FP.l2d ee0)), .second, .val (.int (0 : Int32))] [])) _
  refine g_iinc X1056 hx (-1 : Int32) (hb hby d5_477) rfl rfl (l' := #[.val (.ref p0), .val (.ref a25), .val (.ref a67), .val (.ref a319), .val (.ref a374), .val (.ref a432), .val (.ref a942), .val (.int (-1 : Int32)), .val (.int (0 : Int32)), .val (.double (FP.l2d ee0)), .second, .val (.int (0 : Int32))]) rfl ?_
  refine g_goto X1056 hx (hb hby d5_480) (by decide) (pc' := 393) (by decide) ?_
  refine g_iload X1056 hx (hb hby d5_393) rfl ?_
  refine g_if_lt X1056 hx (hb hby d5_395) (by decide) (pc' := 483) (by decide) (fun _ => ?_) (fun q => absurd (by decide) q)
  show Goes p.tables e below (T1056.setTop (mkF m 483 #[.val (.ref p0), .val (.ref a25), .val (.ref a67), .val (.ref a319), .val (.ref a374), .val (.ref a432), .val (.ref a942), .val (.int (-1 : Int32)), .val (.int (0 : Int32)), .val (.double (FP.l2d ee0)), .second, .val (.int (0 : Int32))] [])) _
  refine g_aload X1056 hx (hb hby d5_483) rfl rfl ?_
  exact g_retA X1056 hx hret hlk rfl rfl (hb hby d5_485) (by decide) (by decide) (by rw [e1056]; exact ⟨a942, rfl, ge961, N1100, fx1099⟩)
theorem ef_0 (m : MethodId) (p0 : Int32) (p1 : Int32) (p2 : Int32) (p3 : Int32) (p4 : Int32) (p5 : Int32) : entryFrame m #[(.int p0), (.int p1), (.int p2), (.int p3), (.int p4), (.int p5)] maxLocals = mkF m 0 #[.val (.int p0), .val (.int p1), .val (.int p2), .val (.int p3), .val (.int p4), .val (.int p5), .unset, .unset, .unset, .unset, .unset, .unset, .unset, .unset, .unset, .unset, .unset, .unset, .unset, .unset, .unset, .unset, .unset, .unset, .unset, .unset, .unset, .unset, .unset, .unset, .unset] [] := by first | (simp [entryFrame, mkF, argsToLocals, Value.category, maxLocals]; done) | rfl
set_option maxRecDepth 65536 in
set_option maxHeartbeats 40000000 in
theorem law (l : Launch) (Z : State) (a0 : Array Value) (hw : ∀ d ∈ tables_1, d.before a0 Z = true) (ws : List Jvm.Cond) (p0 : Int32) (p1 : Int32) (p2 : Int32) (p3 : Int32) (p4 : Int32) (p5 : Int32) (h0 : Heap) (lc x0 x1 : Addr) (cl : List Value) (SL : Sta Z h0 "java/lang/Long$LongCache" "cache" "[Ljava/lang/Long;" (.ref lc)) (Al : Ar Z h0 lc (.object "java/lang/Long") cl) (hc0 : cl[128]? = some (.ref x0)) (hc1 : cl[129]? = some (.ref x1)) (Ex0 : Exa Z h0 x0 "java/lang/Long") (Ex1 : Exa Z h0 x1 "java/lang/Long") (fx0 : Fld Z h0 x0 "java/lang/Long" "value" "J" (.long (0 : Int64))) (fx1 : Fld Z h0 x1 "java/lang/Long" "value" "J" (.long (1 : Int64))) :
    Con l Z x code maxLocals ret ws room_1 72 256 #[(.int p0), (.int p1), (.int p2), (.int p3), (.int p4), (.int p5)] h0 (fun v h L => v = some (.int 1) ∧ Fr h0.size L) := by
  refine Con.body (plainFor_of_name (by first | (simp [plainName, overriddenIn, x]; done) | decide +kernel)) ?_
  intro p e s m below meth c T0 hx hby hml hown hnm hZ hret hlk X0 e0
  refine Goes.cast (ef_0 m p0 p1 p2 p3 p4 p5) ?_
  have N0 := Fr.nil h0.size
  have Z0 : h0.size ≤ h0.size := Nat.le_refl _
  have K0 : Keep h0 h0 [] := Keep.refl _ _
  show Goes p.tables e below (T0.setTop (mkF m 0 #[.val (.int p0), .val (.int p1), .val (.int p2), .val (.int p3), .val (.int p4), .val (.int p5), .unset, .unset, .unset, .unset, .unset, .unset, .unset, .unset, .unset, .unset, .unset, .unset, .unset, .unset, .unset, .unset, .unset, .unset, .unset, .unset, .unset, .unset, .unset, .unset, .unset] [])) _
  refine g_iloadN X0 hx (hb hby at_0) rfl ?_
  refine g_bipush X0 hx (8 : Int32) (hb hby at_1) (by decide) ?_
  refine g_ishl X0 hx (hb hby at_3) ?_
  refine g_bipush X0 hx (8 : Int32) (hb hby at_4) (by decide) ?_
  refine g_ishr X0 hx (hb hby at_6) ?_
  refine g_i2l X0 hx (hb hby at_7) ?_
  show Goes p.tables e below (T0.setTop (mkF m 8 #[.val (.int p0), .val (.int p1), .val (.int p2), .val (.int p3), .val (.int p4), .val (.int p5), .unset, .unset, .unset, .unset, .unset, .unset, .unset, .unset, .unset, .unset, .unset, .unset, .unset, .unset, .unset, .unset, .unset, .unset, .unset, .unset, .unset, .unset, .unset, .unset, .unset] [(.long (Int32.toInt64 ((p0 <<< ((8 : Int32) &&& 31)) >>> ((8 : Int32) &&& 31))))])) _
  obtain ⟨pa, hpa⟩ : ∃ z : Int64, z = (Int32.toInt64 ((p0 <<< ((8 : Int32) &&& 31)) >>> ((8 : Int32) &&& 31))) := ⟨_, rfl⟩
  refine g_nameL hpa ?_
  refine g_lstore X0 hx (hb hby at_8) (l' := #[.val (.int p0), .val (.int p1), .val (.int p2), .val (.int p3), .val (.int p4), .val (.int p5), .val (.long pa), .second, .unset, .unset, .unset, .unset, .unset, .unset, .unset, .unset, .unset, .unset, .unset, .unset, .unset, .unset, .unset, .unset, .unset, .unset, .unset, .unset, .unset, .unset, .unset]) rfl ?_
  refine g_iloadN X0 hx (hb hby at_10) rfl ?_
  refine g_bipush X0 hx (8 : Int32) (hb hby at_11) (by decide) ?_
  refine g_ishl X0 hx (hb hby at_13) ?_
  refine g_bipush X0 hx (8 : Int32) (hb hby at_14) (by decide) ?_
  show Goes p.tables e below (T0.setTop (mkF m 16 #[.val (.int p0), .val (.int p1), .val (.int p2), .val (.int p3), .val (.int p4), .val (.int p5), .val (.long pa), .second, .unset, .unset, .unset, .unset, .unset, .unset, .unset, .unset, .unset, .unset, .unset, .unset, .unset, .unset, .unset, .unset, .unset, .unset, .unset, .unset, .unset, .unset, .unset] [(.int (8 : Int32)), (.int (p1 <<< ((8 : Int32) &&& 31)))])) _
  refine g_ishr X0 hx (hb hby at_16) ?_
  refine g_i2l X0 hx (hb hby at_17) ?_
  obtain ⟨wa, hwa⟩ : ∃ z : Int64, z = (Int32.toInt64 ((p1 <<< ((8 : Int32) &&& 31)) >>> ((8 : Int32) &&& 31))) := ⟨_, rfl⟩
  refine g_nameL hwa ?_
  refine g_lstore X0 hx (hb hby at_18) (l' := #[.val (.int p0), .val (.int p1), .val (.int p2), .val (.int p3), .val (.int p4), .val (.int p5), .val (.long pa), .second, .val (.long wa), .second, .unset, .unset, .unset, .unset, .unset, .unset, .unset, .unset, .unset, .unset, .unset, .unset, .unset, .unset, .unset, .unset, .unset, .unset, .unset, .unset, .unset]) rfl ?_
  refine g_iloadN X0 hx (hb hby at_20) rfl ?_
  refine g_bipush X0 hx (31 : Int32) (hb hby at_21) (by decide) ?_
  show Goes p.tables e below (T0.setTop (mkF m 23 #[.val (.int p0), .val (.int p1), .val (.int p2), .val (.int p3), .val (.int p4), .val (.int p5), .val (.long pa), .second, .val (.long wa), .second, .unset, .unset, .unset, .unset, .unset, .unset, .unset, .unset, .unset, .unset, .unset, .unset, .unset, .unset, .unset, .unset, .unset, .unset, .unset, .unset, .unset] [(.int (31 : Int32)), (.int p1)])) _
  refine g_iushr X0 hx (hb hby at_23) ?_
  obtain ⟨ma, hma⟩ : ∃ z : Int32, z = (XT.ushr p1 (31 : Int32)) := ⟨_, rfl⟩
  refine g_nameI hma ?_
  refine g_istore X0 hx (hb hby at_24) (l' := #[.val (.int p0), .val (.int p1), .val (.int p2), .val (.int p3), .val (.int p4), .val (.int p5), .val (.long pa), .second, .val (.long wa), .second, .val (.int ma), .unset, .unset, .unset, .unset, .unset, .unset, .unset, .unset, .unset, .unset, .unset, .unset, .unset, .unset, .unset, .unset, .unset, .unset, .unset, .unset]) rfl ?_
  refine g_iloadN X0 hx (hb hby at_26) rfl ?_
  refine g_bipush X0 hx (8 : Int32) (hb hby at_27) (by decide) ?_
  refine g_ishl X0 hx (hb hby at_29) ?_
  show Goes p.tables e below (T0.setTop (mkF m 30 #[.val (.int p0), .val (.int p1), .val (.int p2), .val (.int p3), .val (.int p4), .val (.int p5), .val (.long pa), .second, .val (.long wa), .second, .val (.int ma), .unset, .unset, .unset, .unset, .unset, .unset, .unset, .unset, .unset, .unset, .unset, .unset, .unset, .unset, .unset, .unset, .unset, .unset, .unset, .unset] [(.int (p2 <<< ((8 : Int32) &&& 31)))])) _
  refine g_bipush X0 hx (8 : Int32) (hb hby at_30) (by decide) ?_
  refine g_ishr X0 hx (hb hby at_32) ?_
  refine g_i2l X0 hx (hb hby at_33) ?_
  obtain ⟨pb, hpb⟩ : ∃ z : Int64, z = (Int32.toInt64 ((p2 <<< ((8 : Int32) &&& 31)) >>> ((8 : Int32) &&& 31))) := ⟨_, rfl⟩
  refine g_nameL hpb ?_
  refine g_lstore X0 hx (hb hby at_34) (l' := #[.val (.int p0), .val (.int p1), .val (.int p2), .val (.int p3), .val (.int p4), .val (.int p5), .val (.long pa), .second, .val (.long wa), .second, .val (.int ma), .val (.long pb), .second, .unset, .unset, .unset, .unset, .unset, .unset, .unset, .unset, .unset, .unset, .unset, .unset, .unset, .unset, .unset, .unset, .unset, .unset]) rfl ?_
  refine g_iloadN X0 hx (hb hby at_36) rfl ?_
  show Goes p.tables e below (T0.setTop (mkF m 37 #[.val (.int p0), .val (.int p1), .val (.int p2), .val (.int p3), .val (.int p4), .val (.int p5), .val (.long pa), .second, .val (.long wa), .second, .val (.int ma), .val (.long pb), .second, .unset, .unset, .unset, .unset, .unset, .unset, .unset, .unset, .unset, .unset, .unset, .unset, .unset, .unset, .unset, .unset, .unset, .unset] [(.int p3)])) _
  refine g_bipush X0 hx (8 : Int32) (hb hby at_37) (by decide) ?_
  refine g_ishl X0 hx (hb hby at_39) ?_
  refine g_bipush X0 hx (8 : Int32) (hb hby at_40) (by decide) ?_
  refine g_ishr X0 hx (hb hby at_42) ?_
  refine g_i2l X0 hx (hb hby at_43) ?_
  obtain ⟨wb, hwb⟩ : ∃ z : Int64, z = (Int32.toInt64 ((p3 <<< ((8 : Int32) &&& 31)) >>> ((8 : Int32) &&& 31))) := ⟨_, rfl⟩
  refine g_nameL hwb ?_
  show Goes p.tables e below (T0.setTop (mkF m 44 #[.val (.int p0), .val (.int p1), .val (.int p2), .val (.int p3), .val (.int p4), .val (.int p5), .val (.long pa), .second, .val (.long wa), .second, .val (.int ma), .val (.long pb), .second, .unset, .unset, .unset, .unset, .unset, .unset, .unset, .unset, .unset, .unset, .unset, .unset, .unset, .unset, .unset, .unset, .unset, .unset] [(.long wb)])) _
  refine g_lstore X0 hx (hb hby at_44) (l' := #[.val (.int p0), .val (.int p1), .val (.int p2), .val (.int p3), .val (.int p4), .val (.int p5), .val (.long pa), .second, .val (.long wa), .second, .val (.int ma), .val (.long pb), .second, .val (.long wb), .second, .unset, .unset, .unset, .unset, .unset, .unset, .unset, .unset, .unset, .unset, .unset, .unset, .unset, .unset, .unset, .unset]) rfl ?_
  refine g_iloadN X0 hx (hb hby at_46) rfl ?_
  refine g_bipush X0 hx (31 : Int32) (hb hby at_47) (by decide) ?_
  refine g_iushr X0 hx (hb hby at_49) ?_
  obtain ⟨mb, hmb⟩ : ∃ z : Int32, z = (XT.ushr p3 (31 : Int32)) := ⟨_, rfl⟩
  refine g_nameI hmb ?_
  refine g_istore X0 hx (hb hby at_50) (l' := #[.val (.int p0), .val (.int p1), .val (.int p2), .val (.int p3), .val (.int p4), .val (.int p5), .val (.long pa), .second, .val (.long wa), .second, .val (.int ma), .val (.long pb), .second, .val (.long wb), .second, .val (.int mb), .unset, .unset, .unset, .unset, .unset, .unset, .unset, .unset, .unset, .unset, .unset, .unset, .unset, .unset, .unset]) rfl ?_
  show Goes p.tables e below (T0.setTop (mkF m 52 #[.val (.int p0), .val (.int p1), .val (.int p2), .val (.int p3), .val (.int p4), .val (.int p5), .val (.long pa), .second, .val (.long wa), .second, .val (.int ma), .val (.long pb), .second, .val (.long wb), .second, .val (.int mb), .unset, .unset, .unset, .unset, .unset, .unset, .unset, .unset, .unset, .unset, .unset, .unset, .unset, .unset, .unset] [])) _
  refine g_iload X0 hx (hb hby at_52) rfl ?_
  refine g_bipush X0 hx (8 : Int32) (hb hby at_54) (by decide) ?_
  refine g_ishl X0 hx (hb hby at_56) ?_
  refine g_bipush X0 hx (8 : Int32) (hb hby at_57) (by decide) ?_
  refine g_ishr X0 hx (hb hby at_59) ?_
  refine g_i2l X0 hx (hb hby at_60) ?_
  show Goes p.tables e below (T0.setTop (mkF m 61 #[.val (.int p0), .val (.int p1), .val (.int p2), .val (.int p3), .val (.int p4), .val (.int p5), .val (.long pa), .second, .val (.long wa), .second, .val (.int ma), .val (.long pb), .second, .val (.long wb), .second, .val (.int mb), .unset, .unset, .unset, .unset, .unset, .unset, .unset, .unset, .unset, .unset, .unset, .unset, .unset, .unset, .unset] [(.long (Int32.toInt64 ((p4 <<< ((8 : Int32) &&& 31)) >>> ((8 : Int32) &&& 31))))])) _
  obtain ⟨pd, hpd⟩ : ∃ z : Int64, z = (Int32.toInt64 ((p4 <<< ((8 : Int32) &&& 31)) >>> ((8 : Int32) &&& 31))) := ⟨_, rfl⟩
  refine g_nameL hpd ?_
  refine g_lstore X0 hx (hb hby at_61) (l' := #[.val (.int p0), .val (.int p1), .val (.int p2), .val (.int p3), .val (.int p4), .val (.int p5), .val (.long pa), .second, .val (.long wa), .second, .val (.int ma), .val (.long pb), .second, .val (.long wb), .second, .val (.int mb), .val (.long pd), .second, .unset, .unset, .unset, .unset, .unset, .unset, .unset, .unset, .unset, .unset, .unset, .unset, .unset]) rfl ?_
  refine g_iload X0 hx (hb hby at_63) rfl ?_
  refine g_bipush X0 hx (8 : Int32) (hb hby at_65) (by decide) ?_
  refine g_ishl X0 hx (hb hby at_67) ?_
  refine g_bipush X0 hx (8 : Int32) (hb hby at_68) (by decide) ?_
  show Goes p.tables e below (T0.setTop (mkF m 70 #[.val (.int p0), .val (.int p1), .val (.int p2), .val (.int p3), .val (.int p4), .val (.int p5), .val (.long pa), .second, .val (.long wa), .second, .val (.int ma), .val (.long pb), .second, .val (.long wb), .second, .val (.int mb), .val (.long pd), .second, .unset, .unset, .unset, .unset, .unset, .unset, .unset, .unset, .unset, .unset, .unset, .unset, .unset] [(.int (8 : Int32)), (.int (p5 <<< ((8 : Int32) &&& 31)))])) _
  refine g_ishr X0 hx (hb hby at_70) ?_
  refine g_i2l X0 hx (hb hby at_71) ?_
  obtain ⟨wd, hwd⟩ : ∃ z : Int64, z = (Int32.toInt64 ((p5 <<< ((8 : Int32) &&& 31)) >>> ((8 : Int32) &&& 31))) := ⟨_, rfl⟩
  refine g_nameL hwd ?_
  refine g_lstore X0 hx (hb hby at_72) (l' := #[.val (.int p0), .val (.int p1), .val (.int p2), .val (.int p3), .val (.int p4), .val (.int p5), .val (.long pa), .second, .val (.long wa), .second, .val (.int ma), .val (.long pb), .second, .val (.long wb), .second, .val (.int mb), .val (.long pd), .second, .val (.long wd), .second, .unset, .unset, .unset, .unset, .unset, .unset, .unset, .unset, .unset, .unset, .unset]) rfl ?_
  refine g_iload X0 hx (hb hby at_74) rfl ?_
  refine g_bipush X0 hx (31 : Int32) (hb hby at_76) (by decide) ?_
  show Goes p.tables e below (T0.setTop (mkF m 78 #[.val (.int p0), .val (.int p1), .val (.int p2), .val (.int p3), .val (.int p4), .val (.int p5), .val (.long pa), .second, .val (.long wa), .second, .val (.int ma), .val (.long pb), .second, .val (.long wb), .second, .val (.int mb), .val (.long pd), .second, .val (.long wd), .second, .unset, .unset, .unset, .unset, .unset, .unset, .unset, .unset, .unset, .unset, .unset] [(.int (31 : Int32)), (.int p5)])) _
  refine g_iushr X0 hx (hb hby at_78) ?_
  obtain ⟨md, hmd⟩ : ∃ z : Int32, z = (XT.ushr p5 (31 : Int32)) := ⟨_, rfl⟩
  refine g_nameI hmd ?_
  refine g_istore X0 hx (hb hby at_79) (l' := #[.val (.int p0), .val (.int p1), .val (.int p2), .val (.int p3), .val (.int p4), .val (.int p5), .val (.long pa), .second, .val (.long wa), .second, .val (.int ma), .val (.long pb), .second, .val (.long wb), .second, .val (.int mb), .val (.long pd), .second, .val (.long wd), .second, .val (.int md), .unset, .unset, .unset, .unset, .unset, .unset, .unset, .unset, .unset, .unset]) rfl ?_
  refine g_lconst X0 hx (0 : Int64) (hb hby at_81) rfl ?_
  refine g_lstore X0 hx (hb hby at_82) (l' := #[.val (.int p0), .val (.int p1), .val (.int p2), .val (.int p3), .val (.int p4), .val (.int p5), .val (.long pa), .second, .val (.long wa), .second, .val (.int ma), .val (.long pb), .second, .val (.long wb), .second, .val (.int mb), .val (.long pd), .second, .val (.long wd), .second, .val (.int md), .val (.long (0 : Int64)), .second, .unset, .unset, .unset, .unset, .unset, .unset, .unset, .unset]) rfl ?_
  refine g_lconst X0 hx (0 : Int64) (hb hby at_84) rfl ?_
  show Goes p.tables e below (T0.setTop (mkF m 85 #[.val (.int p0), .val (.int p1), .val (.int p2), .val (.int p3), .val (.int p4), .val (.int p5), .val (.long pa), .second, .val (.long wa), .second, .val (.int ma), .val (.long pb), .second, .val (.long wb), .second, .val (.int mb), .val (.long pd), .second, .val (.long wd), .second, .val (.int md), .val (.long (0 : Int64)), .second, .unset, .unset, .unset, .unset, .unset, .unset, .unset, .unset] [(.long (0 : Int64))])) _
  refine g_lstore X0 hx (hb hby at_85) (l' := #[.val (.int p0), .val (.int p1), .val (.int p2), .val (.int p3), .val (.int p4), .val (.int p5), .val (.long pa), .second, .val (.long wa), .second, .val (.int ma), .val (.long pb), .second, .val (.long wb), .second, .val (.int mb), .val (.long pd), .second, .val (.long wd), .second, .val (.int md), .val (.long (0 : Int64)), .second, .val (.long (0 : Int64)), .second, .unset, .unset, .unset, .unset, .unset, .unset]) rfl ?_
  refine g_lconst X0 hx (0 : Int64) (hb hby at_87) rfl ?_
  refine g_lstore X0 hx (hb hby at_88) (l' := #[.val (.int p0), .val (.int p1), .val (.int p2), .val (.int p3), .val (.int p4), .val (.int p5), .val (.long pa), .second, .val (.long wa), .second, .val (.int ma), .val (.long pb), .second, .val (.long wb), .second, .val (.int mb), .val (.long pd), .second, .val (.long wd), .second, .val (.int md), .val (.long (0 : Int64)), .second, .val (.long (0 : Int64)), .second, .val (.long (0 : Int64)), .second, .unset, .unset, .unset, .unset]) rfl ?_
  refine g_lconst X0 hx (0 : Int64) (hb hby at_90) rfl ?_
  refine g_lstore X0 hx (hb hby at_91) (l' := #[.val (.int p0), .val (.int p1), .val (.int p2), .val (.int p3), .val (.int p4), .val (.int p5), .val (.long pa), .second, .val (.long wa), .second, .val (.int ma), .val (.long pb), .second, .val (.long wb), .second, .val (.int mb), .val (.long pd), .second, .val (.long wd), .second, .val (.int md), .val (.long (0 : Int64)), .second, .val (.long (0 : Int64)), .second, .val (.long (0 : Int64)), .second, .val (.long (0 : Int64)), .second, .unset, .unset]) rfl ?_
  have b_pa : Bn 8388608 pa := by rw [hpa]; exact own_p24 _
  have b_wa : Bn 8388608 wa := by rw [hwa]; exact own_p24 _
  have h01a : ma = 0 ∨ ma = 1 := by rw [hma]; exact own_m01 _
  have b_pb : Bn 8388608 pb := by rw [hpb]; exact own_p24 _
  have b_wb : Bn 8388608 wb := by rw [hwb]; exact own_p24 _
  have h01b : mb = 0 ∨ mb = 1 := by rw [hmb]; exact own_m01 _
  have b_pd : Bn 8388608 pd := by rw [hpd]; exact own_p24 _
  have b_wd : Bn 8388608 wd := by rw [hwd]; exact own_p24 _
  have h01d : md = 0 ∨ md = 1 := by rw [hmd]; exact own_m01 _
  have b00 : Bn 0 (0 : Int64) := Bn.zero (by decide)
  refine g_iload X0 hx (hb hby at_93) rfl ?_
  show Goes p.tables e below (T0.setTop (mkF m 95 #[.val (.int p0), .val (.int p1), .val (.int p2), .val (.int p3), .val (.int p4), .val (.int p5), .val (.long pa), .second, .val (.long wa), .second, .val (.int ma), .val (.long pb), .second, .val (.long wb), .second, .val (.int mb), .val (.long pd), .second, .val (.long wd), .second, .val (.int md), .val (.long (0 : Int64)), .second, .val (.long (0 : Int64)), .second, .val (.long (0 : Int64)), .second, .val (.long (0 : Int64)), .second, .unset, .unset] [(.int ma)])) _
  obtain ⟨v1, hv1⟩ : ∃ z : Int64, z = (if ma = 0 then ((0 : Int64) + pa) else (0 : Int64)) := ⟨_, rfl⟩
  obtain ⟨v2, hv2⟩ : ∃ z : Int64, z = (if ma = 0 then (0 : Int64) else ((0 : Int64) + pa)) := ⟨_, rfl⟩
  obtain ⟨v3, hv3⟩ : ∃ z : Int64, z = (if ma = 0 then ((0 : Int64) + (pa * wa)) else (0 : Int64)) := ⟨_, rfl⟩
  obtain ⟨v4, hv4⟩ : ∃ z : Int64, z = (if ma = 0 then (0 : Int64) else ((0 : Int64) + (pa * wa))) := ⟨_, rfl⟩
  refine Goes.join (S' := T0.setTop (mkF m 135 #[.val (.int p0), .val (.int p1), .val (.int p2), .val (.int p3), .val (.int p4), .val (.int p5), .val (.long pa), .second, .val (.long wa), .second, .val (.int ma), .val (.long pb), .second, .val (.long wb), .second, .val (.int mb), .val (.long pd), .second, .val (.long wd), .second, .val (.int md), .val (.long v1), .second, .val (.long v2), .second, .val (.long v3), .second, .val (.long v4), .second, .unset, .unset] [])) (fun J => ?_) ?_
  · skip
    refine g_if_ne X0 hx (hb hby at_95) (by decide) (pc' := 118) (by decide) (fun c95 => ?_) (fun c95 => ?_)
    · skip
      show Goes p.tables e below (T0.setTop (mkF m 118 #[.val (.int p0), .val (.int p1), .val (.int p2), .val (.int p3), .val (.int p4), .val (.int p5), .val (.long pa), .second, .val (.long wa), .second, .val (.int ma), .val (.long pb), .second, .val (.long wb), .second, .val (.int mb), .val (.long pd), .second, .val (.long wd), .second, .val (.int md), .val (.long (0 : Int64)), .second, .val (.long (0 : Int64)), .second, .val (.long (0 : Int64)), .second, .val (.long (0 : Int64)), .second, .unset, .unset] [])) _
      refine g_lload X0 hx (hb hby at_118) rfl ?_
      refine g_lload X0 hx (hb hby at_120) rfl ?_
      refine g_ladd X0 hx (hb hby at_122) ?_
      refine g_lstore X0 hx (hb hby at_123) (l' := #[.val (.int p0), .val (.int p1), .val (.int p2), .val (.int p3), .val (.int p4), .val (.int p5), .val (.long pa), .second, .val (.long wa), .second, .val (.int ma), .val (.long pb), .second, .val (.long wb), .second, .val (.int mb), .val (.long pd), .second, .val (.long wd), .second, .val (.int md), .val (.long (0 : Int64)), .second, .val (.long ((0 : Int64) + pa)), .second, .val (.long (0 : Int64)), .second, .val (.long (0 : Int64)), .second, .unset, .unset]) rfl ?_
      refine g_lload X0 hx (hb hby at_125) rfl ?_
      refine g_lload X0 hx (hb hby at_127) rfl ?_
      show Goes p.tables e below (T0.setTop (mkF m 129 #[.val (.int p0), .val (.int p1), .val (.int p2), .val (.int p3), .val (.int p4), .val (.int p5), .val (.long pa), .second, .val (.long wa), .second, .val (.int ma), .val (.long pb), .second, .val (.long wb), .second, .val (.int mb), .val (.long pd), .second, .val (.long wd), .second, .val (.int md), .val (.long (0 : Int64)), .second, .val (.long ((0 : Int64) + pa)), .second, .val (.long (0 : Int64)), .second, .val (.long (0 : Int64)), .second, .unset, .unset] [(.long pa), (.long (0 : Int64))])) _
      refine g_lload X0 hx (hb hby at_129) rfl ?_
      refine g_lmul X0 hx (hb hby at_131) ?_
      refine g_ladd X0 hx (hb hby at_132) ?_
      refine g_lstore X0 hx (hb hby at_133) (l' := #[.val (.int p0), .val (.int p1), .val (.int p2), .val (.int p3), .val (.int p4), .val (.int p5), .val (.long pa), .second, .val (.long wa), .second, .val (.int ma), .val (.long pb), .second, .val (.long wb), .second, .val (.int mb), .val (.long pd), .second, .val (.long wd), .second, .val (.int md), .val (.long (0 : Int64)), .second, .val (.long ((0 : Int64) + pa)), .second, .val (.long (0 : Int64)), .second, .val (.long ((0 : Int64) + (pa * wa))), .second, .unset, .unset]) rfl ?_
      rw [show v1 = ((0 : Int64)) from by rw [hv1, if_neg c95]] at J
      rw [show v2 = (((0 : Int64) + pa)) from by rw [hv2, if_neg c95]] at J
      rw [show v3 = ((0 : Int64)) from by rw [hv3, if_neg c95]] at J
      rw [show v4 = (((0 : Int64) + (pa * wa))) from by rw [hv4, if_neg c95]] at J
      exact J
    · skip
      refine g_lload X0 hx (hb hby at_98) rfl ?_
      refine g_lload X0 hx (hb hby at_100) rfl ?_
      show Goes p.tables e below (T0.setTop (mkF m 102 #[.val (.int p0), .val (.int p1), .val (.int p2), .val (.int p3), .val (.int p4), .val (.int p5), .val (.long pa), .second, .val (.long wa), .second, .val (.int ma), .val (.long pb), .second, .val (.long wb), .second, .val (.int mb), .val (.long pd), .second, .val (.long wd), .second, .val (.int md), .val (.long (0 : Int64)), .second, .val (.long (0 : Int64)), .second, .val (.long (0 : Int64)), .second, .val (.long (0 : Int64)), .second, .unset, .unset] [(.long pa), (.long (0 : Int64))])) _
      refine g_ladd X0 hx (hb hby at_102) ?_
      refine g_lstore X0 hx (hb hby at_103) (l' := #[.val (.int p0), .val (.int p1), .val (.int p2), .val (.int p3), .val (.int p4), .val (.int p5), .val (.long pa), .second, .val (.long wa), .second, .val (.int ma), .val (.long pb), .second, .val (.long wb), .second, .val (.int mb), .val (.long pd), .second, .val (.long wd), .second, .val (.int md), .val (.long ((0 : Int64) + pa)), .second, .val (.long (0 : Int64)), .second, .val (.long (0 : Int64)), .second, .val (.long (0 : Int64)), .second, .unset, .unset]) rfl ?_
      refine g_lload X0 hx (hb hby at_105) rfl ?_
      refine g_lload X0 hx (hb hby at_107) rfl ?_
      refine g_lload X0 hx (hb hby at_109) rfl ?_
      refine g_lmul X0 hx (hb hby at_111) ?_
      show Goes p.tables e below (T0.setTop (mkF m 112 #[.val (.int p0), .val (.int p1), .val (.int p2), .val (.int p3), .val (.int p4), .val (.int p5), .val (.long pa), .second, .val (.long wa), .second, .val (.int ma), .val (.long pb), .second, .val (.long wb), .second, .val (.int mb), .val (.long pd), .second, .val (.long wd), .second, .val (.int md), .val (.long ((0 : Int64) + pa)), .second, .val (.long (0 : Int64)), .second, .val (.long (0 : Int64)), .second, .val (.long (0 : Int64)), .second, .unset, .unset] [(.long (pa * wa)), (.long (0 : Int64))])) _
      refine g_ladd X0 hx (hb hby at_112) ?_
      refine g_lstore X0 hx (hb hby at_113) (l' := #[.val (.int p0), .val (.int p1), .val (.int p2), .val (.int p3), .val (.int p4), .val (.int p5), .val (.long pa), .second, .val (.long wa), .second, .val (.int ma), .val (.long pb), .second, .val (.long wb), .second, .val (.int mb), .val (.long pd), .second, .val (.long wd), .second, .val (.int md), .val (.long ((0 : Int64) + pa)), .second, .val (.long (0 : Int64)), .second, .val (.long ((0 : Int64) + (pa * wa))), .second, .val (.long (0 : Int64)), .second, .unset, .unset]) rfl ?_
      refine g_goto X0 hx (hb hby at_115) (by decide) (pc' := 135) (by decide) ?_
      rw [show v1 = (((0 : Int64) + pa)) from by rw [hv1, if_pos c95]] at J
      rw [show v2 = ((0 : Int64)) from by rw [hv2, if_pos c95]] at J
      rw [show v3 = (((0 : Int64) + (pa * wa))) from by rw [hv3, if_pos c95]] at J
      rw [show v4 = ((0 : Int64)) from by rw [hv4, if_pos c95]] at J
      exact J
  have b_v1 : Bn 70368744177664 v1 := by rw [hv1]; exact Bn.ite (((b00).add b_pa (by decide) (by decide)).mono (by decide)) ((b00).mono (by decide))
  have b_v2 : Bn 70368744177664 v2 := by rw [hv2]; exact Bn.ite ((b00).mono (by decide)) (((b00).add b_pa (by decide) (by decide)).mono (by decide))
  have b_v3 : Bn 70368744177664 v3 := by rw [hv3]; exact Bn.ite (((b00).add (Bn.mul b_pa b_wa) (by decide) (by decide)).mono (by decide)) ((b00).mono (by decide))
  have b_v4 : Bn 70368744177664 v4 := by rw [hv4]; exact Bn.ite ((b00).mono (by decide)) (((b00).add (Bn.mul b_pa b_wa) (by decide) (by decide)).mono (by decide))
  refine g_iload X0 hx (hb hby at_135) rfl ?_
  obtain ⟨v5, hv5⟩ : ∃ z : Int64, z = (if mb = 0 then (v1 + pb) else v1) := ⟨_, rfl⟩
  obtain ⟨v6, hv6⟩ : ∃ z : Int64, z = (if mb = 0 then v2 else (v2 + pb)) := ⟨_, rfl⟩
  obtain ⟨v7, hv7⟩ : ∃ z : Int64, z = (if mb = 0 then (v3 + (pb * wb)) else v3) := ⟨_, rfl⟩
  obtain ⟨v8, hv8⟩ : ∃ z : Int64, z = (if mb = 0 then v4 else (v4 + (pb * wb))) := ⟨_, rfl⟩
  refine Goes.join (S' := T0.setTop (mkF m 177 #[.val (.int p0), .val (.int p1), .val (.int p2), .val (.int p3), .val (.int p4), .val (.int p5), .val (.long pa), .second, .val (.long wa), .second, .val (.int ma), .val (.long pb), .second, .val (.long wb), .second, .val (.int mb), .val (.long pd), .second, .val (.long wd), .second, .val (.int md), .val (.long v5), .second, .val (.long v6), .second, .val (.long v7), .second, .val (.long v8), .second, .unset, .unset] [])) (fun J => ?_) ?_
  · skip
    refine g_if_ne X0 hx (hb hby at_137) (by decide) (pc' := 160) (by decide) (fun c137 => ?_) (fun c137 => ?_)
    · skip
      show Goes p.tables e below (T0.setTop (mkF m 160 #[.val (.int p0), .val (.int p1), .val (.int p2), .val (.int p3), .val (.int p4), .val (.int p5), .val (.long pa), .second, .val (.long wa), .second, .val (.int ma), .val (.long pb), .second, .val (.long wb), .second, .val (.int mb), .val (.long pd), .second, .val (.long wd), .second, .val (.int md), .val (.long v1), .second, .val (.long v2), .second, .val (.long v3), .second, .val (.long v4), .second, .unset, .unset] [])) _
      refine g_lload X0 hx (hb hby at_160) rfl ?_
      refine g_lload X0 hx (hb hby at_162) rfl ?_
      refine g_ladd X0 hx (hb hby at_164) ?_
      refine g_lstore X0 hx (hb hby at_165) (l' := #[.val (.int p0), .val (.int p1), .val (.int p2), .val (.int p3), .val (.int p4), .val (.int p5), .val (.long pa), .second, .val (.long wa), .second, .val (.int ma), .val (.long pb), .second, .val (.long wb), .second, .val (.int mb), .val (.long pd), .second, .val (.long wd), .second, .val (.int md), .val (.long v1), .second, .val (.long (v2 + pb)), .second, .val (.long v3), .second, .val (.long v4), .second, .unset, .unset]) rfl ?_
      refine g_lload X0 hx (hb hby at_167) rfl ?_
      refine g_lload X0 hx (hb hby at_169) rfl ?_
      show Goes p.tables e below (T0.setTop (mkF m 171 #[.val (.int p0), .val (.int p1), .val (.int p2), .val (.int p3), .val (.int p4), .val (.int p5), .val (.long pa), .second, .val (.long wa), .second, .val (.int ma), .val (.long pb), .second, .val (.long wb), .second, .val (.int mb), .val (.long pd), .second, .val (.long wd), .second, .val (.int md), .val (.long v1), .second, .val (.long (v2 + pb)), .second, .val (.long v3), .second, .val (.long v4), .second, .unset, .unset] [(.long pb), (.long v4)])) _
      refine g_lload X0 hx (hb hby at_171) rfl ?_
      refine g_lmul X0 hx (hb hby at_173) ?_
      refine g_ladd X0 hx (hb hby at_174) ?_
      refine g_lstore X0 hx (hb hby at_175) (l' := #[.val (.int p0), .val (.int p1), .val (.int p2), .val (.int p3), .val (.int p4), .val (.int p5), .val (.long pa), .second, .val (.long wa), .second, .val (.int ma), .val (.long pb), .second, .val (.long wb), .second, .val (.int mb), .val (.long pd), .second, .val (.long wd), .second, .val (.int md), .val (.long v1), .second, .val (.long (v2 + pb)), .second, .val (.long v3), .second, .val (.long (v4 + (pb * wb))), .second, .unset, .unset]) rfl ?_
      rw [show v5 = (v1) from by rw [hv5, if_neg c137]] at J
      rw [show v6 = ((v2 + pb)) from by rw [hv6, if_neg c137]] at J
      rw [show v7 = (v3) from by rw [hv7, if_neg c137]] at J
      rw [show v8 = ((v4 + (pb * wb))) from by rw [hv8, if_neg c137]] at J
      exact J
    · skip
      refine g_lload X0 hx (hb hby at_140) rfl ?_
      refine g_lload X0 hx (hb hby at_142) rfl ?_
      show Goes p.tables e below (T0.setTop (mkF m 144 #[.val (.int p0), .val (.int p1), .val (.int p2), .val (.int p3), .val (.int p4), .val (.int p5), .val (.long pa), .second, .val (.long wa), .second, .val (.int ma), .val (.long pb), .second, .val (.long wb), .second, .val (.int mb), .val (.long pd), .second, .val (.long wd), .second, .val (.int md), .val (.long v1), .second, .val (.long v2), .second, .val (.long v3), .second, .val (.long v4), .second, .unset, .unset] [(.long pb), (.long v1)])) _
      refine g_ladd X0 hx (hb hby at_144) ?_
      refine g_lstore X0 hx (hb hby at_145) (l' := #[.val (.int p0), .val (.int p1), .val (.int p2), .val (.int p3), .val (.int p4), .val (.int p5), .val (.long pa), .second, .val (.long wa), .second, .val (.int ma), .val (.long pb), .second, .val (.long wb), .second, .val (.int mb), .val (.long pd), .second, .val (.long wd), .second, .val (.int md), .val (.long (v1 + pb)), .second, .val (.long v2), .second, .val (.long v3), .second, .val (.long v4), .second, .unset, .unset]) rfl ?_
      refine g_lload X0 hx (hb hby at_147) rfl ?_
      refine g_lload X0 hx (hb hby at_149) rfl ?_
      refine g_lload X0 hx (hb hby at_151) rfl ?_
      refine g_lmul X0 hx (hb hby at_153) ?_
      show Goes p.tables e below (T0.setTop (mkF m 154 #[.val (.int p0), .val (.int p1), .val (.int p2), .val (.int p3), .val (.int p4), .val (.int p5), .val (.long pa), .second, .val (.long wa), .second, .val (.int ma), .val (.long pb), .second, .val (.long wb), .second, .val (.int mb), .val (.long pd), .second, .val (.long wd), .second, .val (.int md), .val (.long (v1 + pb)), .second, .val (.long v2), .second, .val (.long v3), .second, .val (.long v4), .second, .unset, .unset] [(.long (pb * wb)), (.long v3)])) _
      refine g_ladd X0 hx (hb hby at_154) ?_
      refine g_lstore X0 hx (hb hby at_155) (l' := #[.val (.int p0), .val (.int p1), .val (.int p2), .val (.int p3), .val (.int p4), .val (.int p5), .val (.long pa), .second, .val (.long wa), .second, .val (.int ma), .val (.long pb), .second, .val (.long wb), .second, .val (.int mb), .val (.long pd), .second, .val (.long wd), .second, .val (.int md), .val (.long (v1 + pb)), .second, .val (.long v2), .second, .val (.long (v3 + (pb * wb))), .second, .val (.long v4), .second, .unset, .unset]) rfl ?_
      refine g_goto X0 hx (hb hby at_157) (by decide) (pc' := 177) (by decide) ?_
      rw [show v5 = ((v1 + pb)) from by rw [hv5, if_pos c137]] at J
      rw [show v6 = (v2) from by rw [hv6, if_pos c137]] at J
      rw [show v7 = ((v3 + (pb * wb))) from by rw [hv7, if_pos c137]] at J
      rw [show v8 = (v4) from by rw [hv8, if_pos c137]] at J
      exact J
  have b_v5 : Bn 140737488355328 v5 := by rw [hv5]; exact Bn.ite (((b_v1).add b_pb (by decide) (by decide)).mono (by decide)) ((b_v1).mono (by decide))
  have b_v6 : Bn 140737488355328 v6 := by rw [hv6]; exact Bn.ite ((b_v2).mono (by decide)) (((b_v2).add b_pb (by decide) (by decide)).mono (by decide))
  have b_v7 : Bn 140737488355328 v7 := by rw [hv7]; exact Bn.ite (((b_v3).add (Bn.mul b_pb b_wb) (by decide) (by decide)).mono (by decide)) ((b_v3).mono (by decide))
  have b_v8 : Bn 140737488355328 v8 := by rw [hv8]; exact Bn.ite ((b_v4).mono (by decide)) (((b_v4).add (Bn.mul b_pb b_wb) (by decide) (by decide)).mono (by decide))
  refine g_iload X0 hx (hb hby at_177) rfl ?_
  obtain ⟨v9, hv9⟩ : ∃ z : Int64, z = (if md = 0 then (v5 + pd) else v5) := ⟨_, rfl⟩
  obtain ⟨v10, hv10⟩ : ∃ z : Int64, z = (if md = 0 then v6 else (v6 + pd)) := ⟨_, rfl⟩
  obtain ⟨v11, hv11⟩ : ∃ z : Int64, z = (if md = 0 then (v7 + (pd * wd)) else v7) := ⟨_, rfl⟩
  obtain ⟨v12, hv12⟩ : ∃ z : Int64, z = (if md = 0 then v8 else (v8 + (pd * wd))) := ⟨_, rfl⟩
  refine Goes.join (S' := T0.setTop (mkF m 219 #[.val (.int p0), .val (.int p1), .val (.int p2), .val (.int p3), .val (.int p4), .val (.int p5), .val (.long pa), .second, .val (.long wa), .second, .val (.int ma), .val (.long pb), .second, .val (.long wb), .second, .val (.int mb), .val (.long pd), .second, .val (.long wd), .second, .val (.int md), .val (.long v9), .second, .val (.long v10), .second, .val (.long v11), .second, .val (.long v12), .second, .unset, .unset] [])) (fun J => ?_) ?_
  · skip
    refine g_if_ne X0 hx (hb hby at_179) (by decide) (pc' := 202) (by decide) (fun c179 => ?_) (fun c179 => ?_)
    · skip
      show Goes p.tables e below (T0.setTop (mkF m 202 #[.val (.int p0), .val (.int p1), .val (.int p2), .val (.int p3), .val (.int p4), .val (.int p5), .val (.long pa), .second, .val (.long wa), .second, .val (.int ma), .val (.long pb), .second, .val (.long wb), .second, .val (.int mb), .val (.long pd), .second, .val (.long wd), .second, .val (.int md), .val (.long v5), .second, .val (.long v6), .second, .val (.long v7), .second, .val (.long v8), .second, .unset, .unset] [])) _
      refine g_lload X0 hx (hb hby at_202) rfl ?_
      refine g_lload X0 hx (hb hby at_204) rfl ?_
      refine g_ladd X0 hx (hb hby at_206) ?_
      refine g_lstore X0 hx (hb hby at_207) (l' := #[.val (.int p0), .val (.int p1), .val (.int p2), .val (.int p3), .val (.int p4), .val (.int p5), .val (.long pa), .second, .val (.long wa), .second, .val (.int ma), .val (.long pb), .second, .val (.long wb), .second, .val (.int mb), .val (.long pd), .second, .val (.long wd), .second, .val (.int md), .val (.long v5), .second, .val (.long (v6 + pd)), .second, .val (.long v7), .second, .val (.long v8), .second, .unset, .unset]) rfl ?_
      refine g_lload X0 hx (hb hby at_209) rfl ?_
      refine g_lload X0 hx (hb hby at_211) rfl ?_
      show Goes p.tables e below (T0.setTop (mkF m 213 #[.val (.int p0), .val (.int p1), .val (.int p2), .val (.int p3), .val (.int p4), .val (.int p5), .val (.long pa), .second, .val (.long wa), .second, .val (.int ma), .val (.long pb), .second, .val (.long wb), .second, .val (.int mb), .val (.long pd), .second, .val (.long wd), .second, .val (.int md), .val (.long v5), .second, .val (.long (v6 + pd)), .second, .val (.long v7), .second, .val (.long v8), .second, .unset, .unset] [(.long pd), (.long v8)])) _
      refine g_lload X0 hx (hb hby at_213) rfl ?_
      refine g_lmul X0 hx (hb hby at_215) ?_
      refine g_ladd X0 hx (hb hby at_216) ?_
      refine g_lstore X0 hx (hb hby at_217) (l' := #[.val (.int p0), .val (.int p1), .val (.int p2), .val (.int p3), .val (.int p4), .val (.int p5), .val (.long pa), .second, .val (.long wa), .second, .val (.int ma), .val (.long pb), .second, .val (.long wb), .second, .val (.int mb), .val (.long pd), .second, .val (.long wd), .second, .val (.int md), .val (.long v5), .second, .val (.long (v6 + pd)), .second, .val (.long v7), .second, .val (.long (v8 + (pd * wd))), .second, .unset, .unset]) rfl ?_
      rw [show v9 = (v5) from by rw [hv9, if_neg c179]] at J
      rw [show v10 = ((v6 + pd)) from by rw [hv10, if_neg c179]] at J
      rw [show v11 = (v7) from by rw [hv11, if_neg c179]] at J
      rw [show v12 = ((v8 + (pd * wd))) from by rw [hv12, if_neg c179]] at J
      exact J
    · skip
      refine g_lload X0 hx (hb hby at_182) rfl ?_
      refine g_lload X0 hx (hb hby at_184) rfl ?_
      show Goes p.tables e below (T0.setTop (mkF m 186 #[.val (.int p0), .val (.int p1), .val (.int p2), .val (.int p3), .val (.int p4), .val (.int p5), .val (.long pa), .second, .val (.long wa), .second, .val (.int ma), .val (.long pb), .second, .val (.long wb), .second, .val (.int mb), .val (.long pd), .second, .val (.long wd), .second, .val (.int md), .val (.long v5), .second, .val (.long v6), .second, .val (.long v7), .second, .val (.long v8), .second, .unset, .unset] [(.long pd), (.long v5)])) _
      refine g_ladd X0 hx (hb hby at_186) ?_
      refine g_lstore X0 hx (hb hby at_187) (l' := #[.val (.int p0), .val (.int p1), .val (.int p2), .val (.int p3), .val (.int p4), .val (.int p5), .val (.long pa), .second, .val (.long wa), .second, .val (.int ma), .val (.long pb), .second, .val (.long wb), .second, .val (.int mb), .val (.long pd), .second, .val (.long wd), .second, .val (.int md), .val (.long (v5 + pd)), .second, .val (.long v6), .second, .val (.long v7), .second, .val (.long v8), .second, .unset, .unset]) rfl ?_
      refine g_lload X0 hx (hb hby at_189) rfl ?_
      refine g_lload X0 hx (hb hby at_191) rfl ?_
      refine g_lload X0 hx (hb hby at_193) rfl ?_
      refine g_lmul X0 hx (hb hby at_195) ?_
      show Goes p.tables e below (T0.setTop (mkF m 196 #[.val (.int p0), .val (.int p1), .val (.int p2), .val (.int p3), .val (.int p4), .val (.int p5), .val (.long pa), .second, .val (.long wa), .second, .val (.int ma), .val (.long pb), .second, .val (.long wb), .second, .val (.int mb), .val (.long pd), .second, .val (.long wd), .second, .val (.int md), .val (.long (v5 + pd)), .second, .val (.long v6), .second, .val (.long v7), .second, .val (.long v8), .second, .unset, .unset] [(.long (pd * wd)), (.long v7)])) _
      refine g_ladd X0 hx (hb hby at_196) ?_
      refine g_lstore X0 hx (hb hby at_197) (l' := #[.val (.int p0), .val (.int p1), .val (.int p2), .val (.int p3), .val (.int p4), .val (.int p5), .val (.long pa), .second, .val (.long wa), .second, .val (.int ma), .val (.long pb), .second, .val (.long wb), .second, .val (.int mb), .val (.long pd), .second, .val (.long wd), .second, .val (.int md), .val (.long (v5 + pd)), .second, .val (.long v6), .second, .val (.long (v7 + (pd * wd))), .second, .val (.long v8), .second, .unset, .unset]) rfl ?_
      refine g_goto X0 hx (hb hby at_199) (by decide) (pc' := 219) (by decide) ?_
      rw [show v9 = ((v5 + pd)) from by rw [hv9, if_pos c179]] at J
      rw [show v10 = (v6) from by rw [hv10, if_pos c179]] at J
      rw [show v11 = ((v7 + (pd * wd))) from by rw [hv11, if_pos c179]] at J
      rw [show v12 = (v8) from by rw [hv12, if_pos c179]] at J
      exact J
  have b_v9 : Bn 211106232532992 v9 := by rw [hv9]; exact Bn.ite (((b_v5).add b_pd (by decide) (by decide)).mono (by decide)) ((b_v5).mono (by decide))
  have b_v10 : Bn 211106232532992 v10 := by rw [hv10]; exact Bn.ite ((b_v6).mono (by decide)) (((b_v6).add b_pd (by decide) (by decide)).mono (by decide))
  have b_v11 : Bn 211106232532992 v11 := by rw [hv11]; exact Bn.ite (((b_v7).add (Bn.mul b_pd b_wd) (by decide) (by decide)).mono (by decide)) ((b_v7).mono (by decide))
  have b_v12 : Bn 211106232532992 v12 := by rw [hv12]; exact Bn.ite ((b_v8).mono (by decide)) (((b_v8).add (Bn.mul b_pd b_wd) (by decide) (by decide)).mono (by decide))
  refine g_new X0 hx hZ hown e0 (hw _ (List.mem_of_getElem? (i := 0) rfl)) (hw _ (List.mem_of_getElem? (i := 1) rfl)) (hw _ (List.mem_of_getElem? (i := 2) rfl)) (hb hby at_219) (by decide) (by decide) (fun T13 h13 a13 ga13 X13 e13 Ex13 Ea13 Df13 => ?_)
  have ge14 : h0.size ≤ a13 := by rw [ga13]; exact Z0
  have ge15 : h0.size ≤ a13 := by rw [ga13]; exact K0.1
  have Z16 : h0.size ≤ h13.size := Nat.le_trans Z0 Ex13.1
  have K17 : Keep h0 h13 [] := Keep.ext K0 Ex13
  have fx18 : Fld Z h13 a13 "com/example/hold/hold/check/ComponentSolver" "size" "I" (.int (0 : Int32)) := Df13 (Or.inr (hw _ (List.mem_of_getElem? (i := 10) rfl))) (ty := .int) (by decide)
  have fx19 : Fld Z h13 a13 "com/example/hold/hold/check/ComponentSolver" "columns" "[[I" .null := Df13 (Or.inr (hw _ (List.mem_of_getElem? (i := 14) rfl))) (ty := (.array (.array .int))) (by decide)
  have fx20 : Fld Z h13 a13 "com/example/hold/hold/check/ComponentSolver" "values" "[[D" .null := Df13 (Or.inr (hw _ (List.mem_of_getElem? (i := 18) rfl))) (ty := (.array (.array .double))) (by decide)
  have fx21 : Fld Z h13 a13 "com/example/hold/hold/check/ComponentSolver" "length" "[I" .null := Df13 (Or.inr (hw _ (List.mem_of_getElem? (i := 21) rfl))) (ty := (.array .int)) (by decide)
  have fx22 : Fld Z h13 a13 "com/example/hold/hold/check/ComponentSolver" "leaving" "[D" .null := Df13 (Or.inr (hw _ (List.mem_of_getElem? (i := 24) rfl))) (ty := (.array .double)) (by decide)
  have fx23 : Fld Z h13 a13 "com/example/hold/hold/check/ComponentSolver" "exits" "[D" .null := Df13 (Or.inr (hw _ (List.mem_of_getElem? (i := 26) rfl))) (ty := (.array .double)) (by decide)
  have fx24 : Fld Z h13 a13 "com/example/hold/hold/check/ComponentSolver" "surplus" "[D" .null := Df13 (Or.inr (hw _ (List.mem_of_getElem? (i := 28) rfl))) (ty := (.array .double)) (by decide)
  have fx25 : Fld Z h13 a13 "com/example/hold/hold/check/ComponentSolver" "rowsUsing" "[[I" .null := Df13 (Or.inr (hw _ (List.mem_of_getElem? (i := 30) rfl))) (ty := (.array (.array .int))) (by decide)
  have fx26 : Fld Z h13 a13 "com/example/hold/hold/check/ComponentSolver" "rowsUsingCount" "[I" .null := Df13 (Or.inr (hw _ (List.mem_of_getElem? (i := 32) rfl))) (ty := (.array .int)) (by decide)
  have fx27 : Fld Z h13 a13 "com/example/hold/hold/check/ComponentSolver" "columnCount" "[I" .null := Df13 (Or.inr (hw _ (List.mem_of_getElem? (i := 34) rfl))) (ty := (.array .int)) (by decide)
  show Goes p.tables e below (T13.setTop (mkF m 222 #[.val (.int p0), .val (.int p1), .val (.int p2), .val (.int p3), .val (.int p4), .val (.int p5), .val (.long pa), .second, .val (.long wa), .second, .val (.int ma), .val (.long pb), .second, .val (.long wb), .second, .val (.int mb), .val (.long pd), .second, .val (.long wd), .second, .val (.int md), .val (.long v9), .second, .val (.long v10), .second, .val (.long v11), .second, .val (.long v12), .second, .unset, .unset] [(.ref a13)])) _
  refine g_dup X13 hx (hb hby at_222) rfl ?_
  refine g_iconst X13 hx (2 : Int32) (hb hby at_223) rfl ?_
  refine g_callI X13 hx hZ hown (by rw [hml]; rfl) e13 rfl (hw _ (List.mem_of_getElem? (i := 3) rfl)) (hw _ (List.mem_of_getElem? (i := 4) rfl)) (hw _ (List.mem_of_getElem? (i := 2) rfl)) (hw _ (List.mem_of_getElem? (i := 5) rfl)) (rmInit l Z a0 hw a13 h13 h0.size Z16 fx18 fx19 fx20 fx21 fx22 fx23 fx24 fx25 fx26 fx27 Ea13 ge14) a13 [(.int (2 : Int32))] rfl [(.ref a13)] rfl (lenOf pd_1 rfl) (hb hby at_224) (by decide) 1 (by decide) (by decide) (by first | decide | exact Nat.le_refl _) (by decide) (by decide) (fun v T28 L28 X28 hQ28 => ?_)
  obtain ⟨rfl, Nc, Kc, ca, va, la, lv, ex, su, rc, cc, hC, hS0⟩ := hQ28
  have K29 : Keep h0 T28.heap [] := K17.trans Kc (allS (Or.inr ge15) all0)
  have fx30 : Exa Z T28.heap a13 "com/example/hold/hold/check/ComponentSolver" := Exa.keep Ea13 Kc
  have N31 := Fr.app N0 Nc
  have Z32 : h0.size ≤ T28.heap.size := Nat.le_trans Z16 Kc.1
  have hC2 := hC
  obtain ⟨g0, g1, g2, g3, g4, g5, g6, g7, g8⟩ := hC2
  have ge_ca : h0.size ≤ ca := by omega
  have ge_va : h0.size ≤ va := by omega
  have ge_la : h0.size ≤ la := by omega
  have ge_lv : h0.size ≤ lv := by omega
  have ge_ex : h0.size ≤ ex := by omega
  have ge_su : h0.size ≤ su := by omega
  have ge_rc : h0.size ≤ rc := by omega
  have ge_cc : h0.size ≤ cc := by omega
  show Goes p.tables e below (T28.setTop (mkF m 227 #[.val (.int p0), .val (.int p1), .val (.int p2), .val (.int p3), .val (.int p4), .val (.int p5), .val (.long pa), .second, .val (.long wa), .second, .val (.int ma), .val (.long pb), .second, .val (.long wb), .second, .val (.int mb), .val (.long pd), .second, .val (.long wd), .second, .val (.int md), .val (.long v9), .second, .val (.long v10), .second, .val (.long v11), .second, .val (.long v12), .second, .unset, .unset] [(.ref a13)])) _
  refine g_astore X28 hx (hb hby at_227) rfl (l' := #[.val (.int p0), .val (.int p1), .val (.int p2), .val (.int p3), .val (.int p4), .val (.int p5), .val (.long pa), .second, .val (.long wa), .second, .val (.int ma), .val (.long pb), .second, .val (.long wb), .second, .val (.int mb), .val (.long pd), .second, .val (.long wd), .second, .val (.int md), .val (.long v9), .second, .val (.long v10), .second, .val (.long v11), .second, .val (.long v12), .second, .val (.ref a13), .unset]) rfl ?_
  refine g_aload X28 hx (hb hby at_229) rfl rfl ?_
  refine g_iload X28 hx (hb hby at_231) rfl ?_
  refine g_lload X28 hx (hb hby at_233) rfl ?_
  refine g_l2d X28 hx (hb hby at_235) ?_
  show Goes p.tables e below (T28.setTop (mkF m 236 #[.val (.int p0), .val (.int p1), .val (.int p2), .val (.int p3), .val (.int p4), .val (.int p5), .val (.long pa), .second, .val (.long wa), .second, .val (.int ma), .val (.long pb), .second, .val (.long wb), .second, .val (.int mb), .val (.long pd), .second, .val (.long wd), .second, .val (.int md), .val (.long v9), .second, .val (.long v10), .second, .val (.long v11), .second, .val (.long v12), .second, .val (.ref a13), .unset] [(.double (FP.l2d pa)), (.int ma), (.ref a13)])) _
  refine g_lload X28 hx (hb hby at_236) rfl ?_
  refine g_l2d X28 hx (hb hby at_238) ?_
  show Goes p.tables e below (T28.setTop (mkF m 239 #[.val (.int p0), .val (.int p1), .val (.int p2), .val (.int p3), .val (.int p4), .val (.int p5), .val (.long pa), .second, .val (.long wa), .second, .val (.int ma), .val (.long pb), .second, .val (.long wb), .second, .val (.int mb), .val (.long pd), .second, .val (.long wd), .second, .val (.int md), .val (.long v9), .second, .val (.long v10), .second, .val (.long v11), .second, .val (.long v12), .second, .val (.ref a13), .unset] [(.double (FP.l2d wa)), (.double (FP.l2d pa)), (.int ma), (.ref a13)])) _
  refine g_callV X28 hx hZ hown (by rw [hml]; rfl) rfl (K := "com/example/hold/hold/check/ComponentSolver") (hw _ (List.mem_of_getElem? (i := 37) rfl)) (hw _ (List.mem_of_getElem? (i := 38) rfl)) (hw _ (List.mem_of_getElem? (i := 40) rfl)) (hw _ (List.mem_of_getElem? (i := 39) rfl)) (hw _ (List.mem_of_getElem? (i := 2) rfl)) (hw _ (List.mem_of_getElem? (i := 41) rfl)) fx30 (rmAE l Z a0 hw a13 ma (FP.l2d pa) (FP.l2d wa) T28.heap h0.size Z32 ca va la lv ex su rc cc (0 : Int64) (0 : Int64) (0 : Int64) (0 : Int64) pa wa v1 v2 v3 v4 [(.double (FP.l2d 0)), (.double (FP.l2d 0))] 0 (by decide) b00 b00 b00 b00 b_pa b_wa rfl rfl h01a hv1 hv2 hv3 hv4 hS0 hC) [(.int ma), (.double (FP.l2d pa)), (.double (FP.l2d wa))] rfl [] rfl (lenOf pd_3 rfl) (hb hby at_239) (by decide) 0 (by decide) (by decide) (by first | decide | exact Nat.le_refl _) (by decide) (by decide) (fun v T33 L33 X33 hQ33 => ?_)
  obtain ⟨rfl, Na0, Ka0, hA0⟩ := hQ33
  have K34 : Keep h0 T33.heap [] := K29.trans Ka0 (allS (Or.inr ge_lv) (allS (Or.inr ge_ex) all0))
  have fx35 : Exa Z T33.heap a13 "com/example/hold/hold/check/ComponentSolver" := Exa.keep fx30 Ka0
  have N36 := Fr.app N31 Na0
  have Z37 : h0.size ≤ T33.heap.size := Nat.le_trans Z32 Ka0.1
  show Goes p.tables e below (T33.setTop (mkF m 242 #[.val (.int p0), .val (.int p1), .val (.int p2), .val (.int p3), .val (.int p4), .val (.int p5), .val (.long pa), .second, .val (.long wa), .second, .val (.int ma), .val (.long pb), .second, .val (.long wb), .second, .val (.int mb), .val (.long pd), .second, .val (.long wd), .second, .val (.int md), .val (.long v9), .second, .val (.long v10), .second, .val (.long v11), .second, .val (.long v12), .second, .val (.ref a13), .unset] [])) _
  refine g_aload X33 hx (hb hby at_242) rfl rfl ?_
  refine g_iload X33 hx (hb hby at_244) rfl ?_
  refine g_lload X33 hx (hb hby at_246) rfl ?_
  refine g_l2d X33 hx (hb hby at_248) ?_
  show Goes p.tables e below (T33.setTop (mkF m 249 #[.val (.int p0), .val (.int p1), .val (.int p2), .val (.int p3), .val (.int p4), .val (.int p5), .val (.long pa), .second, .val (.long wa), .second, .val (.int ma), .val (.long pb), .second, .val (.long wb), .second, .val (.int mb), .val (.long pd), .second, .val (.long wd), .second, .val (.int md), .val (.long v9), .second, .val (.long v10), .second, .val (.long v11), .second, .val (.long v12), .second, .val (.ref a13), .unset] [(.double (FP.l2d pb)), (.int mb), (.ref a13)])) _
  refine g_lload X33 hx (hb hby at_249) rfl ?_
  refine g_l2d X33 hx (hb hby at_251) ?_
  show Goes p.tables e below (T33.setTop (mkF m 252 #[.val (.int p0), .val (.int p1), .val (.int p2), .val (.int p3), .val (.int p4), .val (.int p5), .val (.long pa), .second, .val (.long wa), .second, .val (.int ma), .val (.long pb), .second, .val (.long wb), .second, .val (.int mb), .val (.long pd), .second, .val (.long wd), .second, .val (.int md), .val (.long v9), .second, .val (.long v10), .second, .val (.long v11), .second, .val (.long v12), .second, .val (.ref a13), .unset] [(.double (FP.l2d wb)), (.double (FP.l2d pb)), (.int mb), (.ref a13)])) _
  refine g_callV X33 hx hZ hown (by rw [hml]; rfl) rfl (K := "com/example/hold/hold/check/ComponentSolver") (hw _ (List.mem_of_getElem? (i := 37) rfl)) (hw _ (List.mem_of_getElem? (i := 38) rfl)) (hw _ (List.mem_of_getElem? (i := 40) rfl)) (hw _ (List.mem_of_getElem? (i := 39) rfl)) (hw _ (List.mem_of_getElem? (i := 2) rfl)) (hw _ (List.mem_of_getElem? (i := 41) rfl)) fx35 (rmAE l Z a0 hw a13 mb (FP.l2d pb) (FP.l2d wb) T33.heap h0.size Z37 ca va la lv ex su rc cc v1 v2 v3 v4 pb wb v5 v6 v7 v8 [(.double (FP.l2d 0)), (.double (FP.l2d 0))] 70368744177664 (by decide) b_v1 b_v2 b_v3 b_v4 b_pb b_wb rfl rfl h01b hv5 hv6 hv7 hv8 hA0 hC) [(.int mb), (.double (FP.l2d pb)), (.double (FP.l2d wb))] rfl [] rfl (lenOf pd_3 rfl) (hb hby at_252) (by decide) 0 (by decide) (by decide) (by first | decide | exact Nat.le_refl _) (by decide) (by decide) (fun v T38 L38 X38 hQ38 => ?_)
  obtain ⟨rfl, Na1, Ka1, hA1⟩ := hQ38
  have K39 : Keep h0 T38.heap [] := K34.trans Ka1 (allS (Or.inr ge_lv) (allS (Or.inr ge_ex) all0))
  have fx40 : Exa Z T38.heap a13 "com/example/hold/hold/check/ComponentSolver" := Exa.keep fx35 Ka1
  have N41 := Fr.app N36 Na1
  have Z42 : h0.size ≤ T38.heap.size := Nat.le_trans Z37 Ka1.1
  show Goes p.tables e below (T38.setTop (mkF m 255 #[.val (.int p0), .val (.int p1), .val (.int p2), .val (.int p3), .val (.int p4), .val (.int p5), .val (.long pa), .second, .val (.long wa), .second, .val (.int ma), .val (.long pb), .second, .val (.long wb), .second, .val (.int mb), .val (.long pd), .second, .val (.long wd), .second, .val (.int md), .val (.long v9), .second, .val (.long v10), .second, .val (.long v11), .second, .val (.long v12), .second, .val (.ref a13), .unset] [])) _
  refine g_aload X38 hx (hb hby at_255) rfl rfl ?_
  refine g_iload X38 hx (hb hby at_257) rfl ?_
  refine g_lload X38 hx (hb hby at_259) rfl ?_
  refine g_l2d X38 hx (hb hby at_261) ?_
  show Goes p.tables e below (T38.setTop (mkF m 262 #[.val (.int p0), .val (.int p1), .val (.int p2), .val (.int p3), .val (.int p4), .val (.int p5), .val (.long pa), .second, .val (.long wa), .second, .val (.int ma), .val (.long pb), .second, .val (.long wb), .second, .val (.int mb), .val (.long pd), .second, .val (.long wd), .second, .val (.int md), .val (.long v9), .second, .val (.long v10), .second, .val (.long v11), .second, .val (.long v12), .second, .val (.ref a13), .unset] [(.double (FP.l2d pd)), (.int md), (.ref a13)])) _
  refine g_lload X38 hx (hb hby at_262) rfl ?_
  refine g_l2d X38 hx (hb hby at_264) ?_
  show Goes p.tables e below (T38.setTop (mkF m 265 #[.val (.int p0), .val (.int p1), .val (.int p2), .val (.int p3), .val (.int p4), .val (.int p5), .val (.long pa), .second, .val (.long wa), .second, .val (.int ma), .val (.long pb), .second, .val (.long wb), .second, .val (.int mb), .val (.long pd), .second, .val (.long wd), .second, .val (.int md), .val (.long v9), .second, .val (.long v10), .second, .val (.long v11), .second, .val (.long v12), .second, .val (.ref a13), .unset] [(.double (FP.l2d wd)), (.double (FP.l2d pd)), (.int md), (.ref a13)])) _
  refine g_callV X38 hx hZ hown (by rw [hml]; rfl) rfl (K := "com/example/hold/hold/check/ComponentSolver") (hw _ (List.mem_of_getElem? (i := 37) rfl)) (hw _ (List.mem_of_getElem? (i := 38) rfl)) (hw _ (List.mem_of_getElem? (i := 40) rfl)) (hw _ (List.mem_of_getElem? (i := 39) rfl)) (hw _ (List.mem_of_getElem? (i := 2) rfl)) (hw _ (List.mem_of_getElem? (i := 41) rfl)) fx40 (rmAE l Z a0 hw a13 md (FP.l2d pd) (FP.l2d wd) T38.heap h0.size Z42 ca va la lv ex su rc cc v5 v6 v7 v8 pd wd v9 v10 v11 v12 [(.double (FP.l2d 0)), (.double (FP.l2d 0))] 140737488355328 (by decide) b_v5 b_v6 b_v7 b_v8 b_pd b_wd rfl rfl h01d hv9 hv10 hv11 hv12 hA1 hC) [(.int md), (.double (FP.l2d pd)), (.double (FP.l2d wd))] rfl [] rfl (lenOf pd_3 rfl) (hb hby at_265) (by decide) 0 (by decide) (by decide) (by first | decide | exact Nat.le_refl _) (by decide) (by decide) (fun v T43 L43 X43 hQ43 => ?_)
  obtain ⟨rfl, Na2, Ka2, hA2⟩ := hQ43
  have K44 : Keep h0 T43.heap [] := K39.trans Ka2 (allS (Or.inr ge_lv) (allS (Or.inr ge_ex) all0))
  have fx45 : Exa Z T43.heap a13 "com/example/hold/hold/check/ComponentSolver" := Exa.keep fx40 Ka2
  have N46 := Fr.app N41 Na2
  have Z47 : h0.size ≤ T43.heap.size := Nat.le_trans Z42 Ka2.1
  show Goes p.tables e below (T43.setTop (mkF m 268 #[.val (.int p0), .val (.int p1), .val (.int p2), .val (.int p3), .val (.int p4), .val (.int p5), .val (.long pa), .second, .val (.long wa), .second, .val (.int ma), .val (.long pb), .second, .val (.long wb), .second, .val (.int mb), .val (.long pd), .second, .val (.long wd), .second, .val (.int md), .val (.long v9), .second, .val (.long v10), .second, .val (.long v11), .second, .val (.long v12), .second, .val (.ref a13), .unset] [])) _
  refine g_aload X43 hx (hb hby at_268) rfl rfl ?_
  refine g_iconst X43 hx (0 : Int32) (hb hby at_270) rfl ?_
  refine g_lload X43 hx (hb hby at_271) rfl ?_
  refine g_lconst X43 hx (1 : Int64) (hb hby at_273) rfl ?_
  refine g_lsub X43 hx (hb hby at_274) ?_
  refine g_l2d X43 hx (hb hby at_275) ?_
  show Goes p.tables e below (T43.setTop (mkF m 276 #[.val (.int p0), .val (.int p1), .val (.int p2), .val (.int p3), .val (.int p4), .val (.int p5), .val (.long pa), .second, .val (.long wa), .second, .val (.int ma), .val (.long pb), .second, .val (.long wb), .second, .val (.int mb), .val (.long pd), .second, .val (.long wd), .second, .val (.int md), .val (.long v9), .second, .val (.long v10), .second, .val (.long v11), .second, .val (.long v12), .second, .val (.ref a13), .unset] [(.double (FP.l2d (v9 - (1 : Int64)))), (.int (0 : Int32)), (.ref a13)])) _
  have b1_0 : Bn 211106232532993 (v9 - (1 : Int64)) := (b_v9.sub (M := 1) ⟨by decide, by decide⟩ (by decide) (by decide)).mono (by decide)
  refine g_callV X43 hx hZ hown (by rw [hml]; rfl) rfl (K := "com/example/hold/hold/check/ComponentSolver") (hw _ (List.mem_of_getElem? (i := 42) rfl)) (hw _ (List.mem_of_getElem? (i := 43) rfl)) (hw _ (List.mem_of_getElem? (i := 45) rfl)) (hw _ (List.mem_of_getElem? (i := 44) rfl)) (hw _ (List.mem_of_getElem? (i := 2) rfl)) (hw _ (List.mem_of_getElem? (i := 46) rfl)) fx45 (rmSp0 l Z a0 hw a13 (FP.l2d (v9 - (1 : Int64))) T43.heap h0.size Z47 ca va la lv ex su rc cc (v9 - (1 : Int64)) (v9 - (1 : Int64)) [(.double (FP.l2d v9)), (.double (FP.l2d v10))] [(.double (FP.l2d v11)), (.double (FP.l2d v12))] 211106232532993 (by decide) b1_0 rfl hA2 hC) [(.int (0 : Int32)), (.double (FP.l2d (v9 - (1 : Int64))))] rfl [] rfl (lenOf pd_4 rfl) (hb hby at_276) (by decide) 0 (by decide) (by decide) (by first | decide | exact Nat.le_refl _) (by decide) (by decide) (fun v T48 L48 X48 hQ48 => ?_)
  obtain ⟨rfl, Ns0, Ks0, hZ0⟩ := hQ48
  have K49 : Keep h0 T48.heap [] := K44.trans Ks0 (allS (Or.inr ge_su) all0)
  have fx50 : Exa Z T48.heap a13 "com/example/hold/hold/check/ComponentSolver" := Exa.keep fx45 Ks0
  have N51 := Fr.app N46 Ns0
  have Z52 : h0.size ≤ T48.heap.size := Nat.le_trans Z47 Ks0.1
  show Goes p.tables e below (T48.setTop (mkF m 279 #[.val (.int p0), .val (.int p1), .val (.int p2), .val (.int p3), .val (.int p4), .val (.int p5), .val (.long pa), .second, .val (.long wa), .second, .val (.int ma), .val (.long pb), .second, .val (.long wb), .second, .val (.int mb), .val (.long pd), .second, .val (.long wd), .second, .val (.int md), .val (.long v9), .second, .val (.long v10), .second, .val (.long v11), .second, .val (.long v12), .second, .val (.ref a13), .unset] [])) _
  refine g_aload X48 hx (hb hby at_279) rfl rfl ?_
  refine g_iconst X48 hx (1 : Int32) (hb hby at_281) rfl ?_
  refine g_lload X48 hx (hb hby at_282) rfl ?_
  refine g_lconst X48 hx (1 : Int64) (hb hby at_284) rfl ?_
  refine g_lsub X48 hx (hb hby at_285) ?_
  refine g_l2d X48 hx (hb hby at_286) ?_
  show Goes p.tables e below (T48.setTop (mkF m 287 #[.val (.int p0), .val (.int p1), .val (.int p2), .val (.int p3), .val (.int p4), .val (.int p5), .val (.long pa), .second, .val (.long wa), .second, .val (.int ma), .val (.long pb), .second, .val (.long wb), .second, .val (.int mb), .val (.long pd), .second, .val (.long wd), .second, .val (.int md), .val (.long v9), .second, .val (.long v10), .second, .val (.long v11), .second, .val (.long v12), .second, .val (.ref a13), .unset] [(.double (FP.l2d (v10 - (1 : Int64)))), (.int (1 : Int32)), (.ref a13)])) _
  have b1_1 : Bn 211106232532993 (v10 - (1 : Int64)) := (b_v10.sub (M := 1) ⟨by decide, by decide⟩ (by decide) (by decide)).mono (by decide)
  refine g_callV X48 hx hZ hown (by rw [hml]; rfl) rfl (K := "com/example/hold/hold/check/ComponentSolver") (hw _ (List.mem_of_getElem? (i := 42) rfl)) (hw _ (List.mem_of_getElem? (i := 43) rfl)) (hw _ (List.mem_of_getElem? (i := 45) rfl)) (hw _ (List.mem_of_getElem? (i := 44) rfl)) (hw _ (List.mem_of_getElem? (i := 2) rfl)) (hw _ (List.mem_of_getElem? (i := 46) rfl)) fx50 (rmSp1 l Z a0 hw a13 (FP.l2d (v10 - (1 : Int64))) T48.heap h0.size Z52 ca va la lv ex su rc cc (v10 - (1 : Int64)) (v9 - (1 : Int64)) [(.double (FP.l2d v9)), (.double (FP.l2d v10))] [(.double (FP.l2d v11)), (.double (FP.l2d v12))] 211106232532993 (by decide) b1_1 rfl hZ0 hC) [(.int (1 : Int32)), (.double (FP.l2d (v10 - (1 : Int64))))] rfl [] rfl (lenOf pd_4 rfl) (hb hby at_287) (by decide) 0 (by decide) (by decide) (by first | decide | exact Nat.le_refl _) (by decide) (by decide) (fun v T53 L53 X53 hQ53 => ?_)
  obtain ⟨rfl, Ns1, Ks1, hZ1⟩ := hQ53
  have K54 : Keep h0 T53.heap [] := K49.trans Ks1 (allS (Or.inr ge_su) all0)
  have fx55 : Exa Z T53.heap a13 "com/example/hold/hold/check/ComponentSolver" := Exa.keep fx50 Ks1
  have N56 := Fr.app N51 Ns1
  have Z57 : h0.size ≤ T53.heap.size := Nat.le_trans Z52 Ks1.1
  show Goes p.tables e below (T53.setTop (mkF m 290 #[.val (.int p0), .val (.int p1), .val (.int p2), .val (.int p3), .val (.int p4), .val (.int p5), .val (.long pa), .second, .val (.long wa), .second, .val (.int ma), .val (.long pb), .second, .val (.long wb), .second, .val (.int mb), .val (.long pd), .second, .val (.long wd), .second, .val (.int md), .val (.long v9), .second, .val (.long v10), .second, .val (.long v11), .second, .val (.long v12), .second, .val (.ref a13), .unset] [])) _
  refine g_aload X53 hx (hb hby at_290) rfl rfl ?_
  refine g_callV X53 hx hZ hown (by rw [hml]; rfl) rfl (K := "com/example/hold/hold/check/ComponentSolver") (hw _ (List.mem_of_getElem? (i := 47) rfl)) (hw _ (List.mem_of_getElem? (i := 48) rfl)) (hw _ (List.mem_of_getElem? (i := 50) rfl)) (hw _ (List.mem_of_getElem? (i := 49) rfl)) (hw _ (List.mem_of_getElem? (i := 2) rfl)) (hw _ (List.mem_of_getElem? (i := 51) rfl)) fx55 (rmSolve l Z a0 hw a13 T53.heap h0.size Z57 ca va la lv ex su rc cc v9 v10 v11 v12 211106232532992 (by decide) b_v9 b_v10 lc x0 x1 cl (own_stakeep SL K54 all0) (Al.keep K54 nin0) hc0 hc1 (Ex0.keep K54) (Ex1.keep K54) (fx0.keep K54 nin0) (fx1.keep K54 nin0) Al.lt Ex0.lt Ex1.lt hZ1 hC) [] rfl [] rfl (lenOf pd_5 rfl) (hb hby at_292) (by decide) 0 (by decide) (by decide) (by first | decide | exact Nat.le_refl _) (by decide) (by decide) (fun v T58 L58 X58 hQ58 => ?_)
  obtain ⟨r, rfl, gr, Nr, Ar9⟩ := hQ58
  have N59 := Fr.app N56 Nr
  show Goes p.tables e below (T58.setTop (mkF m 295 #[.val (.int p0), .val (.int p1), .val (.int p2), .val (.int p3), .val (.int p4), .val (.int p5), .val (.long pa), .second, .val (.long wa), .second, .val (.int ma), .val (.long pb), .second, .val (.long wb), .second, .val (.int mb), .val (.long pd), .second, .val (.long wd), .second, .val (.int md), .val (.long v9), .second, .val (.long v10), .second, .val (.long v11), .second, .val (.long v12), .second, .val (.ref a13), .unset] [(.ref r)])) _
  refine g_astore X58 hx (hb hby at_295) rfl (l' := #[.val (.int p0), .val (.int p1), .val (.int p2), .val (.int p3), .val (.int p4), .val (.int p5), .val (.long pa), .second, .val (.long wa), .second, .val (.int ma), .val (.long pb), .second, .val (.long wb), .second, .val (.int mb), .val (.long pd), .second, .val (.long wd), .second, .val (.int md), .val (.long v9), .second, .val (.long v10), .second, .val (.long v11), .second, .val (.long v12), .second, .val (.ref a13), .val (.ref r)]) rfl ?_
  refine g_aload X58 hx (hb hby at_297) rfl rfl ?_
  refine g_alen X58 hx hZ rfl Ar9 (2 : Int32) (by show (2 : Int32).toInt = ((2 : Nat) : Int); decide) (hb hby at_299) ?_
  show Goes p.tables e below (T58.setTop (mkF m 300 #[.val (.int p0), .val (.int p1), .val (.int p2), .val (.int p3), .val (.int p4), .val (.int p5), .val (.long pa), .second, .val (.long wa), .second, .val (.int ma), .val (.long pb), .second, .val (.long wb), .second, .val (.int mb), .val (.long pd), .second, .val (.long wd), .second, .val (.int md), .val (.long v9), .second, .val (.long v10), .second, .val (.long v11), .second, .val (.long v12), .second, .val (.ref a13), .val (.ref r)] [(.int (2 : Int32))])) _
  refine g_iconst X58 hx (2 : Int32) (hb hby at_300) rfl ?_
  refine g_icmp_ne X58 hx (hb hby at_301) (by decide) (pc' := 330) (by decide) (fun q => absurd (by decide) q) (fun _ => ?_)
  show Goes p.tables e below (T58.setTop (mkF m 304 #[.val (.int p0), .val (.int p1), .val (.int p2), .val (.int p3), .val (.int p4), .val (.int p5), .val (.long pa), .second, .val (.long wa), .second, .val (.int ma), .val (.long pb), .second, .val (.long wb), .second, .val (.int mb), .val (.long pd), .second, .val (.long wd), .second, .val (.int md), .val (.long v9), .second, .val (.long v10), .second, .val (.long v11), .second, .val (.long v12), .second, .val (.ref a13), .val (.ref r)] [])) _
  refine g_aload X58 hx (hb hby at_304) rfl rfl ?_
  refine g_iconst X58 hx (0 : Int32) (hb hby at_306) rfl ?_
  refine g_daload X58 hx hZ rfl Ar9 (i := 0) (v := (.double (FP.l2d v11))) (by decide) rfl (hb hby at_307) ?_
  show Goes p.tables e below (T58.setTop (mkF m 308 #[.val (.int p0), .val (.int p1), .val (.int p2), .val (.int p3), .val (.int p4), .val (.int p5), .val (.long pa), .second, .val (.long wa), .second, .val (.int ma), .val (.long pb), .second, .val (.long wb), .second, .val (.int mb), .val (.long pd), .second, .val (.long wd), .second, .val (.int md), .val (.long v9), .second, .val (.long v10), .second, .val (.long v11), .second, .val (.long v12), .second, .val (.ref a13), .val (.ref r)] [(.double (FP.l2d v11))])) _
  refine g_lload X58 hx (hb hby at_308) rfl ?_
  refine g_l2d X58 hx (hb hby at_310) ?_
  show Goes p.tables e below (T58.setTop (mkF m 311 #[.val (.int p0), .val (.int p1), .val (.int p2), .val (.int p3), .val (.int p4), .val (.int p5), .val (.long pa), .second, .val (.long wa), .second, .val (.int ma), .val (.long pb), .second, .val (.long wb), .second, .val (.int mb), .val (.long pd), .second, .val (.long wd), .second, .val (.int md), .val (.long v9), .second, .val (.long v10), .second, .val (.long v11), .second, .val (.long v12), .second, .val (.ref a13), .val (.ref r)] [(.double (FP.l2d v11)), (.double (FP.l2d v11))])) _
  refine g_dcmp X58 hx (0 : Int32) (dcmpV_eq rfl (nn_w rfl) .l) (hb hby at_311) ?_
  show Goes p.tables e below (T58.setTop (mkF m 312 #[.val (.int p0), .val (.int p1), .val (.int p2), .val (.int p3), .val (.int p4), .val (.int p5), .val (.long pa), .second, .val (.long wa), .second, .val (.int ma), .val (.long pb), .second, .val (.long wb), .second, .val (.int mb), .val (.long pd), .second, .val (.long wd), .second, .val (.int md), .val (.long v9), .second, .val (.long v10), .second, .val (.long v11), .second, .val (.long v12), .second, .val (.ref a13), .val (.ref r)] [(.int (0 : Int32))])) _
  refine g_if_ne X58 hx (hb hby at_312) (by decide) (pc' := 330) (by decide) (fun q => absurd (by decide) q) (fun _ => ?_)
  show Goes p.tables e below (T58.setTop (mkF m 315 #[.val (.int p0), .val (.int p1), .val (.int p2), .val (.int p3), .val (.int p4), .val (.int p5), .val (.long pa), .second, .val (.long wa), .second, .val (.int ma), .val (.long pb), .second, .val (.long wb), .second, .val (.int mb), .val (.long pd), .second, .val (.long wd), .second, .val (.int md), .val (.long v9), .second, .val (.long v10), .second, .val (.long v11), .second, .val (.long v12), .second, .val (.ref a13), .val (.ref r)] [])) _
  refine g_aload X58 hx (hb hby at_315) rfl rfl ?_
  refine g_iconst X58 hx (1 : Int32) (hb hby at_317) rfl ?_
  refine g_daload X58 hx hZ rfl Ar9 (i := 1) (v := (.double (FP.l2d v12))) (by decide) rfl (hb hby at_318) ?_
  show Goes p.tables e below (T58.setTop (mkF m 319 #[.val (.int p0), .val (.int p1), .val (.int p2), .val (.int p3), .val (.int p4), .val (.int p5), .val (.long pa), .second, .val (.long wa), .second, .val (.int ma), .val (.long pb), .second, .val (.long wb), .second, .val (.int mb), .val (.long pd), .second, .val (.long wd), .second, .val (.int md), .val (.long v9), .second, .val (.long v10), .second, .val (.long v11), .second, .val (.long v12), .second, .val (.ref a13), .val (.ref r)] [(.double (FP.l2d v12))])) _
  refine g_lload X58 hx (hb hby at_319) rfl ?_
  refine g_l2d X58 hx (hb hby at_321) ?_
  show Goes p.tables e below (T58.setTop (mkF m 322 #[.val (.int p0), .val (.int p1), .val (.int p2), .val (.int p3), .val (.int p4), .val (.int p5), .val (.long pa), .second, .val (.long wa), .second, .val (.int ma), .val (.long pb), .second, .val (.long wb), .second, .val (.int mb), .val (.long pd), .second, .val (.long wd), .second, .val (.int md), .val (.long v9), .second, .val (.long v10), .second, .val (.long v11), .second, .val (.long v12), .second, .val (.ref a13), .val (.ref r)] [(.double (FP.l2d v12)), (.double (FP.l2d v12))])) _
  refine g_dcmp X58 hx (0 : Int32) (dcmpV_eq rfl (nn_w rfl) .l) (hb hby at_322) ?_
  show Goes p.tables e below (T58.setTop (mkF m 323 #[.val (.int p0), .val (.int p1), .val (.int p2), .val (.int p3), .val (.int p4), .val (.int p5), .val (.long pa), .second, .val (.long wa), .second, .val (.int ma), .val (.long pb), .second, .val (.long wb), .second, .val (.int mb), .val (.long pd), .second, .val (.long wd), .second, .val (.int md), .val (.long v9), .second, .val (.long v10), .second, .val (.long v11), .second, .val (.long v12), .second, .val (.ref a13), .val (.ref r)] [(.int (0 : Int32))])) _
  refine g_if_ne X58 hx (hb hby at_323) (by decide) (pc' := 330) (by decide) (fun q => absurd (by decide) q) (fun _ => ?_)
  show Goes p.tables e below (T58.setTop (mkF m 326 #[.val (.int p0), .val (.int p1), .val (.int p2), .val (.int p3), .val (.int p4), .val (.int p5), .val (.long pa), .second, .val (.long wa), .second, .val (.int ma), .val (.long pb), .second, .val (.long wb), .second, .val (.int mb), .val (.long pd), .second, .val (.long wd), .second, .val (.int md), .val (.long v9), .second, .val (.long v10), .second, .val (.long v11), .second, .val (.long v12), .second, .val (.ref a13), .val (.ref r)] [])) _
  refine g_iconst X58 hx (1 : Int32) (hb hby at_326) rfl ?_
  refine g_goto X58 hx (hb hby at_327) (by decide) (pc' := 331) (by decide) ?_
  exact g_retZ X58 hx (hz := (by decide)) hret hlk (hb hby at_331) (by decide) (by decide) ⟨rfl, N59⟩
set_option maxRecDepth 65536 in
set_option maxHeartbeats 40000000 in
theorem comes_1 {Post : Tables → Env → Array Value → State → Outcome → State → Prop} (hpost : ∀ tb e args s v u, (limb_1_1.after args s (.returned v) u = true ∧ limb_1_2.after args s (.returned v) u = true ∧ True) → FrameEnd s (.returned v) u (Jvm.fieldLocs frame_1_writes args s ++ Jvm.arrayLocs frame_1_arrays args s ++ Jvm.staticLocs frame_1_statics s) 72 256 → Post tb e args s (.returned v) u) :
    ArmFor flags0 classFile x code maxLocals ret World_1 tables_1 room_1 Calls_1 rest_1 Pre_1 Post := by
  intro l hfl _ _ p e ha hc hk s m args below hf hA hF happ hP
  obtain ⟨hcalls, hrest, hpre⟩ := hP
  obtain ⟨-, -, -, hnamed, -, -, -, hat⟩ := (Spec.applies_iff hf).mp happ
  obtain ⟨hg, hn⟩ := and_e (Cond.before_iff.mp (show (Jvm.Cond.and given_1 narrow_1).before args s = true from hpre))
  obtain ⟨h1, hg1⟩ := and_e hg
  obtain ⟨w0, w1, w2, w3, w4, w5, rfl⟩ : ∃ w0 w1 w2 w3 w4 w5 : Value, args = #[w0, w1, w2, w3, w4, w5] := by
    have hs : args.size = 6 := by simpa [Cond.value, given_1] using h1
    obtain ⟨L⟩ := args
    match L, hs with
    | [w0, w1, w2, w3, w4, w5], _ => exact ⟨w0, w1, w2, w3, w4, w5, rfl⟩
  have hw := fun d (hd : d ∈ tables_1) => atoms_spec (ws := Jvm.Cond.code x code maxLocals ret :: tables_1) hat d (List.mem_cons_of_mem _ hd)
  obtain ⟨ha0, hg2⟩ := and_e hg1
  obtain ⟨i0, ei0⟩ := is_v ha0
  obtain rfl : w0 = (.int i0) := Option.some.inj ei0
  obtain ⟨ha1, hg3⟩ := and_e hg2
  obtain ⟨i1, ei1⟩ := is_v ha1
  obtain rfl : w1 = (.int i1) := Option.some.inj ei1
  obtain ⟨ha2, hg4⟩ := and_e hg3
  obtain ⟨i2, ei2⟩ := is_v ha2
  obtain rfl : w2 = (.int i2) := Option.some.inj ei2
  obtain ⟨ha3, hg5⟩ := and_e hg4
  obtain ⟨i3, ei3⟩ := is_v ha3
  obtain rfl : w3 = (.int i3) := Option.some.inj ei3
  obtain ⟨ha4, hg6⟩ := and_e hg5
  obtain ⟨i4, ei4⟩ := is_v ha4
  obtain rfl : w4 = (.int i4) := Option.some.inj ei4
  obtain ⟨i5, ei5⟩ := is_v hg6
  obtain rfl : w5 = (.int i5) := Option.some.inj ei5
  obtain ⟨r0, hr0⟩ := and_e (Cond.before_iff.mp (show rest_1_c.before _ s = true from hrest))
  obtain ⟨r1, hr1⟩ := and_e hr0
  obtain ⟨r2, hr2⟩ := and_e hr1
  obtain ⟨r3, hr3⟩ := and_e hr2
  obtain ⟨r4, hr4⟩ := and_e hr3
  obtain ⟨r5, hr5⟩ := and_e hr4
  obtain ⟨lc, elc⟩ := arr_v r2
  have SL := Sta.start elc (Or.inl (Cond.before_iff.mpr r1))
  obtain ⟨cA, hA⟩ := Arr.start elc r2
  obtain ⟨qz, ez⟩ := own_len256 elc hA r4
  have BX := Bxs.start (t := .static "java/lang/Long$LongCache" "cache" "[Ljava/lang/Long;") (K := "java/lang/Long") (d := "J") (val := fun j => .long (Int32.toInt64 (j - 128))) (fun idx => (by first | exact elc | simpa [Term.eval] using elc)) hA qz ez (by decide) r5 (fun X j hj hx => eqv_l (i2l_at (own_idx128 hj)) hx)
  have Al := own_bxsAr BX (by decide)
  obtain ⟨x0, hc0, Ex0, fx0⟩ := own_bxsAt BX (by decide) 128 (by decide)
  obtain ⟨x1, hc1, Ex1, fx1⟩ := own_bxsAt BX (by decide) 129 (by decide)
  have fx0 : Fld s s.heap x0 "java/lang/Long" "value" "J" (.long (0 : Int64)) := by
    have z : Fld s s.heap x0 "java/lang/Long" "value" "J" (.long (Int32.toInt64 (Int32.ofNat 128 - 128))) := fx0
    rw [show Int32.toInt64 (Int32.ofNat 128 - 128) = (0 : Int64) from by decide] at z
    exact z
  have fx1 : Fld s s.heap x1 "java/lang/Long" "value" "J" (.long (1 : Int64)) := by
    have z : Fld s s.heap x1 "java/lang/Long" "value" "J" (.long (Int32.toInt64 (Int32.ofNat 129 - 128))) := fx1
    rw [show Int32.toInt64 (Int32.ofNat 129 - 128) = (1 : Int64) from by decide] at z
    exact z
  obtain ⟨n, o, h1, h2, h3, _, L, rfl, ⟨rfl, N⟩, hq⟩ := law l s _ hw tables_1 i0 i1 i2 i3 i4 i5 s.heap lc x0 x1 _ SL Al hc0 hc1 Ex0 Ex1 fx0 fx1 p e ha hc hk s m _ below hf ((Spec.applies_iff_loose hf).mp happ).1 ⟨rfl, State.Warmed39.refl s, rfl⟩ trivial
  refine ⟨n, _, h1, h2, h3, hpost _ _ _ _ _ _ ⟨Cond.after_iff.mpr rfl, Cond.after_iff.mpr (eq_i res_at (Term.int_eval (1)) rfl), trivial⟩ ⟨hq.1, hq.2.1, (hq.2.2.sift fun y hy => Or.inr (N y hy)).mono (by decide) (by decide)⟩⟩
theorem main_1_1 : Claimed_1_1 := comes_1 fun _ _ _ _ _ _ h hF => ⟨h.1, hF⟩
theorem main_1_2 : Claimed_1_2 := comes_1 fun _ _ _ _ _ _ h hF => ⟨h.2.1, hF⟩
end Jvm.Pilot.@@N@@
namespace Jvm.Pilot.@@N@@
open Jvm Jvm.ClassFile Sem Op Lib Jvm.Free Jvm.Stand Jvm.Pilot.@@N@@.Jvm.D
/-! MADE BY PROGRAM (witnessworld.py) out of the Statement's table words and the real class files: 30 classes; the members and pool entries that the words name. The judged class is class 1, her method 1. -/
namespace start1
open Jvm.ClassFile
def u (s : String) : CpInfo := .utf8 (stringToUtf16 s)
/-- a pool by its gaps: so many unusable entries, then the entry; so many at the end -/
def gap : Nat → List CpInfo → List CpInfo
  | 0, r => r
  | n + 1, r => .unusable :: gap n r
def poolList (es : List (Nat × CpInfo)) (last : Nat) : List CpInfo := es.foldr (fun e r => gap e.1 (e.2 :: r)) (gap last [])
def pool (es : List (Nat × CpInfo)) (last : Nat) : Array CpInfo := ⟨poolList es last⟩
def fileOf (pool : Array CpInfo) (this : Nat) (attrs : Array Attribute := #[]) (ms : Array MethodInfo := #[]) (fl : Nat := 33) (sup : Nat := 0) (ifs : Array Nat := #[]) (fds : Array FieldInfo := #[]) : ClassFile where
  minorVersion := 0
  majorVersion := 65
  constantPool := pool
  accessFlags := fl
  thisClass := this
  superClass := sup
  interfaces := ifs
  fields := fds
  methods := ms
  attributes := attrs
def plain (name : String) (sup : Option ClassId) : Class where
  name := name
  kind := .ordinary
  loader := none
  accessFlags := 33
  super := sup
  interfaces := #[]
  cf := none
  fields := #[]
  methods := #[]
  instanceTypes := #[]
  staticTypes := #[]
  resolved := #[]
  callSites := []
  init := .initialized
  statics := none
  mirror := none

def pool0 : Array CpInfo := pool [(5, u "<init>"), (0, u "()V"), (1, .class_ 10), (1, u "java/lang/Object")] 113

def k0c0 : Code := { maxStack := 0, maxLocals := 1, code := object_method_1_code, exceptionTable := #[], attributes := #[] }
def k0m0 : Method := { name := "<init>", desc := "()V", sig := { parameters := [], returnType := none }, accessFlags := 1, code := some k0c0 }
/-- java/lang/Object -/
def k0 : Class := { plain "java/lang/Object" none with
  accessFlags := 33
  interfaces := #[]
  cf := some (fileOf pool0 8 #[] #[{ accessFlags := 1, nameIndex := 5, descriptorIndex := 6, attributes := #[] }] 33 0 #[] #[])
  fields := #[]
  methods := #[k0m0]
  instanceTypes := #[]
  staticTypes := #[]
  resolved := Array.replicate 124 none
  statics := none }

def pool1 : Array CpInfo := pool [(2, .class_ 4), (1, u "java/lang/Object"), (0, u "<init>"), (0, u "()V"), (0, .class_ 8), (0, u "com/example/hold/hold/check/ComponentSolver"), (0, .methodref 7 10), (0, .nameAndType 5 11), (0, u "(I)V"), (0, .methodref 7 13), (0, .nameAndType 14 15), (0, u "addExit"), (0, u "(IDD)V"), (0, .methodref 7 17), (0, .nameAndType 18 19), (0, u "addSurplus"), (0, u "(ID)V"), (0, .methodref 7 21), (0, .nameAndType 22 23), (0, u "solve"), (0, u "()[D"), (0, .class_ 25), (0, u "com/example/hold/hold/check/ComponentSolverAddExitPinLaw"), (2, u "law"), (0, u "(IIIIII)Z")] 5

def k1m0 : Method := { name := "<init>", desc := "()V", sig := { parameters := [], returnType := none }, accessFlags := 1, code := none }
def k1c1 : Code := { maxStack := 6, maxLocals := 31, code := code, exceptionTable := #[], attributes := #[] }
def k1m1 : Method := { name := "law", desc := "(IIIIII)Z", sig := { parameters := [.int, .int, .int, .int, .int, .int], returnType := some .boolean }, accessFlags := 9, code := some k1c1 }
/-- com/example/hold/hold/check/ComponentSolverAddExitPinLaw -/
def k1 : Class := { plain "com/example/hold/hold/check/ComponentSolverAddExitPinLaw" (some 0) with
  accessFlags := 49
  interfaces := #[]
  cf := some (fileOf pool1 24 #[] #[{ accessFlags := 1, nameIndex := 5, descriptorIndex := 6, attributes := #[] }, { accessFlags := 9, nameIndex := 28, descriptorIndex := 29, attributes := #[] }] 49 2 #[] #[])
  fields := #[]
  methods := #[k1m0, k1m1]
  instanceTypes := #[]
  staticTypes := #[]
  resolved := Array.replicate 35 none
  statics := none }

def pool2 : Array CpInfo := pool [(1, .methodref 2 3), (0, .class_ 4), (0, .nameAndType 5 6), (0, u "java/lang/Object"), (0, u "<init>"), (0, u "()V"), (0, .fieldref 8 9), (0, .class_ 10), (0, .nameAndType 11 12), (0, u "com/example/hold/hold/check/ComponentSolver"), (0, u "size"), (0, u "I"), (0, .class_ 14), (0, u "[I"), (0, .fieldref 8 16), (0, .nameAndType 17 18), (0, u "columns"), (0, u "[[I"), (0, .class_ 20), (0, u "[D"), (0, .fieldref 8 22), (0, .nameAndType 23 24), (0, u "values"), (0, u "[[D"), (0, .fieldref 8 26), (0, .nameAndType 27 14), (0, u "length"), (0, .fieldref 8 29), (0, .nameAndType 30 20), (0, u "leaving"), (0, .fieldref 8 32), (0, .nameAndType 33 20), (0, u "exits"), (0, .fieldref 8 35), (0, .nameAndType 36 20), (0, u "surplus"), (0, .fieldref 8 38), (0, .nameAndType 39 18), (0, u "rowsUsing"), (0, .fieldref 8 41), (0, .nameAndType 42 14), (0, u "rowsUsingCount"), (0, .fieldref 8 44), (0, .nameAndType 45 14), (0, u "columnCount"), (8, u "(I)V"), (8, u "addSurplus"), (0, u "(ID)V"), (5, u "(I)I"), (16, u "addExit"), (0, u "(IDD)V"), (2, u "solve"), (0, u "()[D"), (1, .class_ 96), (1, u "java/util/Arrays"), (5, .methodref 8 103), (0, .nameAndType 104 54), (0, u "sortRow"), (4, .class_ 110), (0, u "java/util/PriorityQueue"), (0, .methodref 109 3), (0, .methodref 8 113), (0, .nameAndType 114 70), (0, u "cost"), (0, .methodref 8 116), (0, .nameAndType 117 118), (0, u "entry"), (0, u "(II)J"), (0, .methodref 120 121), (0, .class_ 122), (0, .nameAndType 123 124), (0, u "java/lang/Long"), (0, u "valueOf"), (0, u "(J)Ljava/lang/Long;"), (0, .methodref 109 126), (0, .nameAndType 127 128), (0, u "add"), (0, u "(Ljava/lang/Object;)Z"), (0, .methodref 109 130), (0, .nameAndType 131 132), (0, u "poll"), (0, u "()Ljava/lang/Object;"), (0, .methodref 120 134), (0, .nameAndType 135 136), (0, u "longValue"), (0, u "()J"), (15, .long 2147483647), (1, .methodref 155 156), (0, .class_ 157), (0, .nameAndType 158 159), (0, u "java/lang/Math"), (0, u "min"), (0, u "(JJ)J"), (0, .methodref 94 161), (0, .nameAndType 162 163), (0, u "sort"), (0, u "([J)V")] 16

def k2c0 : Code := { maxStack := 3, maxLocals := 3, code := prog_35_method_1_code, exceptionTable := #[], attributes := #[] }
def k2m0 : Method := { name := "<init>", desc := "(I)V", sig := { parameters := [.int], returnType := none }, accessFlags := 0, code := some k2c0 }
def k2c1 : Code := { maxStack := 8, maxLocals := 6, code := prog_35_method_4_code, exceptionTable := #[], attributes := #[] }
def k2m1 : Method := { name := "addExit", desc := "(IDD)V", sig := { parameters := [.int, .double, .double], returnType := none }, accessFlags := 0, code := some k2c1 }
def k2c2 : Code := { maxStack := 6, maxLocals := 4, code := prog_35_method_6_code, exceptionTable := #[], attributes := #[] }
def k2m2 : Method := { name := "addSurplus", desc := "(ID)V", sig := { parameters := [.int, .double], returnType := none }, accessFlags := 0, code := some k2c2 }
def k2c3 : Code := { maxStack := 7, maxLocals := 12, code := prog_35_method_7_code, exceptionTable := #[], attributes := #[] }
def k2m3 : Method := { name := "solve", desc := "()[D", sig := { parameters := [], returnType := some (.array .double) }, accessFlags := 0, code := some k2c3 }
def k2c4 : Code := { maxStack := 6, maxLocals := 2, code := prog_35_method_11_code, exceptionTable := #[], attributes := #[] }
def k2m4 : Method := { name := "cost", desc := "(I)I", sig := { parameters := [.int], returnType := some .int }, accessFlags := 2, code := some k2c4 }
def k2c5 : Code := { maxStack := 4, maxLocals := 2, code := prog_35_method_12_code, exceptionTable := #[], attributes := #[] }
def k2m5 : Method := { name := "entry", desc := "(II)J", sig := { parameters := [.int, .int], returnType := some .long }, accessFlags := 10, code := some k2c5 }
def k2c6 : Code := { maxStack := 6, maxLocals := 14, code := prog_35_method_13_code, exceptionTable := #[], attributes := #[] }
def k2m6 : Method := { name := "sortRow", desc := "(I)V", sig := { parameters := [.int], returnType := none }, accessFlags := 2, code := some k2c6 }
/-- com/example/hold/hold/check/ComponentSolver -/
def k2 : Class := { plain "com/example/hold/hold/check/ComponentSolver" (some 0) with
  accessFlags := 32
  interfaces := #[]
  cf := some (fileOf pool2 8 #[] #[{ accessFlags := 0, nameIndex := 5, descriptorIndex := 54, attributes := #[] }, { accessFlags := 0, nameIndex := 87, descriptorIndex := 88, attributes := #[] }, { accessFlags := 0, nameIndex := 63, descriptorIndex := 64, attributes := #[] }, { accessFlags := 0, nameIndex := 91, descriptorIndex := 92, attributes := #[] }, { accessFlags := 2, nameIndex := 114, descriptorIndex := 70, attributes := #[] }, { accessFlags := 10, nameIndex := 117, descriptorIndex := 118, attributes := #[] }, { accessFlags := 2, nameIndex := 104, descriptorIndex := 54, attributes := #[] }] 32 2 #[] #[{ accessFlags := 18, nameIndex := 11, descriptorIndex := 12, attributes := #[] }, { accessFlags := 18, nameIndex := 17, descriptorIndex := 18, attributes := #[] }, { accessFlags := 18, nameIndex := 23, descriptorIndex := 24, attributes := #[] }, { accessFlags := 18, nameIndex := 27, descriptorIndex := 14, attributes := #[] }, { accessFlags := 18, nameIndex := 30, descriptorIndex := 20, attributes := #[] }, { accessFlags := 18, nameIndex := 33, descriptorIndex := 20, attributes := #[] }, { accessFlags := 18, nameIndex := 36, descriptorIndex := 20, attributes := #[] }, { accessFlags := 18, nameIndex := 39, descriptorIndex := 18, attributes := #[] }, { accessFlags := 18, nameIndex := 42, descriptorIndex := 14, attributes := #[] }, { accessFlags := 18, nameIndex := 45, descriptorIndex := 14, attributes := #[] }])
  fields := #[{ name := "size", type := .int, accessFlags := 18, slot := 0, constantValue := 0 }, { name := "columns", type := (.array (.array .int)), accessFlags := 18, slot := 1, constantValue := 0 }, { name := "values", type := (.array (.array .double)), accessFlags := 18, slot := 2, constantValue := 0 }, { name := "length", type := (.array .int), accessFlags := 18, slot := 3, constantValue := 0 }, { name := "leaving", type := (.array .double), accessFlags := 18, slot := 4, constantValue := 0 }, { name := "exits", type := (.array .double), accessFlags := 18, slot := 5, constantValue := 0 }, { name := "surplus", type := (.array .double), accessFlags := 18, slot := 6, constantValue := 0 }, { name := "rowsUsing", type := (.array (.array .int)), accessFlags := 18, slot := 7, constantValue := 0 }, { name := "rowsUsingCount", type := (.array .int), accessFlags := 18, slot := 8, constantValue := 0 }, { name := "columnCount", type := (.array .int), accessFlags := 18, slot := 9, constantValue := 0 }]
  methods := #[k2m0, k2m1, k2m2, k2m3, k2m4, k2m5, k2m6]
  instanceTypes := #[.int, (.array (.array .int)), (.array (.array .double)), (.array .int), (.array .double), (.array .double), (.array .double), (.array (.array .int)), (.array .int), (.array .int)]
  staticTypes := #[]
  resolved := Array.replicate 180 none
  statics := none }

def pool3 : Array CpInfo := pool [(2, .class_ 4), (1, u "java/lang/Object"), (0, u "<init>"), (0, u "()V"), (1, .class_ 10), (1, u "java/util/DualPivotQuicksort"), (0, u "sort"), (2, .class_ 16), (1, u "java/util/Arrays"), (2, .methodref 8 20), (0, .nameAndType 11 21), (0, u "([JIII)V"), (52, .class_ 76), (1, u "java/util/Arrays$NaturalOrder"), (36, .class_ 115), (1, u "java/util/Arrays$LegacyMergeSort"), (1, u "Z"), (257, .class_ 376), (0, u "java/util/Arrays$ArrayList"), (68, u "$assertionsDisabled"), (269, u "MIN_ARRAY_SORT_GRAN"), (0, u "I"), (2, u "INSERTIONSORT_THRESHOLD"), (11, u "([J)V"), (243, .class_ 976), (0, u "java/util/Arrays$ArrayItr")] 52

def k3m0 : Method := { name := "<init>", desc := "()V", sig := { parameters := [], returnType := none }, accessFlags := 2, code := none }
def k3c1 : Code := { maxStack := 4, maxLocals := 1, code := jdk_65_method_4_code, exceptionTable := #[], attributes := #[] }
def k3m1 : Method := { name := "sort", desc := "([J)V", sig := { parameters := [(.array .long)], returnType := none }, accessFlags := 9, code := some k3c1 }
/-- java/util/Arrays -/
def k3 : Class := { plain "java/util/Arrays" (some 0) with
  accessFlags := 49
  interfaces := #[]
  cf := some (fileOf pool3 14 #[.nestMembers #[975, 375, 113, 74]] #[{ accessFlags := 2, nameIndex := 5, descriptorIndex := 6, attributes := #[] }, { accessFlags := 9, nameIndex := 11, descriptorIndex := 731, attributes := #[] }] 49 2 #[] #[{ accessFlags := 26, nameIndex := 715, descriptorIndex := 716, attributes := #[] }, { accessFlags := 26, nameIndex := 719, descriptorIndex := 716, attributes := #[] }, { accessFlags := 4120, nameIndex := 445, descriptorIndex := 117, attributes := #[] }])
  fields := #[{ name := "MIN_ARRAY_SORT_GRAN", type := .int, accessFlags := 26, slot := 0, constantValue := 0 }, { name := "INSERTIONSORT_THRESHOLD", type := .int, accessFlags := 26, slot := 1, constantValue := 0 }, { name := "$assertionsDisabled", type := .boolean, accessFlags := 4120, slot := 2, constantValue := 0 }]
  methods := #[k3m0, k3m1]
  instanceTypes := #[]
  staticTypes := #[.int, .int, .boolean]
  resolved := Array.replicate 1029 none
  statics := none }

def pool4 : Array CpInfo := pool [(1, .class_ 2), (0, u "java/util/DualPivotQuicksort"), (5, .class_ 10), (1, u "java/lang/Object"), (0, u "<init>"), (0, u "()V"), (4, .class_ 18), (0, u "java/util/DualPivotQuicksort$Sorter"), (9, u "sort"), (7, u "insertionSort"), (31, u "I"), (4, .class_ 74), (0, u "java/util/DualPivotQuicksort$RunMerger"), (10, .class_ 86), (0, u "java/util/DualPivotQuicksort$Merger"), (12, .methodref 1 100), (0, .nameAndType 28 101), (0, u "(Ljava/util/DualPivotQuicksort$Sorter;[JIII)V"), (2, u "([JIII)V"), (0, .methodref 1 106), (0, .nameAndType 36 107), (0, u "([JII)V"), (106, u "MAX_MIXED_INSERTION_SORT_SIZE"), (2, u "MAX_INSERTION_SORT_SIZE"), (1, u "MIN_PARALLEL_SORT_SIZE"), (1, u "MIN_TRY_MERGE_SIZE"), (0, u "MIN_FIRST_RUN_SIZE"), (1, u "MIN_FIRST_RUNS_FACTOR"), (1, u "MAX_RUN_CAPACITY"), (1, u "MIN_RUN_COUNT"), (1, u "MIN_PARALLEL_MERGE_PARTS_SIZE"), (0, u "MIN_BYTE_COUNTING_SORT_SIZE"), (1, u "MIN_SHORT_OR_CHAR_COUNTING_SORT_SIZE"), (1, u "DELTA"), (1, u "MAX_RECURSION_DEPTH"), (1, u "NUM_BYTE_VALUES"), (1, u "MAX_BYTE_INDEX"), (0, u "NUM_CHAR_VALUES"), (0, u "NUM_SHORT_VALUES"), (0, u "MAX_SHORT_INDEX")] 86

def k4m0 : Method := { name := "<init>", desc := "()V", sig := { parameters := [], returnType := none }, accessFlags := 2, code := none }
def k4c1 : Code := { maxStack := 9, maxLocals := 7, code := jdk_2529_method_12_code, exceptionTable := #[], attributes := #[] }
def k4m1 : Method := { name := "sort", desc := "([JIII)V", sig := { parameters := [(.array .long), .int, .int, .int], returnType := none }, accessFlags := 8, code := some k4c1 }
def k4c2 : Code := { maxStack := 6, maxLocals := 25, code := jdk_2529_method_13_code, exceptionTable := #[], attributes := #[] }
def k4m2 : Method := { name := "sort", desc := "(Ljava/util/DualPivotQuicksort$Sorter;[JIII)V", sig := { parameters := [(.object "java/util/DualPivotQuicksort$Sorter"), (.array .long), .int, .int, .int], returnType := none }, accessFlags := 8, code := some k4c2 }
def k4c3 : Code := { maxStack := 5, maxLocals := 7, code := jdk_2529_method_15_code, exceptionTable := #[], attributes := #[] }
def k4m3 : Method := { name := "insertionSort", desc := "([JII)V", sig := { parameters := [(.array .long), .int, .int], returnType := none }, accessFlags := 10, code := some k4c3 }
/-- java/util/DualPivotQuicksort -/
def k4 : Class := { plain "java/util/DualPivotQuicksort" (some 0) with
  accessFlags := 48
  interfaces := #[]
  cf := some (fileOf pool4 1 #[.nestMembers #[73, 85, 17]] #[{ accessFlags := 2, nameIndex := 11, descriptorIndex := 12, attributes := #[] }, { accessFlags := 8, nameIndex := 28, descriptorIndex := 104, attributes := #[] }, { accessFlags := 8, nameIndex := 28, descriptorIndex := 101, attributes := #[] }, { accessFlags := 10, nameIndex := 36, descriptorIndex := 107, attributes := #[] }] 48 8 #[] #[{ accessFlags := 26, nameIndex := 214, descriptorIndex := 68, attributes := #[] }, { accessFlags := 26, nameIndex := 217, descriptorIndex := 68, attributes := #[] }, { accessFlags := 26, nameIndex := 219, descriptorIndex := 68, attributes := #[] }, { accessFlags := 26, nameIndex := 221, descriptorIndex := 68, attributes := #[] }, { accessFlags := 26, nameIndex := 222, descriptorIndex := 68, attributes := #[] }, { accessFlags := 26, nameIndex := 224, descriptorIndex := 68, attributes := #[] }, { accessFlags := 26, nameIndex := 226, descriptorIndex := 68, attributes := #[] }, { accessFlags := 26, nameIndex := 228, descriptorIndex := 68, attributes := #[] }, { accessFlags := 26, nameIndex := 230, descriptorIndex := 68, attributes := #[] }, { accessFlags := 26, nameIndex := 231, descriptorIndex := 68, attributes := #[] }, { accessFlags := 26, nameIndex := 233, descriptorIndex := 68, attributes := #[] }, { accessFlags := 26, nameIndex := 235, descriptorIndex := 68, attributes := #[] }, { accessFlags := 26, nameIndex := 237, descriptorIndex := 68, attributes := #[] }, { accessFlags := 26, nameIndex := 239, descriptorIndex := 68, attributes := #[] }, { accessFlags := 26, nameIndex := 241, descriptorIndex := 68, attributes := #[] }, { accessFlags := 26, nameIndex := 242, descriptorIndex := 68, attributes := #[] }, { accessFlags := 26, nameIndex := 243, descriptorIndex := 68, attributes := #[] }, { accessFlags := 26, nameIndex := 244, descriptorIndex := 68, attributes := #[] }])
  fields := #[{ name := "MAX_MIXED_INSERTION_SORT_SIZE", type := .int, accessFlags := 26, slot := 0, constantValue := 0 }, { name := "MAX_INSERTION_SORT_SIZE", type := .int, accessFlags := 26, slot := 1, constantValue := 0 }, { name := "MIN_PARALLEL_SORT_SIZE", type := .int, accessFlags := 26, slot := 2, constantValue := 0 }, { name := "MIN_TRY_MERGE_SIZE", type := .int, accessFlags := 26, slot := 3, constantValue := 0 }, { name := "MIN_FIRST_RUN_SIZE", type := .int, accessFlags := 26, slot := 4, constantValue := 0 }, { name := "MIN_FIRST_RUNS_FACTOR", type := .int, accessFlags := 26, slot := 5, constantValue := 0 }, { name := "MAX_RUN_CAPACITY", type := .int, accessFlags := 26, slot := 6, constantValue := 0 }, { name := "MIN_RUN_COUNT", type := .int, accessFlags := 26, slot := 7, constantValue := 0 }, { name := "MIN_PARALLEL_MERGE_PARTS_SIZE", type := .int, accessFlags := 26, slot := 8, constantValue := 0 }, { name := "MIN_BYTE_COUNTING_SORT_SIZE", type := .int, accessFlags := 26, slot := 9, constantValue := 0 }, { name := "MIN_SHORT_OR_CHAR_COUNTING_SORT_SIZE", type := .int, accessFlags := 26, slot := 10, constantValue := 0 }, { name := "DELTA", type := .int, accessFlags := 26, slot := 11, constantValue := 0 }, { name := "MAX_RECURSION_DEPTH", type := .int, accessFlags := 26, slot := 12, constantValue := 0 }, { name := "NUM_BYTE_VALUES", type := .int, accessFlags := 26, slot := 13, constantValue := 0 }, { name := "MAX_BYTE_INDEX", type := .int, accessFlags := 26, slot := 14, constantValue := 0 }, { name := "NUM_CHAR_VALUES", type := .int, accessFlags := 26, slot := 15, constantValue := 0 }, { name := "NUM_SHORT_VALUES", type := .int, accessFlags := 26, slot := 16, constantValue := 0 }, { name := "MAX_SHORT_INDEX", type := .int, accessFlags := 26, slot := 17, constantValue := 0 }]
  methods := #[k4m0, k4m1, k4m2, k4m3]
  instanceTypes := #[]
  staticTypes := #[.int, .int, .int, .int, .int, .int, .int, .int, .int, .int, .int, .int, .int, .int, .int, .int, .int, .int]
  resolved := Array.replicate 331 none
  statics := none }

def pool5 : Array CpInfo := pool [(8, .class_ 10), (1, u "java/lang/Iterable"), (24, .class_ 36), (0, u "java/lang/Object")] 25

/-- java/lang/Iterable -/
def k5 : Class := { plain "java/lang/Iterable" (some 0) with
  accessFlags := 1537
  interfaces := #[]
  cf := some (fileOf pool5 8 #[] #[] 1537 35 #[] #[])
  fields := #[]
  methods := #[]
  instanceTypes := #[]
  staticTypes := #[]
  resolved := Array.replicate 62 none
  statics := none }

def pool6 : Array CpInfo := pool [(10, .class_ 12), (1, u "java/util/Collection"), (47, .class_ 61), (0, u "java/lang/Object"), (0, .class_ 63), (0, u "java/lang/Iterable")] 51

/-- java/util/Collection -/
def k6 : Class := { plain "java/util/Collection" (some 0) with
  accessFlags := 1537
  interfaces := #[5]
  cf := some (fileOf pool6 10 #[] #[] 1537 60 #[62] #[])
  fields := #[]
  methods := #[]
  instanceTypes := #[]
  staticTypes := #[]
  resolved := Array.replicate 115 none
  statics := none }

def pool7 : Array CpInfo := pool [(1, .methodref 2 3), (0, .class_ 4), (0, .nameAndType 5 6), (0, u "java/lang/Object"), (0, u "<init>"), (0, u "()V"), (1, .class_ 10), (1, u "java/util/AbstractCollection"), (66, .class_ 78), (0, u "java/util/Collection")] 81

def k7c0 : Code := { maxStack := 1, maxLocals := 1, code := jdk_22_method_1_code, exceptionTable := #[], attributes := #[] }
def k7m0 : Method := { name := "<init>", desc := "()V", sig := { parameters := [], returnType := none }, accessFlags := 4, code := some k7c0 }
/-- java/util/AbstractCollection -/
def k7 : Class := { plain "java/util/AbstractCollection" (some 0) with
  accessFlags := 1057
  interfaces := #[6]
  cf := some (fileOf pool7 8 #[] #[{ accessFlags := 4, nameIndex := 5, descriptorIndex := 6, attributes := #[] }] 1057 2 #[77] #[])
  fields := #[]
  methods := #[k7m0]
  instanceTypes := #[]
  staticTypes := #[]
  resolved := Array.replicate 160 none
  statics := none }

def pool8 : Array CpInfo := pool [(1, .class_ 2), (0, u "java/util/Queue"), (0, .class_ 4), (0, u "java/lang/Object"), (0, .class_ 6), (0, u "java/util/Collection")] 14

/-- java/util/Queue -/
def k8 : Class := { plain "java/util/Queue" (some 0) with
  accessFlags := 1537
  interfaces := #[6]
  cf := some (fileOf pool8 1 #[] #[] 1537 3 #[5] #[])
  fields := #[]
  methods := #[]
  instanceTypes := #[]
  staticTypes := #[]
  resolved := Array.replicate 21 none
  statics := none }

def pool9 : Array CpInfo := pool [(1, .methodref 2 3), (0, .class_ 4), (0, .nameAndType 5 6), (0, u "java/util/AbstractCollection"), (0, u "<init>"), (0, u "()V"), (1, .class_ 10), (1, u "java/util/AbstractQueue"), (43, .class_ 55), (0, u "java/util/Queue")] 31

def k9c0 : Code := { maxStack := 1, maxLocals := 1, code := jdk_2435_method_1_code, exceptionTable := #[], attributes := #[] }
def k9m0 : Method := { name := "<init>", desc := "()V", sig := { parameters := [], returnType := none }, accessFlags := 4, code := some k9c0 }
/-- java/util/AbstractQueue -/
def k9 : Class := { plain "java/util/AbstractQueue" (some 7) with
  accessFlags := 1057
  interfaces := #[8]
  cf := some (fileOf pool9 8 #[] #[{ accessFlags := 4, nameIndex := 5, descriptorIndex := 6, attributes := #[] }] 1057 2 #[54] #[])
  fields := #[]
  methods := #[k9m0]
  instanceTypes := #[]
  staticTypes := #[]
  resolved := Array.replicate 87 none
  statics := none }

def pool10 : Array CpInfo := pool [(1, .class_ 2), (0, u "java/io/Serializable"), (0, .class_ 4), (0, u "java/lang/Object")] 2

/-- java/io/Serializable -/
def k10 : Class := { plain "java/io/Serializable" (some 0) with
  accessFlags := 1537
  interfaces := #[]
  cf := some (fileOf pool10 1 #[] #[] 1537 3 #[] #[])
  fields := #[]
  methods := #[]
  instanceTypes := #[]
  staticTypes := #[]
  resolved := Array.replicate 7 none
  statics := none }

def pool11 : Array CpInfo := pool [(1, .class_ 2), (0, u "java/util/PriorityQueue"), (0, .methodref 1 4), (0, .nameAndType 5 6), (0, u "<init>"), (0, u "(ILjava/util/Comparator;)V"), (0, .methodref 8 9), (0, .class_ 10), (0, .nameAndType 5 11), (0, u "java/util/AbstractQueue"), (0, u "()V"), (3, .class_ 16), (0, u "java/lang/Object"), (0, .fieldref 1 18), (0, .nameAndType 19 20), (0, u "queue"), (0, u "[Ljava/lang/Object;"), (0, .fieldref 1 22), (0, .nameAndType 23 24), (0, u "comparator"), (0, u "Ljava/util/Comparator;"), (31, u "size"), (1, .fieldref 1 59), (0, .nameAndType 56 60), (0, u "I"), (28, .methodref 1 90), (0, .nameAndType 91 92), (0, u "offer"), (0, u "(Ljava/lang/Object;)Z"), (0, .fieldref 1 94), (0, .nameAndType 95 60), (0, u "modCount"), (4, .methodref 1 101), (0, .nameAndType 102 103), (0, u "siftUp"), (0, u "(ILjava/lang/Object;)V"), (6, u "(Ljava/lang/Object;)I"), (10, .class_ 122), (0, u "java/util/PriorityQueue$Itr"), (2, .methodref 1 126), (0, .nameAndType 127 128), (0, u "siftDownComparable"), (0, u "(ILjava/lang/Object;[Ljava/lang/Object;I)V"), (11, .methodref 1 141), (0, .nameAndType 142 143), (0, u "siftUpComparable"), (0, u "(ILjava/lang/Object;[Ljava/lang/Object;)V"), (0, .class_ 145), (0, u "java/lang/Comparable"), (0, .interfaceMethodref 144 147), (0, .nameAndType 148 110), (0, u "compareTo"), (47, u "()Ljava/lang/Object;"), (0, .class_ 198), (0, u "java/util/PriorityQueue$PriorityQueueSpliterator"), (45, .class_ 245), (0, u "java/io/Serializable"), (0, u "serialVersionUID"), (0, u "J"), (3, u "DEFAULT_INITIAL_CAPACITY"), (34, u "add"), (16, u "poll")] 88

def k11c0 : Code := { maxStack := 3, maxLocals := 1, code := jdk_2655_method_1_code, exceptionTable := #[], attributes := #[] }
def k11m0 : Method := { name := "<init>", desc := "()V", sig := { parameters := [], returnType := none }, accessFlags := 1, code := some k11c0 }
def k11c1 : Code := { maxStack := 2, maxLocals := 3, code := jdk_2655_method_4_code, exceptionTable := #[], attributes := #[] }
def k11m1 : Method := { name := "<init>", desc := "(ILjava/util/Comparator;)V", sig := { parameters := [.int, (.object "java/util/Comparator")], returnType := none }, accessFlags := 1, code := some k11c1 }
def k11c2 : Code := { maxStack := 2, maxLocals := 2, code := jdk_2655_method_13_code, exceptionTable := #[], attributes := #[] }
def k11m2 : Method := { name := "add", desc := "(Ljava/lang/Object;)Z", sig := { parameters := [(.object "java/lang/Object")], returnType := some .boolean }, accessFlags := 1, code := some k11c2 }
def k11c3 : Code := { maxStack := 3, maxLocals := 3, code := jdk_2655_method_14_code, exceptionTable := #[], attributes := #[] }
def k11m3 : Method := { name := "offer", desc := "(Ljava/lang/Object;)Z", sig := { parameters := [(.object "java/lang/Object")], returnType := some .boolean }, accessFlags := 1, code := some k11c3 }
def k11c4 : Code := { maxStack := 5, maxLocals := 6, code := jdk_2655_method_25_code, exceptionTable := #[], attributes := #[] }
def k11m4 : Method := { name := "poll", desc := "()Ljava/lang/Object;", sig := { parameters := [], returnType := some (.object "java/lang/Object") }, accessFlags := 1, code := some k11c4 }
def k11c5 : Code := { maxStack := 4, maxLocals := 3, code := jdk_2655_method_27_code, exceptionTable := #[], attributes := #[] }
def k11m5 : Method := { name := "siftUp", desc := "(ILjava/lang/Object;)V", sig := { parameters := [.int, (.object "java/lang/Object")], returnType := none }, accessFlags := 2, code := some k11c5 }
def k11c6 : Code := { maxStack := 3, maxLocals := 6, code := jdk_2655_method_28_code, exceptionTable := #[], attributes := #[] }
def k11m6 : Method := { name := "siftUpComparable", desc := "(ILjava/lang/Object;[Ljava/lang/Object;)V", sig := { parameters := [.int, (.object "java/lang/Object"), (.array (.object "java/lang/Object"))], returnType := none }, accessFlags := 10, code := some k11c6 }
def k11c7 : Code := { maxStack := 3, maxLocals := 9, code := jdk_2655_method_31_code, exceptionTable := #[], attributes := #[] }
def k11m7 : Method := { name := "siftDownComparable", desc := "(ILjava/lang/Object;[Ljava/lang/Object;I)V", sig := { parameters := [.int, (.object "java/lang/Object"), (.array (.object "java/lang/Object")), .int], returnType := none }, accessFlags := 10, code := some k11c7 }
/-- java/util/PriorityQueue -/
def k11 : Class := { plain "java/util/PriorityQueue" (some 9) with
  accessFlags := 33
  interfaces := #[10]
  cf := some (fileOf pool11 1 #[.nestMembers #[197, 121]] #[{ accessFlags := 1, nameIndex := 5, descriptorIndex := 11, attributes := #[] }, { accessFlags := 1, nameIndex := 5, descriptorIndex := 6, attributes := #[] }, { accessFlags := 1, nameIndex := 286, descriptorIndex := 92, attributes := #[] }, { accessFlags := 1, nameIndex := 91, descriptorIndex := 92, attributes := #[] }, { accessFlags := 1, nameIndex := 303, descriptorIndex := 196, attributes := #[] }, { accessFlags := 2, nameIndex := 102, descriptorIndex := 103, attributes := #[] }, { accessFlags := 10, nameIndex := 142, descriptorIndex := 143, attributes := #[] }, { accessFlags := 10, nameIndex := 127, descriptorIndex := 128, attributes := #[] }] 33 8 #[244] #[{ accessFlags := 26, nameIndex := 246, descriptorIndex := 247, attributes := #[] }, { accessFlags := 26, nameIndex := 251, descriptorIndex := 60, attributes := #[] }, { accessFlags := 128, nameIndex := 19, descriptorIndex := 20, attributes := #[] }, { accessFlags := 0, nameIndex := 56, descriptorIndex := 60, attributes := #[] }, { accessFlags := 18, nameIndex := 23, descriptorIndex := 24, attributes := #[] }, { accessFlags := 128, nameIndex := 95, descriptorIndex := 60, attributes := #[] }])
  fields := #[{ name := "serialVersionUID", type := .long, accessFlags := 26, slot := 0, constantValue := 0 }, { name := "DEFAULT_INITIAL_CAPACITY", type := .int, accessFlags := 26, slot := 1, constantValue := 0 }, { name := "queue", type := (.array (.object "java/lang/Object")), accessFlags := 128, slot := 0, constantValue := 0 }, { name := "size", type := .int, accessFlags := 0, slot := 1, constantValue := 0 }, { name := "comparator", type := (.object "java/util/Comparator"), accessFlags := 18, slot := 2, constantValue := 0 }, { name := "modCount", type := .int, accessFlags := 128, slot := 3, constantValue := 0 }]
  methods := #[k11m0, k11m1, k11m2, k11m3, k11m4, k11m5, k11m6, k11m7]
  instanceTypes := #[(.array (.object "java/lang/Object")), .int, (.object "java/util/Comparator"), .int]
  staticTypes := #[.long, .int]
  resolved := Array.replicate 392 none
  statics := none }

def pool12 : Array CpInfo := pool [(1, .class_ 2), (0, u "java/lang/Math"), (1, .class_ 6), (1, u "java/lang/Object"), (0, u "<init>"), (0, u "()V"), (89, .class_ 100), (1, u "java/lang/Math$RandomNumberGeneratorHolder"), (20, u "(JJ)J"), (50, u "negativeZeroFloatBits"), (0, u "J"), (2, u "negativeZeroDoubleBits"), (24, u "min"), (43, u "$assertionsDisabled"), (0, u "Z"), (91, u "twoToTheDoubleScaleDown"), (0, u "D"), (4, u "twoToTheDoubleScaleUp"), (9, u "E"), (3, u "PI"), (2, u "TAU"), (2, u "DEGREES_TO_RADIANS"), (0, u "RADIANS_TO_DEGREES")] 94

def k12m0 : Method := { name := "<init>", desc := "()V", sig := { parameters := [], returnType := none }, accessFlags := 2, code := none }
def k12c1 : Code := { maxStack := 4, maxLocals := 4, code := jdk_29_method_70_code, exceptionTable := #[], attributes := #[] }
def k12m1 : Method := { name := "min", desc := "(JJ)J", sig := { parameters := [.long, .long], returnType := some .long }, accessFlags := 9, code := some k12c1 }
/-- java/lang/Math -/
def k12 : Class := { plain "java/lang/Math" (some 0) with
  accessFlags := 49
  interfaces := #[]
  cf := some (fileOf pool12 1 #[.nestMembers #[98]] #[{ accessFlags := 2, nameIndex := 7, descriptorIndex := 8, attributes := #[] }, { accessFlags := 9, nameIndex := 201, descriptorIndex := 121, attributes := #[] }] 49 4 #[] #[{ accessFlags := 25, nameIndex := 354, descriptorIndex := 339, attributes := #[] }, { accessFlags := 25, nameIndex := 358, descriptorIndex := 339, attributes := #[] }, { accessFlags := 25, nameIndex := 361, descriptorIndex := 339, attributes := #[] }, { accessFlags := 26, nameIndex := 364, descriptorIndex := 339, attributes := #[] }, { accessFlags := 26, nameIndex := 365, descriptorIndex := 339, attributes := #[] }, { accessFlags := 26, nameIndex := 172, descriptorIndex := 173, attributes := #[] }, { accessFlags := 26, nameIndex := 176, descriptorIndex := 173, attributes := #[] }, { accessFlags := 8, nameIndex := 344, descriptorIndex := 339, attributes := #[] }, { accessFlags := 8, nameIndex := 338, descriptorIndex := 339, attributes := #[] }, { accessFlags := 4120, nameIndex := 245, descriptorIndex := 246, attributes := #[] }])
  fields := #[{ name := "E", type := .double, accessFlags := 25, slot := 0, constantValue := 0 }, { name := "PI", type := .double, accessFlags := 25, slot := 1, constantValue := 0 }, { name := "TAU", type := .double, accessFlags := 25, slot := 2, constantValue := 0 }, { name := "DEGREES_TO_RADIANS", type := .double, accessFlags := 26, slot := 3, constantValue := 0 }, { name := "RADIANS_TO_DEGREES", type := .double, accessFlags := 26, slot := 4, constantValue := 0 }, { name := "negativeZeroFloatBits", type := .long, accessFlags := 26, slot := 5, constantValue := 0 }, { name := "negativeZeroDoubleBits", type := .long, accessFlags := 26, slot := 6, constantValue := 0 }, { name := "twoToTheDoubleScaleUp", type := .double, accessFlags := 8, slot := 7, constantValue := 0 }, { name := "twoToTheDoubleScaleDown", type := .double, accessFlags := 8, slot := 8, constantValue := 0 }, { name := "$assertionsDisabled", type := .boolean, accessFlags := 4120, slot := 9, constantValue := 0 }]
  methods := #[k12m0, k12m1]
  instanceTypes := #[]
  staticTypes := #[.double, .double, .double, .double, .double, .long, .long, .double, .double, .boolean]
  resolved := Array.replicate 460 none
  statics := none }

def pool13 : Array CpInfo := pool [(2, .class_ 4), (1, u "java/lang/Object"), (0, u "<init>"), (0, u "()V"), (1, .class_ 10), (1, u "java/lang/Number"), (2, .class_ 14), (0, u "java/io/Serializable"), (0, u "serialVersionUID"), (0, u "J")] 20

def k13m0 : Method := { name := "<init>", desc := "()V", sig := { parameters := [], returnType := none }, accessFlags := 1, code := none }
/-- java/lang/Number -/
def k13 : Class := { plain "java/lang/Number" (some 0) with
  accessFlags := 1057
  interfaces := #[10]
  cf := some (fileOf pool13 8 #[] #[{ accessFlags := 1, nameIndex := 5, descriptorIndex := 6, attributes := #[] }] 1057 2 #[13] #[{ accessFlags := 26, nameIndex := 15, descriptorIndex := 16, attributes := #[] }])
  fields := #[{ name := "serialVersionUID", type := .long, accessFlags := 26, slot := 0, constantValue := 0 }]
  methods := #[k13m0]
  instanceTypes := #[]
  staticTypes := #[.long]
  resolved := Array.replicate 37 none
  statics := none }

def pool14 : Array CpInfo := pool [(1, .class_ 2), (0, u "java/lang/Comparable"), (0, .class_ 4), (0, u "java/lang/Object"), (0, u "compareTo"), (0, u "(Ljava/lang/Object;)I")] 5

def k14m0 : Method := { name := "compareTo", desc := "(Ljava/lang/Object;)I", sig := { parameters := [(.object "java/lang/Object")], returnType := some .int }, accessFlags := 1025, code := none }
/-- java/lang/Comparable -/
def k14 : Class := { plain "java/lang/Comparable" (some 0) with
  accessFlags := 1537
  interfaces := #[]
  cf := some (fileOf pool14 1 #[] #[{ accessFlags := 1025, nameIndex := 5, descriptorIndex := 6, attributes := #[] }] 1537 3 #[] #[])
  fields := #[]
  methods := #[k14m0]
  instanceTypes := #[]
  staticTypes := #[]
  resolved := Array.replicate 12 none
  statics := none }

def pool15 : Array CpInfo := pool [(1, .class_ 2), (0, u "java/lang/constant/Constable"), (0, .class_ 4), (0, u "java/lang/Object")] 6

/-- java/lang/constant/Constable -/
def k15 : Class := { plain "java/lang/constant/Constable" (some 0) with
  accessFlags := 1537
  interfaces := #[]
  cf := some (fileOf pool15 1 #[] #[] 1537 3 #[] #[])
  fields := #[]
  methods := #[]
  instanceTypes := #[]
  staticTypes := #[]
  resolved := Array.replicate 11 none
  statics := none }

def pool16 : Array CpInfo := pool [(1, .class_ 2), (0, u "java/lang/constant/ConstantDesc"), (0, .class_ 4), (0, u "java/lang/Object")] 32

/-- java/lang/constant/ConstantDesc -/
def k16 : Class := { plain "java/lang/constant/ConstantDesc" (some 0) with
  accessFlags := 1537
  interfaces := #[]
  cf := some (fileOf pool16 1 #[] #[] 1537 3 #[] #[])
  fields := #[]
  methods := #[]
  instanceTypes := #[]
  staticTypes := #[]
  resolved := Array.replicate 37 none
  statics := none }

def pool17 : Array CpInfo := pool [(1, .class_ 2), (0, u "java/lang/Long"), (82, u "valueOf"), (143, u "(J)Ljava/lang/Long;"), (0, .long 18446744073709551488), (1, .long 127), (1, .fieldref 235 236), (0, .class_ 237), (0, .nameAndType 238 239), (0, u "java/lang/Long$LongCache"), (0, u "cache"), (0, u "[Ljava/lang/Long;"), (31, .class_ 272), (0, u "java/lang/Number"), (0, .fieldref 1 274), (0, .nameAndType 275 276), (0, u "value"), (0, u "J"), (5, u "longValue"), (0, u "()J"), (18, .methodref 1 303), (0, .nameAndType 304 305), (0, u "compare"), (0, u "(JJ)I"), (37, .methodref 1 344), (0, .nameAndType 345 346), (0, u "compareTo"), (0, u "(Ljava/lang/Long;)I"), (14, u "TYPE"), (0, u "Ljava/lang/Class;"), (0, .class_ 364), (0, u "java/lang/Comparable"), (0, .class_ 366), (0, u "java/lang/constant/Constable"), (0, .class_ 368), (0, u "java/lang/constant/ConstantDesc"), (0, u "MIN_VALUE"), (1, u "MAX_VALUE"), (4, u "SIZE"), (0, u "I"), (1, u "BYTES"), (1, u "serialVersionUID"), (124, u "(Ljava/lang/Object;)I")] 17

def k17c0 : Code := { maxStack := 4, maxLocals := 3, code := jdk_35_method_24_code, exceptionTable := #[], attributes := #[] }
def k17m0 : Method := { name := "valueOf", desc := "(J)Ljava/lang/Long;", sig := { parameters := [.long], returnType := some (.object "java/lang/Long") }, accessFlags := 9, code := some k17c0 }
def k17c1 : Code := { maxStack := 2, maxLocals := 1, code := jdk_35_method_31_code, exceptionTable := #[], attributes := #[] }
def k17m1 : Method := { name := "longValue", desc := "()J", sig := { parameters := [], returnType := some .long }, accessFlags := 1, code := some k17c1 }
def k17c2 : Code := { maxStack := 4, maxLocals := 2, code := jdk_35_method_41_code, exceptionTable := #[], attributes := #[] }
def k17m2 : Method := { name := "compareTo", desc := "(Ljava/lang/Long;)I", sig := { parameters := [(.object "java/lang/Long")], returnType := some .int }, accessFlags := 1, code := some k17c2 }
def k17c3 : Code := { maxStack := 4, maxLocals := 4, code := jdk_35_method_42_code, exceptionTable := #[], attributes := #[] }
def k17m3 : Method := { name := "compare", desc := "(JJ)I", sig := { parameters := [.long, .long], returnType := some .int }, accessFlags := 9, code := some k17c3 }
def k17c4 : Code := { maxStack := 2, maxLocals := 2, code := jdk_35_method_64_code, exceptionTable := #[], attributes := #[] }
def k17m4 : Method := { name := "compareTo", desc := "(Ljava/lang/Object;)I", sig := { parameters := [(.object "java/lang/Object")], returnType := some .int }, accessFlags := 4161, code := some k17c4 }
/-- java/lang/Long -/
def k17 : Class := { plain "java/lang/Long" (some 13) with
  accessFlags := 49
  interfaces := #[14, 15, 16]
  cf := some (fileOf pool17 1 #[.nestMembers #[235]] #[{ accessFlags := 9, nameIndex := 85, descriptorIndex := 229, attributes := #[] }, { accessFlags := 1, nameIndex := 282, descriptorIndex := 283, attributes := #[] }, { accessFlags := 1, nameIndex := 345, descriptorIndex := 346, attributes := #[] }, { accessFlags := 9, nameIndex := 304, descriptorIndex := 305, attributes := #[] }, { accessFlags := 4161, nameIndex := 345, descriptorIndex := 506, attributes := #[] }] 49 271 #[363, 365, 367] #[{ accessFlags := 25, nameIndex := 369, descriptorIndex := 276, attributes := #[] }, { accessFlags := 25, nameIndex := 371, descriptorIndex := 276, attributes := #[] }, { accessFlags := 25, nameIndex := 361, descriptorIndex := 362, attributes := #[] }, { accessFlags := 18, nameIndex := 275, descriptorIndex := 276, attributes := #[] }, { accessFlags := 25, nameIndex := 376, descriptorIndex := 377, attributes := #[] }, { accessFlags := 25, nameIndex := 379, descriptorIndex := 377, attributes := #[] }, { accessFlags := 26, nameIndex := 381, descriptorIndex := 276, attributes := #[] }])
  fields := #[{ name := "MIN_VALUE", type := .long, accessFlags := 25, slot := 0, constantValue := 0 }, { name := "MAX_VALUE", type := .long, accessFlags := 25, slot := 1, constantValue := 0 }, { name := "TYPE", type := (.object "java/lang/Class"), accessFlags := 25, slot := 2, constantValue := 0 }, { name := "value", type := .long, accessFlags := 18, slot := 0, constantValue := 0 }, { name := "SIZE", type := .int, accessFlags := 25, slot := 3, constantValue := 0 }, { name := "BYTES", type := .int, accessFlags := 25, slot := 4, constantValue := 0 }, { name := "serialVersionUID", type := .long, accessFlags := 26, slot := 5, constantValue := 0 }]
  methods := #[k17m0, k17m1, k17m2, k17m3, k17m4]
  instanceTypes := #[.long]
  staticTypes := #[.long, .long, (.object "java/lang/Class"), .int, .int, .long]
  resolved := Array.replicate 524 none
  statics := none }

def pool18 : Array CpInfo := pool [(2, .class_ 4), (1, u "java/lang/Object"), (0, u "<init>"), (0, u "()V"), (0, .class_ 8), (0, u "java/lang/Long"), (7, .class_ 18), (1, u "java/lang/Long$LongCache"), (0, u "$assertionsDisabled"), (0, u "Z"), (8, u "archivedCache"), (0, u "[Ljava/lang/Long;"), (7, u "cache")] 24

def k18m0 : Method := { name := "<init>", desc := "()V", sig := { parameters := [], returnType := none }, accessFlags := 2, code := none }
/-- java/lang/Long$LongCache -/
def k18 : Class := { plain "java/lang/Long$LongCache" (some 0) with
  accessFlags := 48
  interfaces := #[]
  cf := some (fileOf pool18 16 #[.nestHost 7] #[{ accessFlags := 2, nameIndex := 5, descriptorIndex := 6, attributes := #[] }] 48 2 #[] #[{ accessFlags := 24, nameIndex := 38, descriptorIndex := 30, attributes := #[] }, { accessFlags := 8, nameIndex := 29, descriptorIndex := 30, attributes := #[] }, { accessFlags := 4120, nameIndex := 19, descriptorIndex := 20, attributes := #[] }])
  fields := #[{ name := "cache", type := (.array (.object "java/lang/Long")), accessFlags := 24, slot := 0, constantValue := 0 }, { name := "archivedCache", type := (.array (.object "java/lang/Long")), accessFlags := 8, slot := 1, constantValue := 0 }, { name := "$assertionsDisabled", type := .boolean, accessFlags := 4120, slot := 2, constantValue := 0 }]
  methods := #[k18m0]
  instanceTypes := #[]
  staticTypes := #[(.array (.object "java/lang/Long")), (.array (.object "java/lang/Long")), .boolean]
  resolved := Array.replicate 63 none
  statics := some 0 }

def pool19 : Array CpInfo := pool [(1, u "java/lang/Cloneable"), (0, .class_ 1), (0, u "java/lang/Object"), (0, .class_ 3)] 3

/-- java/lang/Cloneable -/
def k19 : Class := { plain "java/lang/Cloneable" (some 0) with
  accessFlags := 1537
  interfaces := #[]
  cf := some (fileOf pool19 2 #[] #[] 1537 4 #[] #[])
  fields := #[]
  methods := #[]
  instanceTypes := #[]
  staticTypes := #[]
  resolved := Array.replicate 8 none
  statics := none }

/-- the primitive boolean -/
def k20 : Class := { plain "boolean" none with kind := .primitive 'Z', accessFlags := 0x411 }
/-- [Z -/
def k21 : Class := { plain "[Z" (some 0) with kind := .array 20 .boolean, interfaces := #[19, 10], accessFlags := 1041 }

/-- the primitive byte -/
def k22 : Class := { plain "byte" none with kind := .primitive 'B', accessFlags := 0x411 }
/-- [B -/
def k23 : Class := { plain "[B" (some 0) with kind := .array 22 .byte, interfaces := #[19, 10], accessFlags := 1041 }

/-- the primitive int -/
def k24 : Class := { plain "int" none with kind := .primitive 'I', accessFlags := 0x411 }
/-- [I -/
def k25 : Class := { plain "[I" (some 0) with kind := .array 24 .int, interfaces := #[19, 10], accessFlags := 1041 }

/-- the primitive long -/
def k26 : Class := { plain "long" none with kind := .primitive 'J', accessFlags := 0x411 }
/-- [J -/
def k27 : Class := { plain "[J" (some 0) with kind := .array 26 .long, interfaces := #[19, 10], accessFlags := 1041 }

/-- [Ljava/lang/Long; -/
def k28 : Class := { plain "[Ljava/lang/Long;" (some 0) with kind := .array 17 (.object "java/lang/Long"), interfaces := #[19, 10], accessFlags := 1041 }

/-- [Ljava/lang/Object; -/
def k29 : Class := { plain "[Ljava/lang/Object;" (some 0) with kind := .array 0 (.object "java/lang/Object"), interfaces := #[19, 10], accessFlags := 1041 }

def k30 : Class := { plain "double" none with kind := .primitive 'D', accessFlags := 0x411 }
def k31 : Class := { plain "[D" (some 0) with kind := .array 30 .double, interfaces := #[19, 10], accessFlags := 1041 }
def k32 : Class := { plain "[[I" (some 0) with kind := .array 25 (.array .int), interfaces := #[19, 10], accessFlags := 1041 }
def k33 : Class := { plain "[[D" (some 0) with kind := .array 31 (.array .double), interfaces := #[19, 10], accessFlags := 1041 }
def heap : Heap := #[{ cls := 18, slots := #[.ref 1, .null, .int 0], vm := .statics 18 },
  { cls := 28, slots := #[.ref 2, .ref 3, .ref 4, .ref 5, .ref 6, .ref 7, .ref 8, .ref 9, .ref 10, .ref 11, .ref 12, .ref 13, .ref 14, .ref 15, .ref 16, .ref 17, .ref 18, .ref 19, .ref 20, .ref 21, .ref 22, .ref 23, .ref 24, .ref 25, .ref 26, .ref 27, .ref 28, .ref 29, .ref 30, .ref 31, .ref 32, .ref 33, .ref 34, .ref 35, .ref 36, .ref 37, .ref 38, .ref 39, .ref 40, .ref 41, .ref 42, .ref 43, .ref 44, .ref 45, .ref 46, .ref 47, .ref 48, .ref 49, .ref 50, .ref 51, .ref 52, .ref 53, .ref 54, .ref 55, .ref 56, .ref 57, .ref 58, .ref 59, .ref 60, .ref 61, .ref 62, .ref 63, .ref 64, .ref 65, .ref 66, .ref 67, .ref 68, .ref 69, .ref 70, .ref 71, .ref 72, .ref 73, .ref 74, .ref 75, .ref 76, .ref 77, .ref 78, .ref 79, .ref 80, .ref 81, .ref 82, .ref 83, .ref 84, .ref 85, .ref 86, .ref 87, .ref 88, .ref 89, .ref 90, .ref 91, .ref 92, .ref 93, .ref 94, .ref 95, .ref 96, .ref 97, .ref 98, .ref 99, .ref 100, .ref 101, .ref 102, .ref 103, .ref 104, .ref 105, .ref 106, .ref 107, .ref 108, .ref 109, .ref 110, .ref 111, .ref 112, .ref 113, .ref 114, .ref 115, .ref 116, .ref 117, .ref 118, .ref 119, .ref 120, .ref 121, .ref 122, .ref 123, .ref 124, .ref 125, .ref 126, .ref 127, .ref 128, .ref 129, .ref 130, .ref 131, .ref 132, .ref 133, .ref 134, .ref 135, .ref 136, .ref 137, .ref 138, .ref 139, .ref 140, .ref 141, .ref 142, .ref 143, .ref 144, .ref 145, .ref 146, .ref 147, .ref 148, .ref 149, .ref 150, .ref 151, .ref 152, .ref 153, .ref 154, .ref 155, .ref 156, .ref 157, .ref 158, .ref 159, .ref 160, .ref 161, .ref 162, .ref 163, .ref 164, .ref 165, .ref 166, .ref 167, .ref 168, .ref 169, .ref 170, .ref 171, .ref 172, .ref 173, .ref 174, .ref 175, .ref 176, .ref 177, .ref 178, .ref 179, .ref 180, .ref 181, .ref 182, .ref 183, .ref 184, .ref 185, .ref 186, .ref 187, .ref 188, .ref 189, .ref 190, .ref 191, .ref 192, .ref 193, .ref 194, .ref 195, .ref 196, .ref 197, .ref 198, .ref 199, .ref 200, .ref 201, .ref 202, .ref 203, .ref 204, .ref 205, .ref 206, .ref 207, .ref 208, .ref 209, .ref 210, .ref 211, .ref 212, .ref 213, .ref 214, .ref 215, .ref 216, .ref 217, .ref 218, .ref 219, .ref 220, .ref 221, .ref 222, .ref 223, .ref 224, .ref 225, .ref 226, .ref 227, .ref 228, .ref 229, .ref 230, .ref 231, .ref 232, .ref 233, .ref 234, .ref 235, .ref 236, .ref 237, .ref 238, .ref 239, .ref 240, .ref 241, .ref 242, .ref 243, .ref 244, .ref 245, .ref 246, .ref 247, .ref 248, .ref 249, .ref 250, .ref 251, .ref 252, .ref 253, .ref 254, .ref 255, .ref 256, .ref 257], vm := .none },
  { cls := 17, slots := #[.long (-128)], vm := .none },
  { cls := 17, slots := #[.long (-127)], vm := .none },
  { cls := 17, slots := #[.long (-126)], vm := .none },
  { cls := 17, slots := #[.long (-125)], vm := .none },
  { cls := 17, slots := #[.long (-124)], vm := .none },
  { cls := 17, slots := #[.long (-123)], vm := .none },
  { cls := 17, slots := #[.long (-122)], vm := .none },
  { cls := 17, slots := #[.long (-121)], vm := .none },
  { cls := 17, slots := #[.long (-120)], vm := .none },
  { cls := 17, slots := #[.long (-119)], vm := .none },
  { cls := 17, slots := #[.long (-118)], vm := .none },
  { cls := 17, slots := #[.long (-117)], vm := .none },
  { cls := 17, slots := #[.long (-116)], vm := .none },
  { cls := 17, slots := #[.long (-115)], vm := .none },
  { cls := 17, slots := #[.long (-114)], vm := .none },
  { cls := 17, slots := #[.long (-113)], vm := .none },
  { cls := 17, slots := #[.long (-112)], vm := .none },
  { cls := 17, slots := #[.long (-111)], vm := .none },
  { cls := 17, slots := #[.long (-110)], vm := .none },
  { cls := 17, slots := #[.long (-109)], vm := .none },
  { cls := 17, slots := #[.long (-108)], vm := .none },
  { cls := 17, slots := #[.long (-107)], vm := .none },
  { cls := 17, slots := #[.long (-106)], vm := .none },
  { cls := 17, slots := #[.long (-105)], vm := .none },
  { cls := 17, slots := #[.long (-104)], vm := .none },
  { cls := 17, slots := #[.long (-103)], vm := .none },
  { cls := 17, slots := #[.long (-102)], vm := .none },
  { cls := 17, slots := #[.long (-101)], vm := .none },
  { cls := 17, slots := #[.long (-100)], vm := .none },
  { cls := 17, slots := #[.long (-99)], vm := .none },
  { cls := 17, slots := #[.long (-98)], vm := .none },
  { cls := 17, slots := #[.long (-97)], vm := .none },
  { cls := 17, slots := #[.long (-96)], vm := .none },
  { cls := 17, slots := #[.long (-95)], vm := .none },
  { cls := 17, slots := #[.long (-94)], vm := .none },
  { cls := 17, slots := #[.long (-93)], vm := .none },
  { cls := 17, slots := #[.long (-92)], vm := .none },
  { cls := 17, slots := #[.long (-91)], vm := .none },
  { cls := 17, slots := #[.long (-90)], vm := .none },
  { cls := 17, slots := #[.long (-89)], vm := .none },
  { cls := 17, slots := #[.long (-88)], vm := .none },
  { cls := 17, slots := #[.long (-87)], vm := .none },
  { cls := 17, slots := #[.long (-86)], vm := .none },
  { cls := 17, slots := #[.long (-85)], vm := .none },
  { cls := 17, slots := #[.long (-84)], vm := .none },
  { cls := 17, slots := #[.long (-83)], vm := .none },
  { cls := 17, slots := #[.long (-82)], vm := .none },
  { cls := 17, slots := #[.long (-81)], vm := .none },
  { cls := 17, slots := #[.long (-80)], vm := .none },
  { cls := 17, slots := #[.long (-79)], vm := .none },
  { cls := 17, slots := #[.long (-78)], vm := .none },
  { cls := 17, slots := #[.long (-77)], vm := .none },
  { cls := 17, slots := #[.long (-76)], vm := .none },
  { cls := 17, slots := #[.long (-75)], vm := .none },
  { cls := 17, slots := #[.long (-74)], vm := .none },
  { cls := 17, slots := #[.long (-73)], vm := .none },
  { cls := 17, slots := #[.long (-72)], vm := .none },
  { cls := 17, slots := #[.long (-71)], vm := .none },
  { cls := 17, slots := #[.long (-70)], vm := .none },
  { cls := 17, slots := #[.long (-69)], vm := .none },
  { cls := 17, slots := #[.long (-68)], vm := .none },
  { cls := 17, slots := #[.long (-67)], vm := .none },
  { cls := 17, slots := #[.long (-66)], vm := .none },
  { cls := 17, slots := #[.long (-65)], vm := .none },
  { cls := 17, slots := #[.long (-64)], vm := .none },
  { cls := 17, slots := #[.long (-63)], vm := .none },
  { cls := 17, slots := #[.long (-62)], vm := .none },
  { cls := 17, slots := #[.long (-61)], vm := .none },
  { cls := 17, slots := #[.long (-60)], vm := .none },
  { cls := 17, slots := #[.long (-59)], vm := .none },
  { cls := 17, slots := #[.long (-58)], vm := .none },
  { cls := 17, slots := #[.long (-57)], vm := .none },
  { cls := 17, slots := #[.long (-56)], vm := .none },
  { cls := 17, slots := #[.long (-55)], vm := .none },
  { cls := 17, slots := #[.long (-54)], vm := .none },
  { cls := 17, slots := #[.long (-53)], vm := .none },
  { cls := 17, slots := #[.long (-52)], vm := .none },
  { cls := 17, slots := #[.long (-51)], vm := .none },
  { cls := 17, slots := #[.long (-50)], vm := .none },
  { cls := 17, slots := #[.long (-49)], vm := .none },
  { cls := 17, slots := #[.long (-48)], vm := .none },
  { cls := 17, slots := #[.long (-47)], vm := .none },
  { cls := 17, slots := #[.long (-46)], vm := .none },
  { cls := 17, slots := #[.long (-45)], vm := .none },
  { cls := 17, slots := #[.long (-44)], vm := .none },
  { cls := 17, slots := #[.long (-43)], vm := .none },
  { cls := 17, slots := #[.long (-42)], vm := .none },
  { cls := 17, slots := #[.long (-41)], vm := .none },
  { cls := 17, slots := #[.long (-40)], vm := .none },
  { cls := 17, slots := #[.long (-39)], vm := .none },
  { cls := 17, slots := #[.long (-38)], vm := .none },
  { cls := 17, slots := #[.long (-37)], vm := .none },
  { cls := 17, slots := #[.long (-36)], vm := .none },
  { cls := 17, slots := #[.long (-35)], vm := .none },
  { cls := 17, slots := #[.long (-34)], vm := .none },
  { cls := 17, slots := #[.long (-33)], vm := .none },
  { cls := 17, slots := #[.long (-32)], vm := .none },
  { cls := 17, slots := #[.long (-31)], vm := .none },
  { cls := 17, slots := #[.long (-30)], vm := .none },
  { cls := 17, slots := #[.long (-29)], vm := .none },
  { cls := 17, slots := #[.long (-28)], vm := .none },
  { cls := 17, slots := #[.long (-27)], vm := .none },
  { cls := 17, slots := #[.long (-26)], vm := .none },
  { cls := 17, slots := #[.long (-25)], vm := .none },
  { cls := 17, slots := #[.long (-24)], vm := .none },
  { cls := 17, slots := #[.long (-23)], vm := .none },
  { cls := 17, slots := #[.long (-22)], vm := .none },
  { cls := 17, slots := #[.long (-21)], vm := .none },
  { cls := 17, slots := #[.long (-20)], vm := .none },
  { cls := 17, slots := #[.long (-19)], vm := .none },
  { cls := 17, slots := #[.long (-18)], vm := .none },
  { cls := 17, slots := #[.long (-17)], vm := .none },
  { cls := 17, slots := #[.long (-16)], vm := .none },
  { cls := 17, slots := #[.long (-15)], vm := .none },
  { cls := 17, slots := #[.long (-14)], vm := .none },
  { cls := 17, slots := #[.long (-13)], vm := .none },
  { cls := 17, slots := #[.long (-12)], vm := .none },
  { cls := 17, slots := #[.long (-11)], vm := .none },
  { cls := 17, slots := #[.long (-10)], vm := .none },
  { cls := 17, slots := #[.long (-9)], vm := .none },
  { cls := 17, slots := #[.long (-8)], vm := .none },
  { cls := 17, slots := #[.long (-7)], vm := .none },
  { cls := 17, slots := #[.long (-6)], vm := .none },
  { cls := 17, slots := #[.long (-5)], vm := .none },
  { cls := 17, slots := #[.long (-4)], vm := .none },
  { cls := 17, slots := #[.long (-3)], vm := .none },
  { cls := 17, slots := #[.long (-2)], vm := .none },
  { cls := 17, slots := #[.long (-1)], vm := .none },
  { cls := 17, slots := #[.long (0)], vm := .none },
  { cls := 17, slots := #[.long (1)], vm := .none },
  { cls := 17, slots := #[.long (2)], vm := .none },
  { cls := 17, slots := #[.long (3)], vm := .none },
  { cls := 17, slots := #[.long (4)], vm := .none },
  { cls := 17, slots := #[.long (5)], vm := .none },
  { cls := 17, slots := #[.long (6)], vm := .none },
  { cls := 17, slots := #[.long (7)], vm := .none },
  { cls := 17, slots := #[.long (8)], vm := .none },
  { cls := 17, slots := #[.long (9)], vm := .none },
  { cls := 17, slots := #[.long (10)], vm := .none },
  { cls := 17, slots := #[.long (11)], vm := .none },
  { cls := 17, slots := #[.long (12)], vm := .none },
  { cls := 17, slots := #[.long (13)], vm := .none },
  { cls := 17, slots := #[.long (14)], vm := .none },
  { cls := 17, slots := #[.long (15)], vm := .none },
  { cls := 17, slots := #[.long (16)], vm := .none },
  { cls := 17, slots := #[.long (17)], vm := .none },
  { cls := 17, slots := #[.long (18)], vm := .none },
  { cls := 17, slots := #[.long (19)], vm := .none },
  { cls := 17, slots := #[.long (20)], vm := .none },
  { cls := 17, slots := #[.long (21)], vm := .none },
  { cls := 17, slots := #[.long (22)], vm := .none },
  { cls := 17, slots := #[.long (23)], vm := .none },
  { cls := 17, slots := #[.long (24)], vm := .none },
  { cls := 17, slots := #[.long (25)], vm := .none },
  { cls := 17, slots := #[.long (26)], vm := .none },
  { cls := 17, slots := #[.long (27)], vm := .none },
  { cls := 17, slots := #[.long (28)], vm := .none },
  { cls := 17, slots := #[.long (29)], vm := .none },
  { cls := 17, slots := #[.long (30)], vm := .none },
  { cls := 17, slots := #[.long (31)], vm := .none },
  { cls := 17, slots := #[.long (32)], vm := .none },
  { cls := 17, slots := #[.long (33)], vm := .none },
  { cls := 17, slots := #[.long (34)], vm := .none },
  { cls := 17, slots := #[.long (35)], vm := .none },
  { cls := 17, slots := #[.long (36)], vm := .none },
  { cls := 17, slots := #[.long (37)], vm := .none },
  { cls := 17, slots := #[.long (38)], vm := .none },
  { cls := 17, slots := #[.long (39)], vm := .none },
  { cls := 17, slots := #[.long (40)], vm := .none },
  { cls := 17, slots := #[.long (41)], vm := .none },
  { cls := 17, slots := #[.long (42)], vm := .none },
  { cls := 17, slots := #[.long (43)], vm := .none },
  { cls := 17, slots := #[.long (44)], vm := .none },
  { cls := 17, slots := #[.long (45)], vm := .none },
  { cls := 17, slots := #[.long (46)], vm := .none },
  { cls := 17, slots := #[.long (47)], vm := .none },
  { cls := 17, slots := #[.long (48)], vm := .none },
  { cls := 17, slots := #[.long (49)], vm := .none },
  { cls := 17, slots := #[.long (50)], vm := .none },
  { cls := 17, slots := #[.long (51)], vm := .none },
  { cls := 17, slots := #[.long (52)], vm := .none },
  { cls := 17, slots := #[.long (53)], vm := .none },
  { cls := 17, slots := #[.long (54)], vm := .none },
  { cls := 17, slots := #[.long (55)], vm := .none },
  { cls := 17, slots := #[.long (56)], vm := .none },
  { cls := 17, slots := #[.long (57)], vm := .none },
  { cls := 17, slots := #[.long (58)], vm := .none },
  { cls := 17, slots := #[.long (59)], vm := .none },
  { cls := 17, slots := #[.long (60)], vm := .none },
  { cls := 17, slots := #[.long (61)], vm := .none },
  { cls := 17, slots := #[.long (62)], vm := .none },
  { cls := 17, slots := #[.long (63)], vm := .none },
  { cls := 17, slots := #[.long (64)], vm := .none },
  { cls := 17, slots := #[.long (65)], vm := .none },
  { cls := 17, slots := #[.long (66)], vm := .none },
  { cls := 17, slots := #[.long (67)], vm := .none },
  { cls := 17, slots := #[.long (68)], vm := .none },
  { cls := 17, slots := #[.long (69)], vm := .none },
  { cls := 17, slots := #[.long (70)], vm := .none },
  { cls := 17, slots := #[.long (71)], vm := .none },
  { cls := 17, slots := #[.long (72)], vm := .none },
  { cls := 17, slots := #[.long (73)], vm := .none },
  { cls := 17, slots := #[.long (74)], vm := .none },
  { cls := 17, slots := #[.long (75)], vm := .none },
  { cls := 17, slots := #[.long (76)], vm := .none },
  { cls := 17, slots := #[.long (77)], vm := .none },
  { cls := 17, slots := #[.long (78)], vm := .none },
  { cls := 17, slots := #[.long (79)], vm := .none },
  { cls := 17, slots := #[.long (80)], vm := .none },
  { cls := 17, slots := #[.long (81)], vm := .none },
  { cls := 17, slots := #[.long (82)], vm := .none },
  { cls := 17, slots := #[.long (83)], vm := .none },
  { cls := 17, slots := #[.long (84)], vm := .none },
  { cls := 17, slots := #[.long (85)], vm := .none },
  { cls := 17, slots := #[.long (86)], vm := .none },
  { cls := 17, slots := #[.long (87)], vm := .none },
  { cls := 17, slots := #[.long (88)], vm := .none },
  { cls := 17, slots := #[.long (89)], vm := .none },
  { cls := 17, slots := #[.long (90)], vm := .none },
  { cls := 17, slots := #[.long (91)], vm := .none },
  { cls := 17, slots := #[.long (92)], vm := .none },
  { cls := 17, slots := #[.long (93)], vm := .none },
  { cls := 17, slots := #[.long (94)], vm := .none },
  { cls := 17, slots := #[.long (95)], vm := .none },
  { cls := 17, slots := #[.long (96)], vm := .none },
  { cls := 17, slots := #[.long (97)], vm := .none },
  { cls := 17, slots := #[.long (98)], vm := .none },
  { cls := 17, slots := #[.long (99)], vm := .none },
  { cls := 17, slots := #[.long (100)], vm := .none },
  { cls := 17, slots := #[.long (101)], vm := .none },
  { cls := 17, slots := #[.long (102)], vm := .none },
  { cls := 17, slots := #[.long (103)], vm := .none },
  { cls := 17, slots := #[.long (104)], vm := .none },
  { cls := 17, slots := #[.long (105)], vm := .none },
  { cls := 17, slots := #[.long (106)], vm := .none },
  { cls := 17, slots := #[.long (107)], vm := .none },
  { cls := 17, slots := #[.long (108)], vm := .none },
  { cls := 17, slots := #[.long (109)], vm := .none },
  { cls := 17, slots := #[.long (110)], vm := .none },
  { cls := 17, slots := #[.long (111)], vm := .none },
  { cls := 17, slots := #[.long (112)], vm := .none },
  { cls := 17, slots := #[.long (113)], vm := .none },
  { cls := 17, slots := #[.long (114)], vm := .none },
  { cls := 17, slots := #[.long (115)], vm := .none },
  { cls := 17, slots := #[.long (116)], vm := .none },
  { cls := 17, slots := #[.long (117)], vm := .none },
  { cls := 17, slots := #[.long (118)], vm := .none },
  { cls := 17, slots := #[.long (119)], vm := .none },
  { cls := 17, slots := #[.long (120)], vm := .none },
  { cls := 17, slots := #[.long (121)], vm := .none },
  { cls := 17, slots := #[.long (122)], vm := .none },
  { cls := 17, slots := #[.long (123)], vm := .none },
  { cls := 17, slots := #[.long (124)], vm := .none },
  { cls := 17, slots := #[.long (125)], vm := .none },
  { cls := 17, slots := #[.long (126)], vm := .none },
  { cls := 17, slots := #[.long (127)], vm := .none }]
def classes : Array Class := #[k0, k1, k2, k3, k4, k5, k6, k7, k8, k9, k10, k11, k12, k13, k14, k15, k16, k17, k18, k19, k20, k21, k22, k23, k24, k25, k26, k27, k28, k29, k30, k31, k32, k33]
def interned : List (Array UInt16 × Addr) := []
def slotsUsed : Nat := 515
def theMethod : MethodId := ⟨1, 1⟩
def args0 : Array Value := #[.int 1, .int 2, .int 3, .int 4, .int 5, .int 6]
def aboutOver (below : List Frame) : State where
  vm := { classes := classes, interned := interned.toArray }
  heap := heap
  slotsUsed := slotsUsed
  threads := #[{ frames := .invoking theMethod args0 :: below }]
def below0 : List Frame := [.native { method := ⟨0, 0⟩, args := #[] }]
def about1 : State := aboutOver below0
def p0 : Program := .bare "" "" ""
def e0 : Env := launch0.env 0 0 0
theorem w_frames : about1.frames = Frame.invoking theMethod args0 :: below0 := rfl
set_option maxRecDepth 65536 in
theorem w_args : argsFit about1.vm theMethod args0 = true := by decide +kernel
set_option maxRecDepth 65536 in
theorem w_heap : heapFits about1 = true := by decide +kernel
set_option maxRecDepth 65536 in
theorem w_runnable : about1.curStatus? = some .runnable := by decide +kernel
set_option maxRecDepth 65536 in
theorem w_alone : about1.alone = true := by decide +kernel
set_option maxRecDepth 65536 in
theorem w_named : about1.methodNamed? x = some theMethod := by decide +kernel
set_option maxRecDepth 65536 in
theorem w_hears : about1.hears theMethod below0 = true := by decide +kernel
set_option maxRecDepth 65536 in
theorem w_ripe : about1.ripe theMethod args0 below0 = true := by decide +kernel
theorem w_running : about1.status = .running := rfl
set_option maxRecDepth 65536 in
theorem w_room : about1.hasRoom e0.platform room_1 = true :=
  launch0.hasRoom_least _ room_1 (by decide +kernel) (by decide +kernel) (by decide +kernel) (by decide +kernel) (by decide +kernel) (by decide +kernel)
theorem allAtoms_all (ts : List Jvm.Cond) (a : Array Jvm.Value) (st : Jvm.State) : (allAtoms ts).before a st = ts.all (fun c => c.before a st) := by
  induction ts with
  | nil => rfl
  | cons c t ih =>
    show (Jvm.Cond.and c (allAtoms t)).before a st = _
    rw [Jvm.Cond.before_and, ih, List.all_cons]
def words1 : List Jvm.Cond := Jvm.Cond.code x code maxLocals ret :: tables_1
/-- a 'code' word, met by the world's own term for the bytes: nothing is compared byte by byte -/
theorem code_word {y : MethodName} {bytes : ByteArray} {mx : Nat} {rt : Option FieldType} {a : Array Value} {s : State} {m : MethodId} {meth : Method} {c : Code} (h1 : s.methodNamed? y = some m) (h2 : s.vm.method? m = some meth) (h3 : meth.code = some c) (h4 : c.code = bytes)
    (h5 : (c.maxLocals == mx && c.exceptionTable.isEmpty && decide (c.maxStack ≤ mostOperands) && decide (meth.sig.returnType = rt) && !meth.locks && decide (parseMethodDescriptor y.desc = some meth.sig)) = true) : (Jvm.Cond.code y bytes mx rt).before a s = true := by
  simp only [Bool.and_eq_true, beq_iff_eq, Bool.not_eq_true', decide_eq_true_eq] at h5
  obtain ⟨⟨⟨⟨⟨g1, g2⟩, g3⟩, g4⟩, g5⟩, g6⟩ := h5
  simp [Cond.before, Cond.holds, Cond.value, h1, h2, h3, h4, g1, g2, g3, g4, g5, g6]
def isCode : Jvm.Cond → Bool
  | .code _ _ _ _ => true
  | _ => false
theorem all_split {L : List Jvm.Cond} {P : Jvm.Cond → Bool} (h1 : L.all (fun c => isCode c || P c) = true) (h2 : ∀ c ∈ L.filter isCode, P c = true) : L.all P = true := by
  refine List.all_eq_true.mpr fun c hc => ?_
  have h := List.all_eq_true.mp h1 c hc
  rcases Bool.eq_false_or_eq_true (isCode c) with hi | hi
  · exact h2 c (List.mem_filter.mpr ⟨hc, hi⟩)
  · simpa [hi] using h
set_option maxRecDepth 65536 in
theorem w_c0 : (Jvm.Cond.code x code maxLocals ret).before args0 about1 = true := code_word (m := ⟨1, 1⟩) (meth := k1m1) (c := k1c1) (by decide +kernel) rfl rfl rfl (by decide +kernel)
set_option maxRecDepth 65536 in
theorem w_c1 : (Jvm.Cond.code ({ cls := "com/example/hold/hold/check/ComponentSolver", name := "<init>", desc := "(I)V" } : Jvm.MethodName) prog_35_method_1_code (3 : Nat) (Option.none : Option Jvm.ClassFile.FieldType)).before args0 about1 = true := code_word (m := ⟨2, 0⟩) (meth := k2m0) (c := k2c0) (by decide +kernel) rfl rfl rfl (by decide +kernel)
set_option maxRecDepth 65536 in
theorem w_c2 : (Jvm.Cond.code ({ cls := "java/lang/Object", name := "<init>", desc := "()V" } : Jvm.MethodName) object_method_1_code (1 : Nat) (Option.none : Option Jvm.ClassFile.FieldType)).before args0 about1 = true := code_word (m := ⟨0, 0⟩) (meth := k0m0) (c := k0c0) (by decide +kernel) rfl rfl rfl (by decide +kernel)
set_option maxRecDepth 65536 in
theorem w_c3 : (Jvm.Cond.code ({ cls := "com/example/hold/hold/check/ComponentSolver", name := "addExit", desc := "(IDD)V" } : Jvm.MethodName) prog_35_method_4_code (6 : Nat) (Option.none : Option Jvm.ClassFile.FieldType)).before args0 about1 = true := code_word (m := ⟨2, 1⟩) (meth := k2m1) (c := k2c1) (by decide +kernel) rfl rfl rfl (by decide +kernel)
set_option maxRecDepth 65536 in
theorem w_c4 : (Jvm.Cond.code ({ cls := "com/example/hold/hold/check/ComponentSolver", name := "addSurplus", desc := "(ID)V" } : Jvm.MethodName) prog_35_method_6_code (4 : Nat) (Option.none : Option Jvm.ClassFile.FieldType)).before args0 about1 = true := code_word (m := ⟨2, 2⟩) (meth := k2m2) (c := k2c2) (by decide +kernel) rfl rfl rfl (by decide +kernel)
set_option maxRecDepth 65536 in
theorem w_c5 : (Jvm.Cond.code ({ cls := "com/example/hold/hold/check/ComponentSolver", name := "solve", desc := "()[D" } : Jvm.MethodName) prog_35_method_7_code (12 : Nat) (Option.some (Jvm.ClassFile.FieldType.array Jvm.ClassFile.FieldType.double))).before args0 about1 = true := code_word (m := ⟨2, 3⟩) (meth := k2m3) (c := k2c3) (by decide +kernel) rfl rfl rfl (by decide +kernel)
set_option maxRecDepth 65536 in
theorem w_c6 : (Jvm.Cond.code ({ cls := "com/example/hold/hold/check/ComponentSolver", name := "sortRow", desc := "(I)V" } : Jvm.MethodName) prog_35_method_13_code (14 : Nat) (Option.none : Option Jvm.ClassFile.FieldType)).before args0 about1 = true := code_word (m := ⟨2, 6⟩) (meth := k2m6) (c := k2c6) (by decide +kernel) rfl rfl rfl (by decide +kernel)
set_option maxRecDepth 65536 in
theorem w_c7 : (Jvm.Cond.code ({ cls := "java/util/Arrays", name := "sort", desc := "([J)V" } : Jvm.MethodName) jdk_65_method_4_code (1 : Nat) (Option.none : Option Jvm.ClassFile.FieldType)).before args0 about1 = true := code_word (m := ⟨3, 1⟩) (meth := k3m1) (c := k3c1) (by decide +kernel) rfl rfl rfl (by decide +kernel)
set_option maxRecDepth 65536 in
theorem w_c8 : (Jvm.Cond.code ({ cls := "java/util/DualPivotQuicksort", name := "sort", desc := "([JIII)V" } : Jvm.MethodName) jdk_2529_method_12_code (7 : Nat) (Option.none : Option Jvm.ClassFile.FieldType)).before args0 about1 = true := code_word (m := ⟨4, 1⟩) (meth := k4m1) (c := k4c1) (by decide +kernel) rfl rfl rfl (by decide +kernel)
set_option maxRecDepth 65536 in
theorem w_c9 : (Jvm.Cond.code ({ cls := "java/util/DualPivotQuicksort", name := "sort", desc := "(Ljava/util/DualPivotQuicksort$Sorter;[JIII)V" } : Jvm.MethodName) jdk_2529_method_13_code (25 : Nat) (Option.none : Option Jvm.ClassFile.FieldType)).before args0 about1 = true := code_word (m := ⟨4, 2⟩) (meth := k4m2) (c := k4c2) (by decide +kernel) rfl rfl rfl (by decide +kernel)
set_option maxRecDepth 65536 in
theorem w_c10 : (Jvm.Cond.code ({ cls := "java/util/DualPivotQuicksort", name := "insertionSort", desc := "([JII)V" } : Jvm.MethodName) jdk_2529_method_15_code (7 : Nat) (Option.none : Option Jvm.ClassFile.FieldType)).before args0 about1 = true := code_word (m := ⟨4, 3⟩) (meth := k4m3) (c := k4c3) (by decide +kernel) rfl rfl rfl (by decide +kernel)
set_option maxRecDepth 65536 in
theorem w_c11 : (Jvm.Cond.code ({ cls := "java/util/PriorityQueue", name := "<init>", desc := "()V" } : Jvm.MethodName) jdk_2655_method_1_code (1 : Nat) (Option.none : Option Jvm.ClassFile.FieldType)).before args0 about1 = true := code_word (m := ⟨11, 0⟩) (meth := k11m0) (c := k11c0) (by decide +kernel) rfl rfl rfl (by decide +kernel)
set_option maxRecDepth 65536 in
theorem w_c12 : (Jvm.Cond.code ({ cls := "java/util/PriorityQueue", name := "<init>", desc := "(ILjava/util/Comparator;)V" } : Jvm.MethodName) jdk_2655_method_4_code (3 : Nat) (Option.none : Option Jvm.ClassFile.FieldType)).before args0 about1 = true := code_word (m := ⟨11, 1⟩) (meth := k11m1) (c := k11c1) (by decide +kernel) rfl rfl rfl (by decide +kernel)
set_option maxRecDepth 65536 in
theorem w_c13 : (Jvm.Cond.code ({ cls := "java/util/AbstractQueue", name := "<init>", desc := "()V" } : Jvm.MethodName) jdk_2435_method_1_code (1 : Nat) (Option.none : Option Jvm.ClassFile.FieldType)).before args0 about1 = true := code_word (m := ⟨9, 0⟩) (meth := k9m0) (c := k9c0) (by decide +kernel) rfl rfl rfl (by decide +kernel)
set_option maxRecDepth 65536 in
theorem w_c14 : (Jvm.Cond.code ({ cls := "java/util/AbstractCollection", name := "<init>", desc := "()V" } : Jvm.MethodName) jdk_22_method_1_code (1 : Nat) (Option.none : Option Jvm.ClassFile.FieldType)).before args0 about1 = true := code_word (m := ⟨7, 0⟩) (meth := k7m0) (c := k7c0) (by decide +kernel) rfl rfl rfl (by decide +kernel)
set_option maxRecDepth 65536 in
theorem w_c15 : (Jvm.Cond.code ({ cls := "com/example/hold/hold/check/ComponentSolver", name := "cost", desc := "(I)I" } : Jvm.MethodName) prog_35_method_11_code (2 : Nat) (Option.some Jvm.ClassFile.FieldType.int)).before args0 about1 = true := code_word (m := ⟨2, 4⟩) (meth := k2m4) (c := k2c4) (by decide +kernel) rfl rfl rfl (by decide +kernel)
set_option maxRecDepth 65536 in
theorem w_c16 : (Jvm.Cond.code ({ cls := "java/lang/Math", name := "min", desc := "(JJ)J" } : Jvm.MethodName) jdk_29_method_70_code (4 : Nat) (Option.some Jvm.ClassFile.FieldType.long)).before args0 about1 = true := code_word (m := ⟨12, 1⟩) (meth := k12m1) (c := k12c1) (by decide +kernel) rfl rfl rfl (by decide +kernel)
set_option maxRecDepth 65536 in
theorem w_c17 : (Jvm.Cond.code ({ cls := "com/example/hold/hold/check/ComponentSolver", name := "entry", desc := "(II)J" } : Jvm.MethodName) prog_35_method_12_code (2 : Nat) (Option.some Jvm.ClassFile.FieldType.long)).before args0 about1 = true := code_word (m := ⟨2, 5⟩) (meth := k2m5) (c := k2c5) (by decide +kernel) rfl rfl rfl (by decide +kernel)
set_option maxRecDepth 65536 in
theorem w_c18 : (Jvm.Cond.code ({ cls := "java/lang/Long", name := "valueOf", desc := "(J)Ljava/lang/Long;" } : Jvm.MethodName) jdk_35_method_24_code (3 : Nat) (Option.some (Jvm.ClassFile.FieldType.object "java/lang/Long"))).before args0 about1 = true := code_word (m := ⟨17, 0⟩) (meth := k17m0) (c := k17c0) (by decide +kernel) rfl rfl rfl (by decide +kernel)
set_option maxRecDepth 65536 in
theorem w_c19 : (Jvm.Cond.code ({ cls := "java/util/PriorityQueue", name := "add", desc := "(Ljava/lang/Object;)Z" } : Jvm.MethodName) jdk_2655_method_13_code (2 : Nat) (Option.some Jvm.ClassFile.FieldType.boolean)).before args0 about1 = true := code_word (m := ⟨11, 2⟩) (meth := k11m2) (c := k11c2) (by decide +kernel) rfl rfl rfl (by decide +kernel)
set_option maxRecDepth 65536 in
theorem w_c20 : (Jvm.Cond.code ({ cls := "java/util/PriorityQueue", name := "offer", desc := "(Ljava/lang/Object;)Z" } : Jvm.MethodName) jdk_2655_method_14_code (3 : Nat) (Option.some Jvm.ClassFile.FieldType.boolean)).before args0 about1 = true := code_word (m := ⟨11, 3⟩) (meth := k11m3) (c := k11c3) (by decide +kernel) rfl rfl rfl (by decide +kernel)
set_option maxRecDepth 65536 in
theorem w_c21 : (Jvm.Cond.code ({ cls := "java/util/PriorityQueue", name := "siftUp", desc := "(ILjava/lang/Object;)V" } : Jvm.MethodName) jdk_2655_method_27_code (3 : Nat) (Option.none : Option Jvm.ClassFile.FieldType)).before args0 about1 = true := code_word (m := ⟨11, 5⟩) (meth := k11m5) (c := k11c5) (by decide +kernel) rfl rfl rfl (by decide +kernel)
set_option maxRecDepth 65536 in
theorem w_c22 : (Jvm.Cond.code ({ cls := "java/util/PriorityQueue", name := "siftUpComparable", desc := "(ILjava/lang/Object;[Ljava/lang/Object;)V" } : Jvm.MethodName) jdk_2655_method_28_code (6 : Nat) (Option.none : Option Jvm.ClassFile.FieldType)).before args0 about1 = true := code_word (m := ⟨11, 6⟩) (meth := k11m6) (c := k11c6) (by decide +kernel) rfl rfl rfl (by decide +kernel)
set_option maxRecDepth 65536 in
theorem w_c23 : (Jvm.Cond.code ({ cls := "java/lang/Long", name := "compareTo", desc := "(Ljava/lang/Object;)I" } : Jvm.MethodName) jdk_35_method_64_code (2 : Nat) (Option.some Jvm.ClassFile.FieldType.int)).before args0 about1 = true := code_word (m := ⟨17, 4⟩) (meth := k17m4) (c := k17c4) (by decide +kernel) rfl rfl rfl (by decide +kernel)
set_option maxRecDepth 65536 in
theorem w_c24 : (Jvm.Cond.code ({ cls := "java/lang/Long", name := "compareTo", desc := "(Ljava/lang/Long;)I" } : Jvm.MethodName) jdk_35_method_41_code (2 : Nat) (Option.some Jvm.ClassFile.FieldType.int)).before args0 about1 = true := code_word (m := ⟨17, 2⟩) (meth := k17m2) (c := k17c2) (by decide +kernel) rfl rfl rfl (by decide +kernel)
set_option maxRecDepth 65536 in
theorem w_c25 : (Jvm.Cond.code ({ cls := "java/lang/Long", name := "compare", desc := "(JJ)I" } : Jvm.MethodName) jdk_35_method_42_code (4 : Nat) (Option.some Jvm.ClassFile.FieldType.int)).before args0 about1 = true := code_word (m := ⟨17, 3⟩) (meth := k17m3) (c := k17c3) (by decide +kernel) rfl rfl rfl (by decide +kernel)
set_option maxRecDepth 65536 in
theorem w_c26 : (Jvm.Cond.code ({ cls := "java/util/PriorityQueue", name := "poll", desc := "()Ljava/lang/Object;" } : Jvm.MethodName) jdk_2655_method_25_code (6 : Nat) (Option.some (Jvm.ClassFile.FieldType.object "java/lang/Object"))).before args0 about1 = true := code_word (m := ⟨11, 4⟩) (meth := k11m4) (c := k11c4) (by decide +kernel) rfl rfl rfl (by decide +kernel)
set_option maxRecDepth 65536 in
theorem w_c27 : (Jvm.Cond.code ({ cls := "java/util/PriorityQueue", name := "siftDownComparable", desc := "(ILjava/lang/Object;[Ljava/lang/Object;I)V" } : Jvm.MethodName) jdk_2655_method_31_code (9 : Nat) (Option.none : Option Jvm.ClassFile.FieldType)).before args0 about1 = true := code_word (m := ⟨11, 7⟩) (meth := k11m7) (c := k11c7) (by decide +kernel) rfl rfl rfl (by decide +kernel)
set_option maxRecDepth 65536 in
theorem w_c28 : (Jvm.Cond.code ({ cls := "java/lang/Long", name := "longValue", desc := "()J" } : Jvm.MethodName) jdk_35_method_31_code (1 : Nat) (Option.some Jvm.ClassFile.FieldType.long)).before args0 about1 = true := code_word (m := ⟨17, 1⟩) (meth := k17m1) (c := k17c1) (by decide +kernel) rfl rfl rfl (by decide +kernel)
def codes1 : List Jvm.Cond := [Jvm.Cond.code x code maxLocals ret, Jvm.Cond.code ({ cls := "com/example/hold/hold/check/ComponentSolver", name := "<init>", desc := "(I)V" } : Jvm.MethodName) prog_35_method_1_code (3 : Nat) (Option.none : Option Jvm.ClassFile.FieldType), Jvm.Cond.code ({ cls := "java/lang/Object", name := "<init>", desc := "()V" } : Jvm.MethodName) object_method_1_code (1 : Nat) (Option.none : Option Jvm.ClassFile.FieldType), Jvm.Cond.code ({ cls := "com/example/hold/hold/check/ComponentSolver", name := "addExit", desc := "(IDD)V" } : Jvm.MethodName) prog_35_method_4_code (6 : Nat) (Option.none : Option Jvm.ClassFile.FieldType), Jvm.Cond.code ({ cls := "com/example/hold/hold/check/ComponentSolver", name := "addSurplus", desc := "(ID)V" } : Jvm.MethodName) prog_35_method_6_code (4 : Nat) (Option.none : Option Jvm.ClassFile.FieldType), Jvm.Cond.code ({ cls := "com/example/hold/hold/check/ComponentSolver", name := "solve", desc := "()[D" } : Jvm.MethodName) prog_35_method_7_code (12 : Nat) (Option.some (Jvm.ClassFile.FieldType.array Jvm.ClassFile.FieldType.double)), Jvm.Cond.code ({ cls := "com/example/hold/hold/check/ComponentSolver", name := "sortRow", desc := "(I)V" } : Jvm.MethodName) prog_35_method_13_code (14 : Nat) (Option.none : Option Jvm.ClassFile.FieldType), Jvm.Cond.code ({ cls := "java/util/Arrays", name := "sort", desc := "([J)V" } : Jvm.MethodName) jdk_65_method_4_code (1 : Nat) (Option.none : Option Jvm.ClassFile.FieldType), Jvm.Cond.code ({ cls := "java/util/DualPivotQuicksort", name := "sort", desc := "([JIII)V" } : Jvm.MethodName) jdk_2529_method_12_code (7 : Nat) (Option.none : Option Jvm.ClassFile.FieldType), Jvm.Cond.code ({ cls := "java/util/DualPivotQuicksort", name := "sort", desc := "(Ljava/util/DualPivotQuicksort$Sorter;[JIII)V" } : Jvm.MethodName) jdk_2529_method_13_code (25 : Nat) (Option.none : Option Jvm.ClassFile.FieldType), Jvm.Cond.code ({ cls := "java/util/DualPivotQuicksort", name := "insertionSort", desc := "([JII)V" } : Jvm.MethodName) jdk_2529_method_15_code (7 : Nat) (Option.none : Option Jvm.ClassFile.FieldType), Jvm.Cond.code ({ cls := "java/util/PriorityQueue", name := "<init>", desc := "()V" } : Jvm.MethodName) jdk_2655_method_1_code (1 : Nat) (Option.none : Option Jvm.ClassFile.FieldType), Jvm.Cond.code ({ cls := "java/util/PriorityQueue", name := "<init>", desc := "(ILjava/util/Comparator;)V" } : Jvm.MethodName) jdk_2655_method_4_code (3 : Nat) (Option.none : Option Jvm.ClassFile.FieldType), Jvm.Cond.code ({ cls := "java/util/AbstractQueue", name := "<init>", desc := "()V" } : Jvm.MethodName) jdk_2435_method_1_code (1 : Nat) (Option.none : Option Jvm.ClassFile.FieldType), Jvm.Cond.code ({ cls := "java/util/AbstractCollection", name := "<init>", desc := "()V" } : Jvm.MethodName) jdk_22_method_1_code (1 : Nat) (Option.none : Option Jvm.ClassFile.FieldType), Jvm.Cond.code ({ cls := "com/example/hold/hold/check/ComponentSolver", name := "cost", desc := "(I)I" } : Jvm.MethodName) prog_35_method_11_code (2 : Nat) (Option.some Jvm.ClassFile.FieldType.int), Jvm.Cond.code ({ cls := "java/lang/Math", name := "min", desc := "(JJ)J" } : Jvm.MethodName) jdk_29_method_70_code (4 : Nat) (Option.some Jvm.ClassFile.FieldType.long), Jvm.Cond.code ({ cls := "com/example/hold/hold/check/ComponentSolver", name := "entry", desc := "(II)J" } : Jvm.MethodName) prog_35_method_12_code (2 : Nat) (Option.some Jvm.ClassFile.FieldType.long), Jvm.Cond.code ({ cls := "java/lang/Long", name := "valueOf", desc := "(J)Ljava/lang/Long;" } : Jvm.MethodName) jdk_35_method_24_code (3 : Nat) (Option.some (Jvm.ClassFile.FieldType.object "java/lang/Long")), Jvm.Cond.code ({ cls := "java/util/PriorityQueue", name := "add", desc := "(Ljava/lang/Object;)Z" } : Jvm.MethodName) jdk_2655_method_13_code (2 : Nat) (Option.some Jvm.ClassFile.FieldType.boolean), Jvm.Cond.code ({ cls := "java/util/PriorityQueue", name := "offer", desc := "(Ljava/lang/Object;)Z" } : Jvm.MethodName) jdk_2655_method_14_code (3 : Nat) (Option.some Jvm.ClassFile.FieldType.boolean), Jvm.Cond.code ({ cls := "java/util/PriorityQueue", name := "siftUp", desc := "(ILjava/lang/Object;)V" } : Jvm.MethodName) jdk_2655_method_27_code (3 : Nat) (Option.none : Option Jvm.ClassFile.FieldType), Jvm.Cond.code ({ cls := "java/util/PriorityQueue", name := "siftUpComparable", desc := "(ILjava/lang/Object;[Ljava/lang/Object;)V" } : Jvm.MethodName) jdk_2655_method_28_code (6 : Nat) (Option.none : Option Jvm.ClassFile.FieldType), Jvm.Cond.code ({ cls := "java/lang/Long", name := "compareTo", desc := "(Ljava/lang/Object;)I" } : Jvm.MethodName) jdk_35_method_64_code (2 : Nat) (Option.some Jvm.ClassFile.FieldType.int), Jvm.Cond.code ({ cls := "java/lang/Long", name := "compareTo", desc := "(Ljava/lang/Long;)I" } : Jvm.MethodName) jdk_35_method_41_code (2 : Nat) (Option.some Jvm.ClassFile.FieldType.int), Jvm.Cond.code ({ cls := "java/lang/Long", name := "compare", desc := "(JJ)I" } : Jvm.MethodName) jdk_35_method_42_code (4 : Nat) (Option.some Jvm.ClassFile.FieldType.int), Jvm.Cond.code ({ cls := "java/util/PriorityQueue", name := "poll", desc := "()Ljava/lang/Object;" } : Jvm.MethodName) jdk_2655_method_25_code (6 : Nat) (Option.some (Jvm.ClassFile.FieldType.object "java/lang/Object")), Jvm.Cond.code ({ cls := "java/util/PriorityQueue", name := "siftDownComparable", desc := "(ILjava/lang/Object;[Ljava/lang/Object;I)V" } : Jvm.MethodName) jdk_2655_method_31_code (9 : Nat) (Option.none : Option Jvm.ClassFile.FieldType), Jvm.Cond.code ({ cls := "java/lang/Long", name := "longValue", desc := "()J" } : Jvm.MethodName) jdk_35_method_31_code (1 : Nat) (Option.some Jvm.ClassFile.FieldType.long)]
set_option maxRecDepth 65536 in
theorem codes_eq : words1.filter isCode = codes1 := rfl
theorem w_codes : ∀ c ∈ words1.filter isCode, c.before args0 about1 = true := by
  rw [codes_eq]
  intro c hc
  simp only [codes1, List.mem_cons, List.not_mem_nil, or_false] at hc
  rcases hc with rfl | rfl | rfl | rfl | rfl | rfl | rfl | rfl | rfl | rfl | rfl | rfl | rfl | rfl | rfl | rfl | rfl | rfl | rfl | rfl | rfl | rfl | rfl | rfl | rfl | rfl | rfl | rfl | rfl
  · exact w_c0
  · exact w_c1
  · exact w_c2
  · exact w_c3
  · exact w_c4
  · exact w_c5
  · exact w_c6
  · exact w_c7
  · exact w_c8
  · exact w_c9
  · exact w_c10
  · exact w_c11
  · exact w_c12
  · exact w_c13
  · exact w_c14
  · exact w_c15
  · exact w_c16
  · exact w_c17
  · exact w_c18
  · exact w_c19
  · exact w_c20
  · exact w_c21
  · exact w_c22
  · exact w_c23
  · exact w_c24
  · exact w_c25
  · exact w_c26
  · exact w_c27
  · exact w_c28
set_option maxRecDepth 65536 in
theorem w_t1 : (words1.take 24).all (fun c => isCode c || c.before args0 about1) = true := by decide +kernel
set_option maxRecDepth 65536 in
theorem w_t2 : ((words1.drop 24).take 24).all (fun c => isCode c || c.before args0 about1) = true := by decide +kernel
set_option maxRecDepth 65536 in
theorem w_t3 : (((words1.drop 24).drop 24).take 24).all (fun c => isCode c || c.before args0 about1) = true := by decide +kernel
set_option maxRecDepth 65536 in
theorem w_t4 : ((((words1.drop 24).drop 24).drop 24).take 24).all (fun c => isCode c || c.before args0 about1) = true := by decide +kernel
set_option maxRecDepth 65536 in
theorem w_t5 : (((((words1.drop 24).drop 24).drop 24).drop 24).take 24).all (fun c => isCode c || c.before args0 about1) = true := by decide +kernel
set_option maxRecDepth 65536 in
theorem w_t6 : ((((((words1.drop 24).drop 24).drop 24).drop 24).drop 24).take 24).all (fun c => isCode c || c.before args0 about1) = true := by decide +kernel
set_option maxRecDepth 65536 in
theorem w_t7 : (((((((words1.drop 24).drop 24).drop 24).drop 24).drop 24).drop 24).take 24).all (fun c => isCode c || c.before args0 about1) = true := by decide +kernel
set_option maxRecDepth 65536 in
theorem w_t8 : (((((((words1.drop 24).drop 24).drop 24).drop 24).drop 24).drop 24).drop 24).all (fun c => isCode c || c.before args0 about1) = true := by decide +kernel
theorem w_tables : (allAtoms (Jvm.Cond.code x code maxLocals ret :: tables_1)).before args0 about1 = true := by
  rw [allAtoms_all]
  show words1.all (fun c => c.before args0 about1) = true
  refine all_split ?_ w_codes
  rw [← List.take_append_drop 24 words1, List.all_append, w_t1, ← List.take_append_drop 24 (words1.drop 24), List.all_append, w_t2, ← List.take_append_drop 24 ((words1.drop 24).drop 24), List.all_append, w_t3, ← List.take_append_drop 24 (((words1.drop 24).drop 24).drop 24), List.all_append, w_t4, ← List.take_append_drop 24 ((((words1.drop 24).drop 24).drop 24).drop 24), List.all_append, w_t5, ← List.take_append_drop 24 (((((words1.drop 24).drop 24).drop 24).drop 24).drop 24), List.all_append, w_t6, ← List.take_append_drop 24 ((((((words1.drop 24).drop 24).drop 24).drop 24).drop 24).drop 24), List.all_append, w_t7, w_t8]
  rfl
set_option maxRecDepth 65536 in
theorem w_rest : rest_1_c.before args0 about1 = true := by decide +kernel
set_option maxRecDepth 65536 in
theorem w_case : (Jvm.Cond.and given_1 narrow_1).before args0 about1 = true := by decide +kernel
theorem w_applies : (headSpec (Jvm.Cond.code x code maxLocals ret :: tables_1) room_1).applies x e0.platform about1 = true :=
  (Spec.applies_iff w_frames).mpr ⟨w_running, w_runnable, w_alone, w_named, w_hears, w_ripe, w_room, w_tables⟩
theorem atStart : AtStart classFile x code maxLocals ret World_1 tables_1 room_1 Calls_1 rest_1 Pre_1 launch0 p0 e0 about1 theMethod args0 below0 :=
  ⟨lists_1, trivial, launch0.admits_env _ _ _, launch0.least_env, fairChoices_fair.cas, fairChoices_fair.clock, w_frames, w_args, w_heap, w_applies, trivial, w_rest, w_case⟩
end start1
theorem witness_1 : WitnessClaimed_1 := ⟨start1.p0, start1.e0, start1.about1, start1.theMethod, start1.args0, start1.below0, start1.atStart⟩
end Jvm.Pilot.@@N@@
