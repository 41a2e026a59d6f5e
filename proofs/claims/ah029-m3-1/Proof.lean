import JvmDerived
import JvmDerived.Pilot.@@N@@Statement
import JvmDerived.Pilot.@@N@@Code
set_option linter.unusedVariables false
set_option linter.unusedSimpArgs false
namespace Jvm.OwnW
open Sem ClassFile Op Lib Jvm.Stand Jvm.Free Jvm.LawKit Jvm.RoadKit
/-- from the state S the walk over 'below' comes to an end of which P holds -/
def Goes (tb : Tables) (e : Env) (below : List Frame) (S : State) (P : State → Outcome → Prop) : Prop :=
  ∃ s₂ o, Steps tb e below S s₂ ∧ s₂.status = .running ∧ Ended s₂ below o ∧ P s₂ o
section Walk
variable {p : Program} {l : Launch} {e : Env} {R : Room} {s : State} {m : MethodId} {args : Array Value} {below : List Frame} {meth : Method} {c : Code} {T : State} {locs : List Loc} {cells slots : Nat} {P : State → Outcome → Prop} {pc : Nat} {Ls : Array Slot} {st : List Value} {Z : State} {a0 : Array Value} {h : Heap}
theorem Goes.of {tb : Tables} {S S' : State} (k : Goes tb e below S' P) (h : ∀ t, Steps tb e below S' t → Steps tb e below S t) : Goes tb e below S P := by
  obtain ⟨s₂, o, h1, h2⟩ := k
  exact ⟨s₂, o, h _ h1, h2⟩
theorem Goes.tr {tb : Tables} {S S' : State} (k : Goes tb e below S' P) (h : Steps tb e below S S') : Goes tb e below S P := by
  obtain ⟨s₂, o, h1, h2⟩ := k
  exact ⟨s₂, o, h.trans h1, h2⟩
theorem Goes.join {tb : Tables} {S S' : State} (h1 : Goes tb e below S' P → Goes tb e below S P) (h2 : Goes tb e below S' P) : Goes tb e below S P := h1 h2
theorem Goes.cast {tb : Tables} {g g' : JFrame} (q : g = g') (k : Goes tb e below (T.setTop g') P) : Goes tb e below (T.setTop g) P := q ▸ k
theorem g_nameI {x v : Int32} (q : v = x) (k : Goes p.tables e below (T.setTop (mkF m pc Ls (.int v :: st))) P) : Goes p.tables e below (T.setTop (mkF m pc Ls (.int x :: st))) P := q ▸ k
theorem g_nameL {x v : Int64} (q : v = x) (k : Goes p.tables e below (T.setTop (mkF m pc Ls (.long v :: st))) P) : Goes p.tables e below (T.setTop (mkF m pc Ls (.long x :: st))) P := q ▸ k
theorem g_iloadN (X : Stand p l e R s m args below meth c T locs cells slots) (hx : p.tables.exec = Jvm.exec) {k : Fin 4} {v : Int32} (hd : decode c.code pc = .ok (.iload_n k, 1)) (hl : Ls[k.val]? = some (.val (.int v))) (hr : Goes p.tables e below (T.setTop (mkF m (pc + 1) Ls (.int v :: st))) P) : Goes p.tables e below (T.setTop (mkF m pc Ls st)) P := hr.of fun _ k => XS.iloadN X.here hx rfl hd hl k
theorem g_iload (X : Stand p l e R s m args below meth c T locs cells slots) (hx : p.tables.exec = Jvm.exec) {k : Nat} {v : Int32} (hd : decode c.code pc = .ok (.iload k, 2)) (hl : Ls[k]? = some (.val (.int v))) (hr : Goes p.tables e below (T.setTop (mkF m (pc + 2) Ls (.int v :: st))) P) : Goes p.tables e below (T.setTop (mkF m pc Ls st)) P := hr.of fun _ k => XS.iload X.here hx rfl hd hl k
theorem g_lloadN (X : Stand p l e R s m args below meth c T locs cells slots) (hx : p.tables.exec = Jvm.exec) {k : Fin 4} {v : Int64} (hd : decode c.code pc = .ok (.lload_n k, 1)) (hl : Ls[k.val]? = some (.val (.long v))) (hr : Goes p.tables e below (T.setTop (mkF m (pc + 1) Ls (.long v :: st))) P) : Goes p.tables e below (T.setTop (mkF m pc Ls st)) P := hr.of fun _ k => XT.lloadN X.here hx rfl hd hl k
theorem g_lload (X : Stand p l e R s m args below meth c T locs cells slots) (hx : p.tables.exec = Jvm.exec) {k : Nat} {v : Int64} (hd : decode c.code pc = .ok (.lload k, 2)) (hl : Ls[k]? = some (.val (.long v))) (hr : Goes p.tables e below (T.setTop (mkF m (pc + 2) Ls (.long v :: st))) P) : Goes p.tables e below (T.setTop (mkF m pc Ls st)) P := hr.of fun _ k => XT.lload X.here hx rfl hd hl k
theorem g_aloadN (X : Stand p l e R s m args below meth c T locs cells slots) (hx : p.tables.exec = Jvm.exec) {k : Fin 4} {v : Value} (hd : decode c.code pc = .ok (.aload_n k, 1)) (hl : Ls[k.val]? = some (.val v)) (hv : v.isRef = true) (hr : Goes p.tables e below (T.setTop (mkF m (pc + 1) Ls (v :: st))) P) : Goes p.tables e below (T.setTop (mkF m pc Ls st)) P := hr.of fun _ k => XS.aloadN X.here hx rfl hd hl hv k
theorem g_aload (X : Stand p l e R s m args below meth c T locs cells slots) (hx : p.tables.exec = Jvm.exec) {k : Nat} {v : Value} (hd : decode c.code pc = .ok (.aload k, 2)) (hl : Ls[k]? = some (.val v)) (hv : v.isRef = true) (hr : Goes p.tables e below (T.setTop (mkF m (pc + 2) Ls (v :: st))) P) : Goes p.tables e below (T.setTop (mkF m pc Ls st)) P := hr.of fun _ k => XS.aload X.here hx rfl hd hl hv k
theorem g_istoreN (X : Stand p l e R s m args below meth c T locs cells slots) (hx : p.tables.exec = Jvm.exec) {k : Fin 4} {x : Int32} {l' : Array Slot} (hd : decode c.code pc = .ok (.istore_n k, 1)) (hl : storeLocals Ls k.val (.int x) = some l') (hr : Goes p.tables e below (T.setTop (mkF m (pc + 1) l' st)) P) : Goes p.tables e below (T.setTop (mkF m pc Ls (.int x :: st))) P := hr.of fun _ k => XS.istoreN X.here hx rfl hd rfl hl k
theorem g_istore (X : Stand p l e R s m args below meth c T locs cells slots) (hx : p.tables.exec = Jvm.exec) {k : Nat} {x : Int32} {l' : Array Slot} (hd : decode c.code pc = .ok (.istore k, 2)) (hl : storeLocals Ls k (.int x) = some l') (hr : Goes p.tables e below (T.setTop (mkF m (pc + 2) l' st)) P) : Goes p.tables e below (T.setTop (mkF m pc Ls (.int x :: st))) P := hr.of fun _ k => XS.istore X.here hx rfl hd rfl hl k
theorem g_lstoreN (X : Stand p l e R s m args below meth c T locs cells slots) (hx : p.tables.exec = Jvm.exec) {k : Fin 4} {x : Int64} {l' : Array Slot} (hd : decode c.code pc = .ok (.lstore_n k, 1)) (hl : storeLocals Ls k.val (.long x) = some l') (hr : Goes p.tables e below (T.setTop (mkF m (pc + 1) l' st)) P) : Goes p.tables e below (T.setTop (mkF m pc Ls (.long x :: st))) P := hr.of fun _ k => XT.lstoreN X.here hx rfl hd rfl hl k
theorem g_lstore (X : Stand p l e R s m args below meth c T locs cells slots) (hx : p.tables.exec = Jvm.exec) {k : Nat} {x : Int64} {l' : Array Slot} (hd : decode c.code pc = .ok (.lstore k, 2)) (hl : storeLocals Ls k (.long x) = some l') (hr : Goes p.tables e below (T.setTop (mkF m (pc + 2) l' st)) P) : Goes p.tables e below (T.setTop (mkF m pc Ls (.long x :: st))) P := hr.of fun _ k => XT.lstore X.here hx rfl hd rfl hl k
theorem g_astoreN (X : Stand p l e R s m args below meth c T locs cells slots) (hx : p.tables.exec = Jvm.exec) {k : Fin 4} {x : Value} {l' : Array Slot} (hd : decode c.code pc = .ok (.astore_n k, 1)) (hv : x.isRef = true) (hl : storeLocals Ls k.val x = some l') (hr : Goes p.tables e below (T.setTop (mkF m (pc + 1) l' st)) P) : Goes p.tables e below (T.setTop (mkF m pc Ls (x :: st))) P := hr.of fun _ k => XS.astoreN X.here hx rfl hd rfl hv hl k
theorem g_astore (X : Stand p l e R s m args below meth c T locs cells slots) (hx : p.tables.exec = Jvm.exec) {k : Nat} {x : Value} {l' : Array Slot} (hd : decode c.code pc = .ok (.astore k, 2)) (hv : x.isRef = true) (hl : storeLocals Ls k x = some l') (hr : Goes p.tables e below (T.setTop (mkF m (pc + 2) l' st)) P) : Goes p.tables e below (T.setTop (mkF m pc Ls (x :: st))) P := hr.of fun _ k => XS.astore X.here hx rfl hd rfl hv hl k
theorem g_istoreS (X : Stand p l e R s m args below meth c T locs cells slots) (hx : p.tables.exec = Jvm.exec) {k : Nat} {x : Int32} {o : Slot} (hd : decode c.code pc = .ok (.istore k, 2)) (hold : Ls[k]? = some o) (ho : One o) (hr : Goes p.tables e below (T.setTop (mkF m (pc + 2) (Ls.setIfInBounds k (.val (.int x))) st)) P) : Goes p.tables e below (T.setTop (mkF m pc Ls (.int x :: st))) P := hr.of fun _ k => XS.istoreS X.here hx rfl hd rfl hold ho k
theorem g_istoreNS (X : Stand p l e R s m args below meth c T locs cells slots) (hx : p.tables.exec = Jvm.exec) {k : Fin 4} {x : Int32} {o : Slot} (hd : decode c.code pc = .ok (.istore_n k, 1)) (hold : Ls[k.val]? = some o) (ho : One o) (hr : Goes p.tables e below (T.setTop (mkF m (pc + 1) (Ls.setIfInBounds k.val (.val (.int x))) st)) P) : Goes p.tables e below (T.setTop (mkF m pc Ls (.int x :: st))) P := hr.of fun _ k => XS.istoreNS X.here hx rfl hd rfl hold ho k
theorem g_iconst (X : Stand p l e R s m args below meth c T locs cells slots) (hx : p.tables.exec = Jvm.exec) {i : Int} (v : Int32) (hd : decode c.code pc = .ok (.iconst i, 1)) (hv : Int32.ofInt i = v) (hr : Goes p.tables e below (T.setTop (mkF m (pc + 1) Ls (.int v :: st))) P) : Goes p.tables e below (T.setTop (mkF m pc Ls st)) P := hr.of fun _ k => XT.iconstV X.here hx rfl v hd hv k
theorem g_bipush (X : Stand p l e R s m args below meth c T locs cells slots) (hx : p.tables.exec = Jvm.exec) {i : Int} (v : Int32) (hd : decode c.code pc = .ok (.bipush i, 2)) (hv : (Int8.ofInt i).toInt32 = v) (hr : Goes p.tables e below (T.setTop (mkF m (pc + 2) Ls (.int v :: st))) P) : Goes p.tables e below (T.setTop (mkF m pc Ls st)) P := hr.of fun _ k => XT.bipushV X.here hx rfl v hd hv k
theorem g_sipush (X : Stand p l e R s m args below meth c T locs cells slots) (hx : p.tables.exec = Jvm.exec) {i : Int} (v : Int32) (hd : decode c.code pc = .ok (.sipush i, 3)) (hv : (Int16.ofInt i).toInt32 = v) (hr : Goes p.tables e below (T.setTop (mkF m (pc + 3) Ls (.int v :: st))) P) : Goes p.tables e below (T.setTop (mkF m pc Ls st)) P := hr.of fun _ k => XT.sipushV X.here hx rfl v hd hv k
theorem g_lconst (X : Stand p l e R s m args below meth c T locs cells slots) (hx : p.tables.exec = Jvm.exec) {i : Fin 2} (v : Int64) (hd : decode c.code pc = .ok (.lconst i, 1)) (hv : Int64.ofNat i = v) (hr : Goes p.tables e below (T.setTop (mkF m (pc + 1) Ls (.long v :: st))) P) : Goes p.tables e below (T.setTop (mkF m pc Ls st)) P := hr.of fun _ k => XT.lconstV X.here hx rfl v hd hv k
theorem g_null (X : Stand p l e R s m args below meth c T locs cells slots) (hx : p.tables.exec = Jvm.exec)  (hd : decode c.code pc = .ok (.aconst_null, 1)) (hr : Goes p.tables e below (T.setTop (mkF m (pc + 1) Ls (.null :: st))) P) : Goes p.tables e below (T.setTop (mkF m pc Ls st)) P := hr.of fun _ k => XS.aconstNull X.here hx rfl hd k
theorem g_ldc (X : Stand p l e R s m args below meth c T locs cells slots) (hx : p.tables.exec = Jvm.exec) {own : String} {index : Nat} {v : Int32} (hZ : Z.Warmed39 s.vm) (hown : s.vm.findClass own = some m.cls) (wk : (Jvm.Cond.constant own index v).before a0 Z = true) (hd : decode c.code pc = .ok (.ldc index, 2)) (hr : Goes p.tables e below (T.setTop (mkF m (pc + 2) Ls (.int v :: st))) P) : Goes p.tables e below (T.setTop (mkF m pc Ls st)) P := hr.of fun _ k => X.ldcI hx hown (mvT hZ wk) rfl hd k
theorem g_ldcw (X : Stand p l e R s m args below meth c T locs cells slots) (hx : p.tables.exec = Jvm.exec) {own : String} {index : Nat} {v : Int32} (hZ : Z.Warmed39 s.vm) (hown : s.vm.findClass own = some m.cls) (wk : (Jvm.Cond.constant own index v).before a0 Z = true) (hd : decode c.code pc = .ok (.ldc_w index, 3)) (hr : Goes p.tables e below (T.setTop (mkF m (pc + 3) Ls (.int v :: st))) P) : Goes p.tables e below (T.setTop (mkF m pc Ls st)) P := hr.of fun _ k => X.ldcWI hx hown (mvT hZ wk) rfl hd k
theorem g_ldc2 (X : Stand p l e R s m args below meth c T locs cells slots) (hx : p.tables.exec = Jvm.exec) {own : String} {index : Nat} {v : Int64} (hZ : Z.Warmed39 s.vm) (hown : s.vm.findClass own = some m.cls) (wk : (Jvm.Cond.constantLong own index v).before a0 Z = true) (hd : decode c.code pc = .ok (.ldc2_w index, 3)) (hr : Goes p.tables e below (T.setTop (mkF m (pc + 3) Ls (.long v :: st))) P) : Goes p.tables e below (T.setTop (mkF m pc Ls st)) P := hr.of fun _ k => X.ldc2J hx hown (mvT hZ wk) rfl hd k
theorem g_iadd (X : Stand p l e R s m args below meth c T locs cells slots) (hx : p.tables.exec = Jvm.exec) {x y : Int32} (hd : decode c.code pc = .ok (.iadd, 1)) (hr : Goes p.tables e below (T.setTop (mkF m (pc + 1) Ls (.int (x + y) :: st))) P) : Goes p.tables e below (T.setTop (mkF m pc Ls (.int y :: .int x :: st))) P := hr.of fun _ k => XS.iadd X.here hx rfl hd rfl k
theorem g_isub (X : Stand p l e R s m args below meth c T locs cells slots) (hx : p.tables.exec = Jvm.exec) {x y : Int32} (hd : decode c.code pc = .ok (.isub, 1)) (hr : Goes p.tables e below (T.setTop (mkF m (pc + 1) Ls (.int (x - y) :: st))) P) : Goes p.tables e below (T.setTop (mkF m pc Ls (.int y :: .int x :: st))) P := hr.of fun _ k => XS.isub X.here hx rfl hd rfl k
theorem g_imul (X : Stand p l e R s m args below meth c T locs cells slots) (hx : p.tables.exec = Jvm.exec) {x y : Int32} (hd : decode c.code pc = .ok (.imul, 1)) (hr : Goes p.tables e below (T.setTop (mkF m (pc + 1) Ls (.int (x * y) :: st))) P) : Goes p.tables e below (T.setTop (mkF m pc Ls (.int y :: .int x :: st))) P := hr.of fun _ k => XS.imul X.here hx rfl hd rfl k
theorem g_iand (X : Stand p l e R s m args below meth c T locs cells slots) (hx : p.tables.exec = Jvm.exec) {x y : Int32} (hd : decode c.code pc = .ok (.iand, 1)) (hr : Goes p.tables e below (T.setTop (mkF m (pc + 1) Ls (.int (x &&& y) :: st))) P) : Goes p.tables e below (T.setTop (mkF m pc Ls (.int y :: .int x :: st))) P := hr.of fun _ k => XS.iand X.here hx rfl hd rfl k
theorem g_ior (X : Stand p l e R s m args below meth c T locs cells slots) (hx : p.tables.exec = Jvm.exec) {x y : Int32} (hd : decode c.code pc = .ok (.ior, 1)) (hr : Goes p.tables e below (T.setTop (mkF m (pc + 1) Ls (.int (x ||| y) :: st))) P) : Goes p.tables e below (T.setTop (mkF m pc Ls (.int y :: .int x :: st))) P := hr.of fun _ k => XT.ior X.here hx rfl hd rfl k
theorem g_ixor (X : Stand p l e R s m args below meth c T locs cells slots) (hx : p.tables.exec = Jvm.exec) {x y : Int32} (hd : decode c.code pc = .ok (.ixor, 1)) (hr : Goes p.tables e below (T.setTop (mkF m (pc + 1) Ls (.int (x ^^^ y) :: st))) P) : Goes p.tables e below (T.setTop (mkF m pc Ls (.int y :: .int x :: st))) P := hr.of fun _ k => XT.ixor X.here hx rfl hd rfl k
theorem g_ishl (X : Stand p l e R s m args below meth c T locs cells slots) (hx : p.tables.exec = Jvm.exec) {x y : Int32} (hd : decode c.code pc = .ok (.ishl, 1)) (hr : Goes p.tables e below (T.setTop (mkF m (pc + 1) Ls (.int (x <<< (y &&& 31)) :: st))) P) : Goes p.tables e below (T.setTop (mkF m pc Ls (.int y :: .int x :: st))) P := hr.of fun _ k => XT.ishl X.here hx rfl hd rfl k
theorem g_ishr (X : Stand p l e R s m args below meth c T locs cells slots) (hx : p.tables.exec = Jvm.exec) {x y : Int32} (hd : decode c.code pc = .ok (.ishr, 1)) (hr : Goes p.tables e below (T.setTop (mkF m (pc + 1) Ls (.int (x >>> (y &&& 31)) :: st))) P) : Goes p.tables e below (T.setTop (mkF m pc Ls (.int y :: .int x :: st))) P := hr.of fun _ k => XT.ishr X.here hx rfl hd rfl k
theorem g_iushr (X : Stand p l e R s m args below meth c T locs cells slots) (hx : p.tables.exec = Jvm.exec) {x y : Int32} (hd : decode c.code pc = .ok (.iushr, 1)) (hr : Goes p.tables e below (T.setTop (mkF m (pc + 1) Ls (.int (XT.ushr x y) :: st))) P) : Goes p.tables e below (T.setTop (mkF m pc Ls (.int y :: .int x :: st))) P := hr.of fun _ k => XT.iushr X.here hx rfl hd rfl k
theorem g_ladd (X : Stand p l e R s m args below meth c T locs cells slots) (hx : p.tables.exec = Jvm.exec) {x y : Int64} (hd : decode c.code pc = .ok (.ladd, 1)) (hr : Goes p.tables e below (T.setTop (mkF m (pc + 1) Ls (.long (x + y) :: st))) P) : Goes p.tables e below (T.setTop (mkF m pc Ls (.long y :: .long x :: st))) P := hr.of fun _ k => XT.ladd X.here hx rfl hd rfl k
theorem g_lsub (X : Stand p l e R s m args below meth c T locs cells slots) (hx : p.tables.exec = Jvm.exec) {x y : Int64} (hd : decode c.code pc = .ok (.lsub, 1)) (hr : Goes p.tables e below (T.setTop (mkF m (pc + 1) Ls (.long (x - y) :: st))) P) : Goes p.tables e below (T.setTop (mkF m pc Ls (.long y :: .long x :: st))) P := hr.of fun _ k => XT.lsub X.here hx rfl hd rfl k
theorem g_lmul (X : Stand p l e R s m args below meth c T locs cells slots) (hx : p.tables.exec = Jvm.exec) {x y : Int64} (hd : decode c.code pc = .ok (.lmul, 1)) (hr : Goes p.tables e below (T.setTop (mkF m (pc + 1) Ls (.long (x * y) :: st))) P) : Goes p.tables e below (T.setTop (mkF m pc Ls (.long y :: .long x :: st))) P := hr.of fun _ k => XT.lmul X.here hx rfl hd rfl k
theorem g_land (X : Stand p l e R s m args below meth c T locs cells slots) (hx : p.tables.exec = Jvm.exec) {x y : Int64} (hd : decode c.code pc = .ok (.land, 1)) (hr : Goes p.tables e below (T.setTop (mkF m (pc + 1) Ls (.long (x &&& y) :: st))) P) : Goes p.tables e below (T.setTop (mkF m pc Ls (.long y :: .long x :: st))) P := hr.of fun _ k => XT.land X.here hx rfl hd rfl k
theorem g_lor (X : Stand p l e R s m args below meth c T locs cells slots) (hx : p.tables.exec = Jvm.exec) {x y : Int64} (hd : decode c.code pc = .ok (.lor, 1)) (hr : Goes p.tables e below (T.setTop (mkF m (pc + 1) Ls (.long (x ||| y) :: st))) P) : Goes p.tables e below (T.setTop (mkF m pc Ls (.long y :: .long x :: st))) P := hr.of fun _ k => XT.lor X.here hx rfl hd rfl k
theorem g_lxor (X : Stand p l e R s m args below meth c T locs cells slots) (hx : p.tables.exec = Jvm.exec) {x y : Int64} (hd : decode c.code pc = .ok (.lxor, 1)) (hr : Goes p.tables e below (T.setTop (mkF m (pc + 1) Ls (.long (x ^^^ y) :: st))) P) : Goes p.tables e below (T.setTop (mkF m pc Ls (.long y :: .long x :: st))) P := hr.of fun _ k => XT.lxor X.here hx rfl hd rfl k
theorem g_lshl (X : Stand p l e R s m args below meth c T locs cells slots) (hx : p.tables.exec = Jvm.exec) {x : Int64} {y : Int32} (hd : decode c.code pc = .ok (.lshl, 1)) (hr : Goes p.tables e below (T.setTop (mkF m (pc + 1) Ls (.long (x <<< (y.toInt64 &&& 63)) :: st))) P) : Goes p.tables e below (T.setTop (mkF m pc Ls (.int y :: .long x :: st))) P := hr.of fun _ k => XT.lshl X.here hx rfl hd rfl k
theorem g_lshr (X : Stand p l e R s m args below meth c T locs cells slots) (hx : p.tables.exec = Jvm.exec) {x : Int64} {y : Int32} (hd : decode c.code pc = .ok (.lshr, 1)) (hr : Goes p.tables e below (T.setTop (mkF m (pc + 1) Ls (.long (x >>> (y.toInt64 &&& 63)) :: st))) P) : Goes p.tables e below (T.setTop (mkF m pc Ls (.int y :: .long x :: st))) P := hr.of fun _ k => XT.lshr X.here hx rfl hd rfl k
theorem g_lushr (X : Stand p l e R s m args below meth c T locs cells slots) (hx : p.tables.exec = Jvm.exec) {x : Int64} {y : Int32} (hd : decode c.code pc = .ok (.lushr, 1)) (hr : Goes p.tables e below (T.setTop (mkF m (pc + 1) Ls (.long (XT.ushrL x y) :: st))) P) : Goes p.tables e below (T.setTop (mkF m pc Ls (.int y :: .long x :: st))) P := hr.of fun _ k => XT.lushr X.here hx rfl hd rfl k
theorem g_idiv (X : Stand p l e R s m args below meth c T locs cells slots) (hx : p.tables.exec = Jvm.exec) {x y : Int32} (hd : decode c.code pc = .ok (.idiv, 1)) (hy : y ≠ 0) (hr : Goes p.tables e below (T.setTop (mkF m (pc + 1) Ls (.int (x / y) :: st))) P) : Goes p.tables e below (T.setTop (mkF m pc Ls (.int y :: .int x :: st))) P := hr.of fun _ k => XS.idiv X.here hx rfl hd rfl hy k
theorem g_irem (X : Stand p l e R s m args below meth c T locs cells slots) (hx : p.tables.exec = Jvm.exec) {x y : Int32} (hd : decode c.code pc = .ok (.irem, 1)) (hy : y ≠ 0) (hr : Goes p.tables e below (T.setTop (mkF m (pc + 1) Ls (.int (x % y) :: st))) P) : Goes p.tables e below (T.setTop (mkF m pc Ls (.int y :: .int x :: st))) P := hr.of fun _ k => iremM X hx rfl hd rfl hy k
theorem g_ldiv (X : Stand p l e R s m args below meth c T locs cells slots) (hx : p.tables.exec = Jvm.exec) {x y : Int64} (hd : decode c.code pc = .ok (.ldiv, 1)) (hy : y ≠ 0) (hr : Goes p.tables e below (T.setTop (mkF m (pc + 1) Ls (.long (x / y) :: st))) P) : Goes p.tables e below (T.setTop (mkF m pc Ls (.long y :: .long x :: st))) P := hr.of fun _ k => XT.ldiv X.here hx rfl hd rfl hy k
theorem g_lrem (X : Stand p l e R s m args below meth c T locs cells slots) (hx : p.tables.exec = Jvm.exec) {x y : Int64} (hd : decode c.code pc = .ok (.lrem, 1)) (hy : y ≠ 0) (hr : Goes p.tables e below (T.setTop (mkF m (pc + 1) Ls (.long (x % y) :: st))) P) : Goes p.tables e below (T.setTop (mkF m pc Ls (.long y :: .long x :: st))) P := hr.of fun _ k => XT.lrem X.here hx rfl hd rfl hy (by rw [lrem_mod]; exact k)
theorem g_ineg (X : Stand p l e R s m args below meth c T locs cells slots) (hx : p.tables.exec = Jvm.exec) {x : Int32} (hd : decode c.code pc = .ok (.ineg, 1)) (hr : Goes p.tables e below (T.setTop (mkF m (pc + 1) Ls (.int (-x) :: st))) P) : Goes p.tables e below (T.setTop (mkF m pc Ls (.int x :: st))) P := hr.of fun _ k => XS.ineg X.here hx rfl hd rfl k
theorem g_lneg (X : Stand p l e R s m args below meth c T locs cells slots) (hx : p.tables.exec = Jvm.exec) {x : Int64} (hd : decode c.code pc = .ok (.lneg, 1)) (hr : Goes p.tables e below (T.setTop (mkF m (pc + 1) Ls (.long (-x) :: st))) P) : Goes p.tables e below (T.setTop (mkF m pc Ls (.long x :: st))) P := hr.of fun _ k => XT.lneg X.here hx rfl hd rfl k
theorem g_i2l (X : Stand p l e R s m args below meth c T locs cells slots) (hx : p.tables.exec = Jvm.exec) {x : Int32} (hd : decode c.code pc = .ok (.i2l, 1)) (hr : Goes p.tables e below (T.setTop (mkF m (pc + 1) Ls (.long (x.toInt64) :: st))) P) : Goes p.tables e below (T.setTop (mkF m pc Ls (.int x :: st))) P := hr.of fun _ k => XT.i2l X.here hx rfl hd rfl k
theorem g_l2i (X : Stand p l e R s m args below meth c T locs cells slots) (hx : p.tables.exec = Jvm.exec) {x : Int64} (hd : decode c.code pc = .ok (.l2i, 1)) (hr : Goes p.tables e below (T.setTop (mkF m (pc + 1) Ls (.int (x.toInt32) :: st))) P) : Goes p.tables e below (T.setTop (mkF m pc Ls (.long x :: st))) P := hr.of fun _ k => XT.l2i X.here hx rfl hd rfl k
theorem g_i2b (X : Stand p l e R s m args below meth c T locs cells slots) (hx : p.tables.exec = Jvm.exec) {x : Int32} (hd : decode c.code pc = .ok (.i2b, 1)) (hr : Goes p.tables e below (T.setTop (mkF m (pc + 1) Ls (.int (x.toInt8.toInt32) :: st))) P) : Goes p.tables e below (T.setTop (mkF m pc Ls (.int x :: st))) P := hr.of fun _ k => XT.i2b X.here hx rfl hd rfl k
theorem g_i2c (X : Stand p l e R s m args below meth c T locs cells slots) (hx : p.tables.exec = Jvm.exec) {x : Int32} (hd : decode c.code pc = .ok (.i2c, 1)) (hr : Goes p.tables e below (T.setTop (mkF m (pc + 1) Ls (.int (x.toUInt32.toUInt16.toUInt32.toInt32) :: st))) P) : Goes p.tables e below (T.setTop (mkF m pc Ls (.int x :: st))) P := hr.of fun _ k => XT.i2c X.here hx rfl hd rfl k
theorem g_i2s (X : Stand p l e R s m args below meth c T locs cells slots) (hx : p.tables.exec = Jvm.exec) {x : Int32} (hd : decode c.code pc = .ok (.i2s, 1)) (hr : Goes p.tables e below (T.setTop (mkF m (pc + 1) Ls (.int (x.toInt16.toInt32) :: st))) P) : Goes p.tables e below (T.setTop (mkF m pc Ls (.int x :: st))) P := hr.of fun _ k => XT.i2s X.here hx rfl hd rfl k
theorem g_lcmp (X : Stand p l e R s m args below meth c T locs cells slots) (hx : p.tables.exec = Jvm.exec) {x y : Int64} (hd : decode c.code pc = .ok (.lcmp, 1)) (hr : Goes p.tables e below (T.setTop (mkF m (pc + 1) Ls (.int (XT.cmpL x y) :: st))) P) : Goes p.tables e below (T.setTop (mkF m pc Ls (.long y :: .long x :: st))) P := hr.of fun _ k => XT.lcmp X.here hx rfl hd rfl k
theorem g_dup (X : Stand p l e R s m args below meth c T locs cells slots) (hx : p.tables.exec = Jvm.exec) {x : Value} (hd : decode c.code pc = .ok (.dup, 1)) (hc : x.category = 1) (hr : Goes p.tables e below (T.setTop (mkF m (pc + 1) Ls (x :: x :: st))) P) : Goes p.tables e below (T.setTop (mkF m pc Ls (x :: st))) P := hr.of fun _ k => XS.dup X.here hx rfl hd rfl hc k
theorem g_pop (X : Stand p l e R s m args below meth c T locs cells slots) (hx : p.tables.exec = Jvm.exec) {x : Value} (hd : decode c.code pc = .ok (.pop, 1)) (hc : x.category = 1) (hr : Goes p.tables e below (T.setTop (mkF m (pc + 1) Ls st)) P) : Goes p.tables e below (T.setTop (mkF m pc Ls (x :: st))) P := hr.of fun _ k => XT.pop X.here hx rfl hd rfl hc k
theorem g_dupX1 (X : Stand p l e R s m args below meth c T locs cells slots) (hx : p.tables.exec = Jvm.exec) {x y : Value} (hd : decode c.code pc = .ok (.dup_x1, 1)) (hc : x.category = 1) (hc' : y.category = 1) (hr : Goes p.tables e below (T.setTop (mkF m (pc + 1) Ls (x :: y :: x :: st))) P) : Goes p.tables e below (T.setTop (mkF m pc Ls (x :: y :: st))) P := hr.of fun _ k => XT.dupX1 X.here hx rfl hd rfl hc hc' k
theorem g_dup2 (X : Stand p l e R s m args below meth c T locs cells slots) (hx : p.tables.exec = Jvm.exec) {x y : Value} (hd : decode c.code pc = .ok (.dup2, 1)) (hc : x.category = 1) (hc' : y.category = 1) (hr : Goes p.tables e below (T.setTop (mkF m (pc + 1) Ls (x :: y :: x :: y :: st))) P) : Goes p.tables e below (T.setTop (mkF m pc Ls (x :: y :: st))) P := hr.of fun _ k => XT.dup2 X.here hx rfl hd rfl hc hc' k
theorem g_dup2L (X : Stand p l e R s m args below meth c T locs cells slots) (hx : p.tables.exec = Jvm.exec) {x : Int64} (hd : decode c.code pc = .ok (.dup2, 1)) (hr : Goes p.tables e below (T.setTop (mkF m (pc + 1) Ls (.long x :: .long x :: st))) P) : Goes p.tables e below (T.setTop (mkF m pc Ls (.long x :: st))) P := hr.of fun _ k => XT.dup2L X.here hx rfl hd rfl k
theorem g_iinc (X : Stand p l e R s m args below meth c T locs cells slots) (hx : p.tables.exec = Jvm.exec) {k : Nat} {cst : Int} {x : Int32} {l' : Array Slot} (v : Int32) (hd : decode c.code pc = .ok (.iinc k cst, 3)) (hv : Int32.ofInt cst = v) (hl : Ls[k]? = some (.val (.int x))) (hl' : storeLocals Ls k (.int (x + v)) = some l') (hr : Goes p.tables e below (T.setTop (mkF m (pc + 3) l' st)) P) : Goes p.tables e below (T.setTop (mkF m pc Ls st)) P := hr.of fun _ k => XT.iincV X.here hx rfl v hd hv hl hl' k
theorem g_goto (X : Stand p l e R s m args below meth c T locs cells slots) (hx : p.tables.exec = Jvm.exec) {o : Int} {pc' : Nat} (hd : decode c.code pc = .ok (.goto o, 3)) (ho : 0 ≤ (pc : Int) + o) (hp : ((pc : Int) + o).toNat = pc') (hr : Goes p.tables e below (T.setTop (mkF m pc' Ls st)) P) : Goes p.tables e below (T.setTop (mkF m pc Ls st)) P := hr.of fun _ k => XS.goto X.here hx rfl rfl hd ho hp k
theorem g_icmp_eq (X : Stand p l e R s m args below meth c T locs cells slots) (hx : p.tables.exec = Jvm.exec) {x y : Int32} {o : Int} {pc' : Nat} (hd : decode c.code pc = .ok (.if_icmp .eq o, 3)) (ho : 0 ≤ (pc : Int) + o) (hp : ((pc : Int) + o).toNat = pc') (hT : (x = y) → Goes p.tables e below (T.setTop (mkF m pc' Ls st)) P) (hF : (¬ x = y) → Goes p.tables e below (T.setTop (mkF m (pc + 3) Ls st)) P) : Goes p.tables e below (T.setTop (mkF m pc Ls (.int y :: .int x :: st))) P := by
  by_cases q : x = y
  · exact (hT q).of fun _ k => XS.icmpYes X.here hx rfl rfl hd rfl (XT.ii_eq_t q) ho hp k
  · exact (hF q).of fun _ k => XS.icmpNo X.here hx rfl hd rfl (XT.ii_eq_f q) k
theorem g_if_eq (X : Stand p l e R s m args below meth c T locs cells slots) (hx : p.tables.exec = Jvm.exec) {x : Int32} {o : Int} {pc' : Nat} (hd : decode c.code pc = .ok (.ifCond .eq o, 3)) (ho : 0 ≤ (pc : Int) + o) (hp : ((pc : Int) + o).toNat = pc') (hT : (x = 0) → Goes p.tables e below (T.setTop (mkF m pc' Ls st)) P) (hF : (¬ x = 0) → Goes p.tables e below (T.setTop (mkF m (pc + 3) Ls st)) P) : Goes p.tables e below (T.setTop (mkF m pc Ls (.int x :: st))) P := by
  by_cases q : x = 0
  · exact (hT q).of fun _ k => XS.ifYes X.here hx rfl rfl hd rfl (XT.i0_eq_t q) ho hp k
  · exact (hF q).of fun _ k => XS.ifNo X.here hx rfl hd rfl (XT.i0_eq_f q) k
theorem g_lif_eq (X : Stand p l e R s m args below meth c T locs cells slots) (hx : p.tables.exec = Jvm.exec) {x y : Int64} {o : Int} {pc' : Nat} (hd : decode c.code pc = .ok (.ifCond .eq o, 3)) (ho : 0 ≤ (pc : Int) + o) (hp : ((pc : Int) + o).toNat = pc') (hT : (x = y) → Goes p.tables e below (T.setTop (mkF m pc' Ls st)) P) (hF : (¬ x = y) → Goes p.tables e below (T.setTop (mkF m (pc + 3) Ls st)) P) : Goes p.tables e below (T.setTop (mkF m pc Ls (.int (XT.cmpL x y) :: st))) P := by
  by_cases q : x = y
  · exact (hT q).of fun _ k => XS.ifYes X.here hx rfl rfl hd rfl (XT.ll_eq_t q) ho hp k
  · exact (hF q).of fun _ k => XS.ifNo X.here hx rfl hd rfl (XT.ll_eq_f q) k
theorem g_icmp_ne (X : Stand p l e R s m args below meth c T locs cells slots) (hx : p.tables.exec = Jvm.exec) {x y : Int32} {o : Int} {pc' : Nat} (hd : decode c.code pc = .ok (.if_icmp .ne o, 3)) (ho : 0 ≤ (pc : Int) + o) (hp : ((pc : Int) + o).toNat = pc') (hT : (¬ x = y) → Goes p.tables e below (T.setTop (mkF m pc' Ls st)) P) (hF : (x = y) → Goes p.tables e below (T.setTop (mkF m (pc + 3) Ls st)) P) : Goes p.tables e below (T.setTop (mkF m pc Ls (.int y :: .int x :: st))) P := by
  by_cases q : x = y
  · exact (hF q).of fun _ k => XS.icmpNo X.here hx rfl hd rfl (XT.ii_ne_f q) k
  · exact (hT q).of fun _ k => XS.icmpYes X.here hx rfl rfl hd rfl (XT.ii_ne_t q) ho hp k
theorem g_if_ne (X : Stand p l e R s m args below meth c T locs cells slots) (hx : p.tables.exec = Jvm.exec) {x : Int32} {o : Int} {pc' : Nat} (hd : decode c.code pc = .ok (.ifCond .ne o, 3)) (ho : 0 ≤ (pc : Int) + o) (hp : ((pc : Int) + o).toNat = pc') (hT : (¬ x = 0) → Goes p.tables e below (T.setTop (mkF m pc' Ls st)) P) (hF : (x = 0) → Goes p.tables e below (T.setTop (mkF m (pc + 3) Ls st)) P) : Goes p.tables e below (T.setTop (mkF m pc Ls (.int x :: st))) P := by
  by_cases q : x = 0
  · exact (hF q).of fun _ k => XS.ifNo X.here hx rfl hd rfl (XT.i0_ne_f q) k
  · exact (hT q).of fun _ k => XS.ifYes X.here hx rfl rfl hd rfl (XT.i0_ne_t q) ho hp k
theorem g_lif_ne (X : Stand p l e R s m args below meth c T locs cells slots) (hx : p.tables.exec = Jvm.exec) {x y : Int64} {o : Int} {pc' : Nat} (hd : decode c.code pc = .ok (.ifCond .ne o, 3)) (ho : 0 ≤ (pc : Int) + o) (hp : ((pc : Int) + o).toNat = pc') (hT : (¬ x = y) → Goes p.tables e below (T.setTop (mkF m pc' Ls st)) P) (hF : (x = y) → Goes p.tables e below (T.setTop (mkF m (pc + 3) Ls st)) P) : Goes p.tables e below (T.setTop (mkF m pc Ls (.int (XT.cmpL x y) :: st))) P := by
  by_cases q : x = y
  · exact (hF q).of fun _ k => XS.ifNo X.here hx rfl hd rfl (XT.ll_ne_f q) k
  · exact (hT q).of fun _ k => XS.ifYes X.here hx rfl rfl hd rfl (XT.ll_ne_t q) ho hp k
theorem g_icmp_lt (X : Stand p l e R s m args below meth c T locs cells slots) (hx : p.tables.exec = Jvm.exec) {x y : Int32} {o : Int} {pc' : Nat} (hd : decode c.code pc = .ok (.if_icmp .lt o, 3)) (ho : 0 ≤ (pc : Int) + o) (hp : ((pc : Int) + o).toNat = pc') (hT : (x < y) → Goes p.tables e below (T.setTop (mkF m pc' Ls st)) P) (hF : (¬ x < y) → Goes p.tables e below (T.setTop (mkF m (pc + 3) Ls st)) P) : Goes p.tables e below (T.setTop (mkF m pc Ls (.int y :: .int x :: st))) P := by
  by_cases q : x < y
  · exact (hT q).of fun _ k => XS.icmpYes X.here hx rfl rfl hd rfl (XT.ii_lt_t q) ho hp k
  · exact (hF q).of fun _ k => XS.icmpNo X.here hx rfl hd rfl (XT.ii_lt_f q) k
theorem g_if_lt (X : Stand p l e R s m args below meth c T locs cells slots) (hx : p.tables.exec = Jvm.exec) {x : Int32} {o : Int} {pc' : Nat} (hd : decode c.code pc = .ok (.ifCond .lt o, 3)) (ho : 0 ≤ (pc : Int) + o) (hp : ((pc : Int) + o).toNat = pc') (hT : (x < 0) → Goes p.tables e below (T.setTop (mkF m pc' Ls st)) P) (hF : (¬ x < 0) → Goes p.tables e below (T.setTop (mkF m (pc + 3) Ls st)) P) : Goes p.tables e below (T.setTop (mkF m pc Ls (.int x :: st))) P := by
  by_cases q : x < 0
  · exact (hT q).of fun _ k => XS.ifYes X.here hx rfl rfl hd rfl (XT.i0_lt_t q) ho hp k
  · exact (hF q).of fun _ k => XS.ifNo X.here hx rfl hd rfl (XT.i0_lt_f q) k
theorem g_lif_lt (X : Stand p l e R s m args below meth c T locs cells slots) (hx : p.tables.exec = Jvm.exec) {x y : Int64} {o : Int} {pc' : Nat} (hd : decode c.code pc = .ok (.ifCond .lt o, 3)) (ho : 0 ≤ (pc : Int) + o) (hp : ((pc : Int) + o).toNat = pc') (hT : (x < y) → Goes p.tables e below (T.setTop (mkF m pc' Ls st)) P) (hF : (¬ x < y) → Goes p.tables e below (T.setTop (mkF m (pc + 3) Ls st)) P) : Goes p.tables e below (T.setTop (mkF m pc Ls (.int (XT.cmpL x y) :: st))) P := by
  by_cases q : x < y
  · exact (hT q).of fun _ k => XS.ifYes X.here hx rfl rfl hd rfl (XT.ll_lt_t q) ho hp k
  · exact (hF q).of fun _ k => XS.ifNo X.here hx rfl hd rfl (XT.ll_lt_f q) k
theorem g_icmp_ge (X : Stand p l e R s m args below meth c T locs cells slots) (hx : p.tables.exec = Jvm.exec) {x y : Int32} {o : Int} {pc' : Nat} (hd : decode c.code pc = .ok (.if_icmp .ge o, 3)) (ho : 0 ≤ (pc : Int) + o) (hp : ((pc : Int) + o).toNat = pc') (hT : (¬ x < y) → Goes p.tables e below (T.setTop (mkF m pc' Ls st)) P) (hF : (x < y) → Goes p.tables e below (T.setTop (mkF m (pc + 3) Ls st)) P) : Goes p.tables e below (T.setTop (mkF m pc Ls (.int y :: .int x :: st))) P := by
  by_cases q : x < y
  · exact (hF q).of fun _ k => XS.icmpNo X.here hx rfl hd rfl (XT.ii_ge_f q) k
  · exact (hT q).of fun _ k => XS.icmpYes X.here hx rfl rfl hd rfl (XT.ii_ge_t q) ho hp k
theorem g_if_ge (X : Stand p l e R s m args below meth c T locs cells slots) (hx : p.tables.exec = Jvm.exec) {x : Int32} {o : Int} {pc' : Nat} (hd : decode c.code pc = .ok (.ifCond .ge o, 3)) (ho : 0 ≤ (pc : Int) + o) (hp : ((pc : Int) + o).toNat = pc') (hT : (¬ x < 0) → Goes p.tables e below (T.setTop (mkF m pc' Ls st)) P) (hF : (x < 0) → Goes p.tables e below (T.setTop (mkF m (pc + 3) Ls st)) P) : Goes p.tables e below (T.setTop (mkF m pc Ls (.int x :: st))) P := by
  by_cases q : x < 0
  · exact (hF q).of fun _ k => XS.ifNo X.here hx rfl hd rfl (XT.i0_ge_f q) k
  · exact (hT q).of fun _ k => XS.ifYes X.here hx rfl rfl hd rfl (XT.i0_ge_t q) ho hp k
theorem g_lif_ge (X : Stand p l e R s m args below meth c T locs cells slots) (hx : p.tables.exec = Jvm.exec) {x y : Int64} {o : Int} {pc' : Nat} (hd : decode c.code pc = .ok (.ifCond .ge o, 3)) (ho : 0 ≤ (pc : Int) + o) (hp : ((pc : Int) + o).toNat = pc') (hT : (¬ x < y) → Goes p.tables e below (T.setTop (mkF m pc' Ls st)) P) (hF : (x < y) → Goes p.tables e below (T.setTop (mkF m (pc + 3) Ls st)) P) : Goes p.tables e below (T.setTop (mkF m pc Ls (.int (XT.cmpL x y) :: st))) P := by
  by_cases q : x < y
  · exact (hF q).of fun _ k => XS.ifNo X.here hx rfl hd rfl (XT.ll_ge_f q) k
  · exact (hT q).of fun _ k => XS.ifYes X.here hx rfl rfl hd rfl (XT.ll_ge_t q) ho hp k
theorem g_icmp_gt (X : Stand p l e R s m args below meth c T locs cells slots) (hx : p.tables.exec = Jvm.exec) {x y : Int32} {o : Int} {pc' : Nat} (hd : decode c.code pc = .ok (.if_icmp .gt o, 3)) (ho : 0 ≤ (pc : Int) + o) (hp : ((pc : Int) + o).toNat = pc') (hT : (y < x) → Goes p.tables e below (T.setTop (mkF m pc' Ls st)) P) (hF : (¬ y < x) → Goes p.tables e below (T.setTop (mkF m (pc + 3) Ls st)) P) : Goes p.tables e below (T.setTop (mkF m pc Ls (.int y :: .int x :: st))) P := by
  by_cases q : y < x
  · exact (hT q).of fun _ k => XS.icmpYes X.here hx rfl rfl hd rfl (XT.ii_gt_t q) ho hp k
  · exact (hF q).of fun _ k => XS.icmpNo X.here hx rfl hd rfl (XT.ii_gt_f q) k
theorem g_if_gt (X : Stand p l e R s m args below meth c T locs cells slots) (hx : p.tables.exec = Jvm.exec) {x : Int32} {o : Int} {pc' : Nat} (hd : decode c.code pc = .ok (.ifCond .gt o, 3)) (ho : 0 ≤ (pc : Int) + o) (hp : ((pc : Int) + o).toNat = pc') (hT : (0 < x) → Goes p.tables e below (T.setTop (mkF m pc' Ls st)) P) (hF : (¬ 0 < x) → Goes p.tables e below (T.setTop (mkF m (pc + 3) Ls st)) P) : Goes p.tables e below (T.setTop (mkF m pc Ls (.int x :: st))) P := by
  by_cases q : 0 < x
  · exact (hT q).of fun _ k => XS.ifYes X.here hx rfl rfl hd rfl (XT.i0_gt_t q) ho hp k
  · exact (hF q).of fun _ k => XS.ifNo X.here hx rfl hd rfl (XT.i0_gt_f q) k
theorem g_lif_gt (X : Stand p l e R s m args below meth c T locs cells slots) (hx : p.tables.exec = Jvm.exec) {x y : Int64} {o : Int} {pc' : Nat} (hd : decode c.code pc = .ok (.ifCond .gt o, 3)) (ho : 0 ≤ (pc : Int) + o) (hp : ((pc : Int) + o).toNat = pc') (hT : (y < x) → Goes p.tables e below (T.setTop (mkF m pc' Ls st)) P) (hF : (¬ y < x) → Goes p.tables e below (T.setTop (mkF m (pc + 3) Ls st)) P) : Goes p.tables e below (T.setTop (mkF m pc Ls (.int (XT.cmpL x y) :: st))) P := by
  by_cases q : y < x
  · exact (hT q).of fun _ k => XS.ifYes X.here hx rfl rfl hd rfl (XT.ll_gt_t q) ho hp k
  · exact (hF q).of fun _ k => XS.ifNo X.here hx rfl hd rfl (XT.ll_gt_f q) k
theorem g_icmp_le (X : Stand p l e R s m args below meth c T locs cells slots) (hx : p.tables.exec = Jvm.exec) {x y : Int32} {o : Int} {pc' : Nat} (hd : decode c.code pc = .ok (.if_icmp .le o, 3)) (ho : 0 ≤ (pc : Int) + o) (hp : ((pc : Int) + o).toNat = pc') (hT : (¬ y < x) → Goes p.tables e below (T.setTop (mkF m pc' Ls st)) P) (hF : (y < x) → Goes p.tables e below (T.setTop (mkF m (pc + 3) Ls st)) P) : Goes p.tables e below (T.setTop (mkF m pc Ls (.int y :: .int x :: st))) P := by
  by_cases q : y < x
  · exact (hF q).of fun _ k => XS.icmpNo X.here hx rfl hd rfl (XT.ii_le_f q) k
  · exact (hT q).of fun _ k => XS.icmpYes X.here hx rfl rfl hd rfl (XT.ii_le_t q) ho hp k
theorem g_if_le (X : Stand p l e R s m args below meth c T locs cells slots) (hx : p.tables.exec = Jvm.exec) {x : Int32} {o : Int} {pc' : Nat} (hd : decode c.code pc = .ok (.ifCond .le o, 3)) (ho : 0 ≤ (pc : Int) + o) (hp : ((pc : Int) + o).toNat = pc') (hT : (¬ 0 < x) → Goes p.tables e below (T.setTop (mkF m pc' Ls st)) P) (hF : (0 < x) → Goes p.tables e below (T.setTop (mkF m (pc + 3) Ls st)) P) : Goes p.tables e below (T.setTop (mkF m pc Ls (.int x :: st))) P := by
  by_cases q : 0 < x
  · exact (hF q).of fun _ k => XS.ifNo X.here hx rfl hd rfl (XT.i0_le_f q) k
  · exact (hT q).of fun _ k => XS.ifYes X.here hx rfl rfl hd rfl (XT.i0_le_t q) ho hp k
theorem g_lif_le (X : Stand p l e R s m args below meth c T locs cells slots) (hx : p.tables.exec = Jvm.exec) {x y : Int64} {o : Int} {pc' : Nat} (hd : decode c.code pc = .ok (.ifCond .le o, 3)) (ho : 0 ≤ (pc : Int) + o) (hp : ((pc : Int) + o).toNat = pc') (hT : (¬ y < x) → Goes p.tables e below (T.setTop (mkF m pc' Ls st)) P) (hF : (y < x) → Goes p.tables e below (T.setTop (mkF m (pc + 3) Ls st)) P) : Goes p.tables e below (T.setTop (mkF m pc Ls (.int (XT.cmpL x y) :: st))) P := by
  by_cases q : y < x
  · exact (hF q).of fun _ k => XS.ifNo X.here hx rfl hd rfl (XT.ll_le_f q) k
  · exact (hT q).of fun _ k => XS.ifYes X.here hx rfl rfl hd rfl (XT.ll_le_t q) ho hp k
theorem g_ifnull_ref (X : Stand p l e R s m args below meth c T locs cells slots) (hx : p.tables.exec = Jvm.exec) {b : Addr} {o : Int} (hd : decode c.code pc = .ok (.ifnull o, 3)) (hr : Goes p.tables e below (T.setTop (mkF m (pc + 3) Ls st)) P) : Goes p.tables e below (T.setTop (mkF m pc Ls (.ref b :: st))) P := hr.of fun _ k => XS.ifnullNo X.here hx rfl hd rfl k
theorem g_ifnull_null (X : Stand p l e R s m args below meth c T locs cells slots) (hx : p.tables.exec = Jvm.exec)  {o : Int} {pc' : Nat} (hd : decode c.code pc = .ok (.ifnull o, 3)) (ho : 0 ≤ (pc : Int) + o) (hp : ((pc : Int) + o).toNat = pc') (hr : Goes p.tables e below (T.setTop (mkF m pc' Ls st)) P) : Goes p.tables e below (T.setTop (mkF m pc Ls (.null :: st))) P := hr.of fun _ k => XS.ifnullYes X.here hx rfl rfl hd rfl ho hp k
theorem g_ifnonnull_ref (X : Stand p l e R s m args below meth c T locs cells slots) (hx : p.tables.exec = Jvm.exec) {b : Addr} {o : Int} {pc' : Nat} (hd : decode c.code pc = .ok (.ifnonnull o, 3)) (ho : 0 ≤ (pc : Int) + o) (hp : ((pc : Int) + o).toNat = pc') (hr : Goes p.tables e below (T.setTop (mkF m pc' Ls st)) P) : Goes p.tables e below (T.setTop (mkF m pc Ls (.ref b :: st))) P := hr.of fun _ k => XT.ifnonnullYes X.here hx rfl rfl hd rfl ho hp k
theorem g_ifnonnull_null (X : Stand p l e R s m args below meth c T locs cells slots) (hx : p.tables.exec = Jvm.exec)  {o : Int} (hd : decode c.code pc = .ok (.ifnonnull o, 3)) (hr : Goes p.tables e below (T.setTop (mkF m (pc + 3) Ls st)) P) : Goes p.tables e below (T.setTop (mkF m pc Ls (.null :: st))) P := hr.of fun _ k => XT.ifnonnullNo X.here hx rfl hd rfl k
theorem g_acmp_eq (X : Stand p l e R s m args below meth c T locs cells slots) (hx : p.tables.exec = Jvm.exec) {x y : Value} (hx' : x.isRef = true) (hy' : y.isRef = true) {o : Int} {pc' : Nat} (hd : decode c.code pc = .ok (.if_acmp .eq o, 3)) (ho : 0 ≤ (pc : Int) + o) (hp : ((pc : Int) + o).toNat = pc') (hT : (x = y) → Goes p.tables e below (T.setTop (mkF m pc' Ls st)) P) (hF : (¬ x = y) → Goes p.tables e below (T.setTop (mkF m (pc + 3) Ls st)) P) : Goes p.tables e below (T.setTop (mkF m pc Ls (y :: x :: st))) P := by
  by_cases q : x = y
  · exact (hT q).of fun _ k => XT.acmpYes X.here hx rfl rfl hd rfl hx' hy' (by simp [XT.acmp, q]) ho hp k
  · exact (hF q).of fun _ k => XT.acmpNo X.here hx rfl hd rfl hx' hy' (by simp [XT.acmp, q]) k
theorem g_acmp_ne (X : Stand p l e R s m args below meth c T locs cells slots) (hx : p.tables.exec = Jvm.exec) {x y : Value} (hx' : x.isRef = true) (hy' : y.isRef = true) {o : Int} {pc' : Nat} (hd : decode c.code pc = .ok (.if_acmp .ne o, 3)) (ho : 0 ≤ (pc : Int) + o) (hp : ((pc : Int) + o).toNat = pc') (hT : (¬ x = y) → Goes p.tables e below (T.setTop (mkF m pc' Ls st)) P) (hF : (x = y) → Goes p.tables e below (T.setTop (mkF m (pc + 3) Ls st)) P) : Goes p.tables e below (T.setTop (mkF m pc Ls (y :: x :: st))) P := by
  by_cases q : x = y
  · exact (hF q).of fun _ k => XT.acmpNo X.here hx rfl hd rfl hx' hy' (by simp [XT.acmp, q]) k
  · exact (hT q).of fun _ k => XT.acmpYes X.here hx rfl rfl hd rfl hx' hy' (by simp [XT.acmp, q]) ho hp k
/-- what a body owes at its end: it returned v, Q holds of it, the heap and the places written, within C cells and N slots -/
abbrev Fin (s : State) (C N : Nat) (Q : Option Value → Heap → List Loc → Prop) : State → Outcome → Prop := fun s₂ o => ∃ v L, o = .returned v ∧ Q v s₂.heap L ∧ FrameEnd s o s₂ L C N
variable {C N : Nat} {Q : Option Value → Heap → List Loc → Prop}
theorem g_ret (X : Stand p l e R s m args below meth c T locs cells slots) (hx : p.tables.exec = Jvm.exec) {w : Value} {t : FieldType} {i : Instr} (hret : meth.sig.returnType = some t) (hk : meth.locks = false) (hn : narrow t w = w)
    (hi : (i = .ireturn ∧ (t = .int ∨ t = .boolean ∨ t = .byte ∨ t = .char ∨ t = .short) ∧ ∃ z, w = .int z) ∨ (i = .lreturn ∧ t = .long ∧ ∃ z, w = .long z) ∨ (i = .dreturn ∧ t = .double ∧ ∃ z, w = .double z) ∨ (i = .freturn ∧ t = .float ∧ ∃ z, w = .float z) ∨ (i = .areturn ∧ t.isReference = true ∧ w.isRef = true))
    (hd : decode c.code pc = .ok (i, 1)) (hc : cells ≤ C) (hs : slots ≤ N) (hQ : Q (some w) T.heap locs) : Goes p.tables e below (T.setTop (mkF m pc Ls (w :: st))) (Fin s C N Q) := by
  obtain ⟨fs, hr, hrun, hended, hW, hsame⟩ := X.leave (v := some w) (fun h => by rw [hret] at h; cases h) hk
  exact ⟨_, _, retOut X hx hret hn hi hd hr, hrun, hended, _, _, rfl, hQ, ⟨_, rfl⟩, hW, hsame.mono hc hs⟩
theorem g_retI (X : Stand p l e R s m args below meth c T locs cells slots) (hx : p.tables.exec = Jvm.exec) {z : Int32} (hret : meth.sig.returnType = some .int) (hk : meth.locks = false) (hd : decode c.code pc = .ok (.ireturn, 1)) (hc : cells ≤ C) (hs : slots ≤ N) (hQ : Q (some (.int z)) T.heap locs) :
    Goes p.tables e below (T.setTop (mkF m pc Ls (.int z :: st))) (Fin s C N Q) := g_ret X hx hret hk rfl (Or.inl ⟨rfl, Or.inl rfl, _, rfl⟩) hd hc hs hQ
theorem g_retL (X : Stand p l e R s m args below meth c T locs cells slots) (hx : p.tables.exec = Jvm.exec) {z : Int64} (hret : meth.sig.returnType = some .long) (hk : meth.locks = false) (hd : decode c.code pc = .ok (.lreturn, 1)) (hc : cells ≤ C) (hs : slots ≤ N) (hQ : Q (some (.long z)) T.heap locs) :
    Goes p.tables e below (T.setTop (mkF m pc Ls (.long z :: st))) (Fin s C N Q) := g_ret X hx hret hk rfl (Or.inr (Or.inl ⟨rfl, rfl, _, rfl⟩)) hd hc hs hQ
theorem g_retA (X : Stand p l e R s m args below meth c T locs cells slots) (hx : p.tables.exec = Jvm.exec) {w : Value} {t : FieldType} (hret : meth.sig.returnType = some t) (hk : meth.locks = false) (ht : t.isReference = true) (hw : w.isRef = true) (hd : decode c.code pc = .ok (.areturn, 1)) (hc : cells ≤ C) (hs : slots ≤ N) (hQ : Q (some w) T.heap locs) :
    Goes p.tables e below (T.setTop (mkF m pc Ls (w :: st))) (Fin s C N Q) := g_ret X hx hret hk (by cases t <;> simp [FieldType.isReference] at ht <;> cases w <;> simp [Value.isRef] at hw <;> rfl) (Or.inr (Or.inr (Or.inr (Or.inr ⟨rfl, ht, hw⟩)))) hd hc hs hQ
theorem g_retZ (X : Stand p l e R s m args below meth c T locs cells slots) (hx : p.tables.exec = Jvm.exec) {z : Int32} (hz : z = 0 ∨ z = 1) (hret : meth.sig.returnType = some .boolean) (hk : meth.locks = false) (hd : decode c.code pc = .ok (.ireturn, 1)) (hc : cells ≤ C) (hs : slots ≤ N) (hQ : Q (some (.int z)) T.heap locs) :
    Goes p.tables e below (T.setTop (mkF m pc Ls (.int z :: st))) (Fin s C N Q) := g_ret X hx hret hk (by rcases hz with rfl | rfl <;> rfl) (Or.inl ⟨rfl, Or.inr (Or.inl rfl), _, rfl⟩) hd hc hs hQ
theorem g_retB (X : Stand p l e R s m args below meth c T locs cells slots) (hx : p.tables.exec = Jvm.exec) {z : Int32} (hz : z.toInt8.toInt32 = z) (hret : meth.sig.returnType = some .byte) (hk : meth.locks = false) (hd : decode c.code pc = .ok (.ireturn, 1)) (hc : cells ≤ C) (hs : slots ≤ N) (hQ : Q (some (.int z)) T.heap locs) :
    Goes p.tables e below (T.setTop (mkF m pc Ls (.int z :: st))) (Fin s C N Q) := g_ret X hx hret hk (by show Value.int z.toInt8.toInt32 = _; rw [hz]) (Or.inl ⟨rfl, Or.inr (Or.inr (Or.inl rfl)), _, rfl⟩) hd hc hs hQ
theorem g_ret0 (X : Stand p l e R s m args below meth c T locs cells slots) (hx : p.tables.exec = Jvm.exec) (hret : meth.sig.returnType = none) (hk : meth.locks = false) (hd : decode c.code pc = .ok (.return_, 1)) (hc : cells ≤ C) (hs : slots ≤ N) (hQ : Q none T.heap locs) :
    Goes p.tables e below (T.setTop (mkF m pc Ls [])) (Fin s C N Q) := by
  obtain ⟨fs, hr, hrun, hended, hW, hsame⟩ := X.leave (v := none) (fun _ => rfl) hk
  exact ⟨_, _, X.returnOut hx hret hd hr, hrun, hended, _, _, rfl, hQ, ⟨_, rfl⟩, hW, hsame.mono hc hs⟩
/-- the contract of a body, at these arguments and this heap -/
def Con (l : Launch) (Z : State) (y : MethodName) (bytes : ByteArray) (maxL : Nat) (ret : Option FieldType) (ws : List Jvm.Cond) (rm : Room) (C N : Nat) (as' : Array Value) (h : Heap) (Q : Option Value → Heap → List Loc → Prop) : Prop :=
  MetFree l y (head1 (Jvm.Cond.code y bytes maxL ret :: ws) rm) (fun a U => a = as' ∧ Z.Warmed39 U.vm ∧ U.heap = h) (fun _ _ _ _ _ => True) (fun _ U o U' => ∃ v L, o = .returned v ∧ Q v U'.heap L ∧ FrameEnd U o U' L C N)
theorem Con.body {y : MethodName} {bytes : ByteArray} {maxL : Nat} {ret : Option FieldType} {ws : List Jvm.Cond} {rm : Room} {as' : Array Value} (hp : plainFor y = true)
    (body : ∀ (p : Program) (e : Env) (s : State) (m : MethodId) (below : List Frame) (meth : Method) (c : Code) (T : State), p.tables.exec = Jvm.exec → c.code = bytes → c.maxLocals = maxL → s.vm.findClass y.cls = some m.cls → meth.name = y.name → Z.Warmed39 s.vm → meth.sig.returnType = ret → meth.locks = false →
      Stand p l e rm s m as' below meth c T [] 0 0 → T.heap = h → Goes p.tables e below (T.setTop (entryFrame m as' maxL)) (Fin s C N Q)) : Con l Z y bytes maxL ret ws rm C N as' h Q := by
  refine MetFree.of_bodySF hp hisR ?_
  intro p e s m args below meth c s₁ Bd hml hP hK
  obtain ⟨rfl, hZ, hh⟩ := hP
  exact body p e s m below meth c s₁ Bd.exec Bd.bytes hml (findClass_of_methodNamed Bd.named) (name_of_methodNamed Bd.named Bd.method).1 hZ Bd.returns (BodyLoose.notSynchronized Bd) (Stand.of_body Bd) (by rw [← hh, Bd.state]; rfl)
variable {y : MethodName} {bytes : ByteArray} {maxL : Nat} {ret : Option FieldType} {rm : Room} {as' : Array Value} {own : String} {index W : Nat} {argsL : List Value}
/-- a static call by the callee's contract -/
theorem g_callS (X : Stand p l e R s m args below meth c T locs cells slots) (hx : p.tables.exec = Jvm.exec) (hZ : Z.Warmed39 s.vm) (hown : s.vm.findClass own = some m.cls) (hml : Ls.size = c.maxLocals) (eT : T.heap = h)
    (wl : (Jvm.Cond.methodLink own index y).before a0 Z = true) (wt : (Jvm.Cond.static y).before a0 Z = true) (wz : (Jvm.Cond.initialized y.cls).before a0 Z = true) (wc : (Jvm.Cond.code y bytes maxL ret).before a0 Z = true)
    (hM : Con l Z y bytes maxL ret [] rm rm.cells rm.slots as' h Q) (argsL : List Value) (has : argsL.toArray = as') {S : List Value} (st : List Value) (hS : S = argsL.reverse ++ st) (hlen : ∀ sig, parseMethodDescriptor y.desc = some sig → argsL.length = sig.parameters.length)
    (hd : decode c.code pc = .ok (.invokestatic index, 3)) (hy : y.cls ≠ "java/lang/invoke/MethodHandle" ∧ y.cls ≠ "java/lang/invoke/VarHandle") (W : Nat) (hf : rm.frames + 1 ≤ R.frames) (hl : W + (maxL + 11) + rm.locals ≤ R.locals) (hW : (st.map fun v => v.category).sum ≤ W) (hc : cells + rm.cells ≤ R.cells) (hs : slots + rm.slots ≤ R.slots)
    (k : ∀ v T' L, Stand p l e R s m args below meth c T' (locs ++ L) (cells + rm.cells) (slots + rm.slots) → Q v T'.heap L → Goes p.tables e below (T'.setTop (mkF m (pc + 3) Ls (v.toList ++ st))) P) :
    Goes p.tables e below (T.setTop (mkF m pc Ls S)) P := by
  subst hS
  obtain ⟨v, vm₁, ⟨T', L', k', n'⟩, -, X', ⟨L, hQ, e1, e2, e3⟩, st'⟩ := Jvm.LawKit.callS X hx (y := y) hown (mvT hZ wl) (mvT hZ wt) (mvT hZ wz) (mvT hZ wc) hy (backOf (W := W) hM hZ wc wz hf hl) (g := mkF m pc Ls (argsL.reverse ++ st)) rfl hml (argsL := argsL) (rest := st) hlen rfl (by show 2 * 0 + _ ≤ _; omega) hd (fun _ _ => ⟨has, eT, hc, hs⟩)
  dsimp only [Pt.U, Pt.locs, Pt.cells, Pt.slots] at X' e1 e2 e3 st' hQ
  subst e1 e2 e3
  exact (k v T' L X' hQ).of st'
/-- a constructor by its contract -/
theorem g_callI (X : Stand p l e R s m args below meth c T locs cells slots) (hx : p.tables.exec = Jvm.exec) (hZ : Z.Warmed39 s.vm) (hown : s.vm.findClass own = some m.cls) (hml : Ls.size = c.maxLocals) (eT : T.heap = h) (hn : y.name = "<init>")
    (wl : (Jvm.Cond.methodLink own index y).before a0 Z = true) (wt : (Jvm.Cond.instanceMethod y).before a0 Z = true) (wz : (Jvm.Cond.initialized y.cls).before a0 Z = true) (wc : (Jvm.Cond.code y bytes maxL none).before a0 Z = true)
    (hM : Con l Z y bytes maxL none [] rm rm.cells rm.slots as' h Q) (a : Addr) (argsL : List Value) (has : (.ref a :: argsL).toArray = as') {S : List Value} (st : List Value) (hS : S = argsL.reverse ++ .ref a :: st) (hlen : ∀ sig, parseMethodDescriptor y.desc = some sig → argsL.length = sig.parameters.length)
    (hd : decode c.code pc = .ok (.invokespecial index, 3)) (hy : y.cls ≠ "java/lang/invoke/MethodHandle" ∧ y.cls ≠ "java/lang/invoke/VarHandle") (W : Nat) (hf : rm.frames + 1 ≤ R.frames) (hl : W + (maxL + 11) + rm.locals ≤ R.locals) (hW : (st.map fun v => v.category).sum ≤ W) (hc : cells + rm.cells ≤ R.cells) (hs : slots + rm.slots ≤ R.slots)
    (k : ∀ v T' L, Stand p l e R s m args below meth c T' (locs ++ L) (cells + rm.cells) (slots + rm.slots) → Q v T'.heap L → Goes p.tables e below (T'.setTop (mkF m (pc + 3) Ls (v.toList ++ st))) P) :
    Goes p.tables e below (T.setTop (mkF m pc Ls S)) P := by
  subst hS
  obtain ⟨v, vm₁, ⟨T', L', k', n'⟩, -, X', ⟨L, hQ, e1, e2, e3⟩, st'⟩ := X.specialBack hx (y := y) hn hown (mvT hZ wl) (mvT hZ wt) (mvT hZ wc) hy (backOf (W := W) hM hZ wc wz hf hl) (g := mkF m pc Ls (argsL.reverse ++ .ref a :: st)) rfl hml (Steps.refl _) (a := a) (argsL := argsL) (rest := st) hlen rfl (by show 2 * 0 + _ ≤ _; omega) hd (fun _ _ => ⟨has, eT, hc, hs⟩)
  dsimp only [Pt.U, Pt.locs, Pt.cells, Pt.slots] at X' e1 e2 e3 st' hQ
  subst e1 e2 e3
  exact (k v T' L X' hQ).tr st'
/-- an instance method by its contract -/
theorem g_callV (X : Stand p l e R s m args below meth c T locs cells slots) (hx : p.tables.exec = Jvm.exec) (hZ : Z.Warmed39 s.vm) (hown : s.vm.findClass own = some m.cls) (hml : Ls.size = c.maxLocals) (eT : T.heap = h) {K : String}
    (wl : (Jvm.Cond.methodLink own index y).before a0 Z = true) (wd : (Jvm.Cond.declares y).before a0 Z = true) (wv : (Jvm.Cond.selects K y y).before a0 Z = true) (wt : (Jvm.Cond.instanceMethod y).before a0 Z = true) (wz : (Jvm.Cond.initialized y.cls).before a0 Z = true) (wc : (Jvm.Cond.code y bytes maxL ret).before a0 Z = true)
    {a : Addr} (E : Exa Z h a K) (hM : Con l Z y bytes maxL ret [] rm rm.cells rm.slots as' h Q) (argsL : List Value) (has : (.ref a :: argsL).toArray = as') {S : List Value} (st : List Value) (hS : S = argsL.reverse ++ .ref a :: st) (hlen : ∀ sig, parseMethodDescriptor y.desc = some sig → argsL.length = sig.parameters.length)
    (hd : decode c.code pc = .ok (.invokevirtual index, 3)) (hy : y.cls ≠ "java/lang/invoke/MethodHandle" ∧ y.cls ≠ "java/lang/invoke/VarHandle") (W : Nat) (hf : rm.frames + 1 ≤ R.frames) (hl : W + (maxL + 11) + rm.locals ≤ R.locals) (hW : (st.map fun v => v.category).sum ≤ W) (hc : cells + rm.cells ≤ R.cells) (hs : slots + rm.slots ≤ R.slots)
    (k : ∀ v T' L, Stand p l e R s m args below meth c T' (locs ++ L) (cells + rm.cells) (slots + rm.slots) → Q v T'.heap L → Goes p.tables e below (T'.setTop (mkF m (pc + 3) Ls (v.toList ++ st))) P) :
    Goes p.tables e below (T.setTop (mkF m pc Ls S)) P := by
  subst hS
  obtain ⟨cq, kq, qa, qb, qc⟩ := isOf hZ eT E
  obtain ⟨v, vm₁, ⟨T', L', k', n'⟩, -, X', ⟨L, hQ, e1, e2, e3⟩, st'⟩ := X.virtualBack hx (y := y) (z := y) hown (mvT hZ wl) (mvT hZ wd) (notFace_of_selects (args := #[]) (mvT hZ wv)) (mvT hZ wv) (mvT hZ wt) hy (backOf (W := W) hM hZ wc wz hf hl) qa qc (g := mkF m pc Ls (argsL.reverse ++ .ref a :: st)) rfl hml (Steps.refl _) (argsL := argsL) (rest := st) hlen rfl (by show 2 * 0 + _ ≤ _; omega) hd (fun _ _ => ⟨has, eT, hc, hs⟩)
  dsimp only [Pt.U, Pt.locs, Pt.cells, Pt.slots] at X' e1 e2 e3 st' hQ
  subst e1 e2 e3
  exact (k v T' L X' hQ).tr st'
/-! objects -/
section Objects
variable {own K O R0 nm d host : String} {index kk : Nat} {a : Addr}
theorem g_new (X : Stand p l e R s m args below meth c T locs cells slots) (hx : p.tables.exec = Jvm.exec) (hZ : Z.Warmed39 s.vm) (hown : s.vm.findClass own = some m.cls) (eT : T.heap = h) (w : (Jvm.Cond.classLink own index K).before a0 Z = true) (wi : (Jvm.Cond.instantiable K kk).before a0 Z = true) (wz : (Jvm.Cond.initialized K).before a0 Z = true)
    (hd : decode c.code pc = .ok (.new index, 3)) (hc : cells + 1 ≤ R.cells) (hl : slots + kk ≤ R.slots)
    (k : ∀ T' h' a, a = h.size → Stand p l e R s m args below meth c T' locs (cells + 1) (slots + kk) → T'.heap = h' → Ext h h' → Exa Z h' a K → (∀ {O nm d : String} {ty : FieldType}, Laid Z a0 K O nm d → parseFieldDescriptor d = some ty → Fld Z h' a O nm d (defaultValue ty)) → Goes p.tables e below (T'.setTop (mkF m (pc + 3) Ls (.ref a :: st))) P) :
    Goes p.tables e below (T.setTop (mkF m pc Ls st)) P := by
  obtain ⟨T', h', X', e', E, A, D, -, st'⟩ := newO X hx hZ hown w wi wz eT (g := mkF m pc Ls st) rfl hd hc hl
  exact (k T' h' _ rfl X' e' E A D).of st'
theorem g_init0 (X : Stand p l e R s m args below meth c T locs cells slots) (hx : p.tables.exec = Jvm.exec) (hZ : Z.Warmed39 s.vm) (hown : s.vm.findClass own = some m.cls) (hml : Ls.size = c.maxLocals) (eT : T.heap = h) (w1 : (Jvm.Cond.methodLink own index Lib.objectInit).before a0 Z = true) (w2 : (Jvm.Cond.instanceMethod Lib.objectInit).before a0 Z = true)
    (w3 : (Jvm.Cond.code Lib.objectInit ⟨#[0xb1]⟩ 1 none).before a0 Z = true) (hd : decode c.code pc = .ok (.invokespecial index, 3)) (W : Nat) (hf : 1 ≤ R.frames) (hW : (st.map fun v => v.category).sum ≤ W) (hl : W + 12 ≤ R.locals)
    (k : ∀ T', Stand p l e R s m args below meth c T' locs cells slots → T'.heap = h → Goes p.tables e below (T'.setTop (mkF m (pc + 3) Ls st)) P) : Goes p.tables e below (T.setTop (mkF m pc Ls (.ref a :: st))) P := by
  obtain ⟨T', X', e', st'⟩ := initO X hx hZ hown w1 w2 w3 eT (g := mkF m pc Ls (.ref a :: st)) rfl hml rfl hd hf (W := W) (by show 2 * 0 + _ ≤ _; omega) hl
  exact (k T' X' e').of st'
theorem g_getF (X : Stand p l e R s m args below meth c T locs cells slots) (hx : p.tables.exec = Jvm.exec) (hZ : Z.Warmed39 s.vm) (hown : s.vm.findClass own = some m.cls) (eT : T.heap = h) (w : (Jvm.Cond.fieldLink own index R0 nm d).before a0 Z = true ∨ (Jvm.Cond.fieldLinkNest own index R0 nm d host).before a0 Z = true) (via : Via Z R0 O nm d)
    {v : Value} (F : Fld Z h a O nm d v) (hd : decode c.code pc = .ok (.getfield index, 3))
    (k : ∀ T', Stand p l e R s m args below meth c T' locs cells slots → T'.heap = h → Goes p.tables e below (T'.setTop (mkF m (pc + 3) Ls (v :: st))) P) : Goes p.tables e below (T.setTop (mkF m pc Ls (.ref a :: st))) P := by
  obtain ⟨T', X', e', st'⟩ := getF X hx hZ hown w via eT F (g := mkF m pc Ls (.ref a :: st)) rfl rfl hd
  exact (k T' X' e').of st'
theorem g_getS (X : Stand p l e R s m args below meth c T locs cells slots) (hx : p.tables.exec = Jvm.exec) (hZ : Z.Warmed39 s.vm) (hown : s.vm.findClass own = some m.cls) (eT : T.heap = h) (w : (Jvm.Cond.fieldLink own index O nm d).before a0 Z = true ∨ (Jvm.Cond.fieldLinkNest own index O nm d host).before a0 Z = true)
    {v : Value} (F : Sta Z h O nm d v) (hd : decode c.code pc = .ok (.getstatic index, 3))
    (k : ∀ T', Stand p l e R s m args below meth c T' locs cells slots → T'.heap = h → Goes p.tables e below (T'.setTop (mkF m (pc + 3) Ls (v :: st))) P) : Goes p.tables e below (T.setTop (mkF m pc Ls st)) P := by
  obtain ⟨T', X', e', st'⟩ := getS2 X hx hZ hown w Via.refl eT F (g := mkF m pc Ls st) rfl hd
  exact (k T' X' e').of st'
/-- a field's store; v': what the field then holds -/
theorem g_putF (X : Stand p l e R s m args below meth c T locs cells slots) (hx : p.tables.exec = Jvm.exec) (hZ : Z.Warmed39 s.vm) (hown : s.vm.findClass own = some m.cls) (eT : T.heap = h) (w : (Jvm.Cond.fieldLink own index R0 nm d).before a0 Z = true) (via : Via Z R0 O nm d)
    {v v' old : Value} (F : Fld Z h a O nm d old) (E : Exa Z h a K) (L : (Jvm.Cond.lays K O nm d).before a0 Z = true ∨ ((Jvm.Cond.laysFinal K O nm d).before a0 Z = true ∧ own = O ∧ meth.name = "<init>")) (wi : (Jvm.Cond.instantiable K kk).before a0 Z = true) {ty : FieldType} (hty : parseFieldDescriptor d = some ty) (hn : narrow ty v = v') (hf : fits ty v' = true)
    (hd : decode c.code pc = .ok (.putfield index, 3))
    (k : ∀ T' h', Stand p l e R s m args below meth c T' (locs ++ [⟨a, Jvm.RoadKit.slotOf Z O nm d⟩]) cells slots → T'.heap = h' → Wr h h' a (Jvm.RoadKit.slotOf Z O nm d) v' → Goes p.tables e below (T'.setTop (mkF m (pc + 3) Ls st)) P) : Goes p.tables e below (T.setTop (mkF m pc Ls (v :: .ref a :: st))) P := by
  obtain ⟨T', h', X', e', W', st'⟩ := putFN X hx hZ hown w via eT F E L wi hty hn hf (g := mkF m pc Ls (v :: .ref a :: st)) rfl rfl hd
  exact (k T' h' X' e' W').of st'
end Objects
/-! arrays: the components as a list -/
def Ar (Z : State) (h : Heap) (a : Addr) (ty : FieldType) (vs : List Value) : Prop := ∃ c : Cell, Arr Z h a c ty ∧ c.slots.toList = vs ∧ vs.length < 2 ^ 31 ∧ ∀ v ∈ vs, fits ty v = true
section Arrays
variable {a b : Addr} {ty : FieldType} {vs : List Value} {h' : Heap} {ws : List Addr}
theorem Ar.lt (F : Ar Z h a ty vs) : a < h.size := by obtain ⟨c, A, -⟩ := F; exact A.lt
theorem Ar.ext (F : Ar Z h a ty vs) (E : Ext h h') : Ar Z h' a ty vs := by obtain ⟨c, A, r⟩ := F; exact ⟨c, A.ext E, r⟩
theorem Ar.other (F : Ar Z h b ty vs) {sl : Nat} {v : Value} (W : Wr h h' a sl v) (q : b ≠ a) : Ar Z h' b ty vs := by obtain ⟨c, A, r⟩ := F; exact ⟨c, A.other W q, r⟩
theorem Ar.keep (F : Ar Z h a ty vs) (K : Keep h h' ws) (q : a ∉ ws) : Ar Z h' a ty vs := by obtain ⟨c, A, r⟩ := F; exact ⟨c, ⟨K.2.1 a c A.1 q, A.2⟩, r⟩
theorem own_nat {j : Int32} {i : Nat} (hj : j.toInt = i) : j.toNatClampNeg = i ∧ ¬ j < 0 := by
  have q : ¬ j < 0 := fun q => by have := Int32.lt_iff_toInt_lt.mp q; rw [show (0 : Int32).toInt = 0 from rfl] at this; omega
  have e := nat_of q
  exact ⟨by omega, q⟩
theorem own_in {j : Int32} {i : Nat} (hj : j.toInt = i) {c : Cell} (hs : c.slots.toList = vs) (hi : i < vs.length) : ¬ (j < 0 ∨ c.slots.size ≤ j.toNatClampNeg) := by
  obtain ⟨e, q⟩ := own_nat hj
  rintro (r | r)
  · exact q r
  · rw [← Array.length_toList, hs] at r; omega
theorem own_at {j : Int32} {i : Nat} (hj : j.toInt = i) {c : Cell} (hs : c.slots.toList = vs) {v : Value} (hv : vs[i]? = some v) : c.slots[j.toNatClampNeg]? = some v := by
  rw [(own_nat hj).1, ← Array.getElem?_toList, hs]; exact hv
theorem own_lt {i : Nat} {v : Value} (hv : vs[i]? = some v) : i < vs.length := (List.getElem?_eq_some_iff.mp hv).1
theorem Ar.set {j : Nat} {v : Value} (F : Ar Z h a ty vs) (W : Wr h h' a j v) (hf : fits ty v = true) : Ar Z h' a ty (vs.set j v) := by
  obtain ⟨c, A, hs, hl, hv⟩ := F
  refine ⟨c.setSlot j v, A.same W, by rw [← hs]; simp [Cell.setSlot], by rw [List.length_set]; exact hl, fun w hw => ?_⟩
  rcases List.mem_or_eq_of_mem_set hw with q | q
  · exact hv w q
  · rw [q]; exact hf
theorem g_iaload (X : Stand p l e R s m args below meth c T locs cells slots) (hx : p.tables.exec = Jvm.exec) (hZ : Z.Warmed39 s.vm) (eT : T.heap = h) (A : Ar Z h a .int vs) {j : Int32} {i : Nat} {v : Value} (hj : j.toInt = i) (hv : vs[i]? = some v) (hd : decode c.code pc = .ok (.iaload, 1))
    (hr : Goes p.tables e below (T.setTop (mkF m (pc + 1) Ls (v :: st))) P) : Goes p.tables e below (T.setTop (mkF m pc Ls (.int j :: .ref a :: st))) P := by
  obtain ⟨cl, A, hs, hl, -⟩ := A
  exact hr.of fun _ k => X.iaload hx (by rw [eT]; exact A.1) (State.isArrayOf_alike hZ.alike A.2.1) A.2.2 (own_in hj hs (own_lt hv)) (own_at hj hs hv) (g := mkF m pc Ls (.int j :: .ref a :: st)) rfl rfl hd _ k
theorem g_laload (X : Stand p l e R s m args below meth c T locs cells slots) (hx : p.tables.exec = Jvm.exec) (hZ : Z.Warmed39 s.vm) (eT : T.heap = h) (A : Ar Z h a .long vs) {j : Int32} {i : Nat} {v : Value} (hj : j.toInt = i) (hv : vs[i]? = some v) (hd : decode c.code pc = .ok (.laload, 1))
    (hr : Goes p.tables e below (T.setTop (mkF m (pc + 1) Ls (v :: st))) P) : Goes p.tables e below (T.setTop (mkF m pc Ls (.int j :: .ref a :: st))) P := by
  obtain ⟨cl, A, hs, hl, -⟩ := A
  exact hr.of fun _ k => X.laload hx (by rw [eT]; exact A.1) (State.isArrayOf_alike hZ.alike A.2.1) A.2.2 (own_in hj hs (own_lt hv)) (own_at hj hs hv) (g := mkF m pc Ls (.int j :: .ref a :: st)) rfl rfl hd _ k
theorem g_caload (X : Stand p l e R s m args below meth c T locs cells slots) (hx : p.tables.exec = Jvm.exec) (hZ : Z.Warmed39 s.vm) (eT : T.heap = h) (A : Ar Z h a .char vs) {j : Int32} {i : Nat} {v : Value} (hj : j.toInt = i) (hv : vs[i]? = some v) (hd : decode c.code pc = .ok (.caload, 1))
    (hr : Goes p.tables e below (T.setTop (mkF m (pc + 1) Ls (v :: st))) P) : Goes p.tables e below (T.setTop (mkF m pc Ls (.int j :: .ref a :: st))) P := by
  obtain ⟨cl, A, hs, hl, -⟩ := A
  exact hr.of fun _ k => X.caload hx (by rw [eT]; exact A.1) (State.isArrayOf_alike hZ.alike A.2.1) A.2.2 (own_in hj hs (own_lt hv)) (own_at hj hs hv) (g := mkF m pc Ls (.int j :: .ref a :: st)) rfl rfl hd _ k
theorem g_saload (X : Stand p l e R s m args below meth c T locs cells slots) (hx : p.tables.exec = Jvm.exec) (hZ : Z.Warmed39 s.vm) (eT : T.heap = h) (A : Ar Z h a .short vs) {j : Int32} {i : Nat} {v : Value} (hj : j.toInt = i) (hv : vs[i]? = some v) (hd : decode c.code pc = .ok (.saload, 1))
    (hr : Goes p.tables e below (T.setTop (mkF m (pc + 1) Ls (v :: st))) P) : Goes p.tables e below (T.setTop (mkF m pc Ls (.int j :: .ref a :: st))) P := by
  obtain ⟨cl, A, hs, hl, -⟩ := A
  exact hr.of fun _ k => X.saload hx (by rw [eT]; exact A.1) (State.isArrayOf_alike hZ.alike A.2.1) A.2.2 (own_in hj hs (own_lt hv)) (own_at hj hs hv) (g := mkF m pc Ls (.int j :: .ref a :: st)) rfl rfl hd _ k
theorem g_baload (X : Stand p l e R s m args below meth c T locs cells slots) (hx : p.tables.exec = Jvm.exec) (hZ : Z.Warmed39 s.vm) (eT : T.heap = h) (A : Ar Z h a .byte vs) {j : Int32} {i : Nat} {v : Value} (hj : j.toInt = i) (hv : vs[i]? = some v) (hd : decode c.code pc = .ok (.baload, 1))
    (hr : Goes p.tables e below (T.setTop (mkF m (pc + 1) Ls (v :: st))) P) : Goes p.tables e below (T.setTop (mkF m pc Ls (.int j :: .ref a :: st))) P := by
  obtain ⟨cl, A, hs, hl, -⟩ := A
  exact hr.of fun _ k => X.baloadBytes hx (by rw [eT]; exact A.1) (State.isArrayOf_alike hZ.alike A.2.1) A.2.2 (own_in hj hs (own_lt hv)) (own_at hj hs hv) (g := mkF m pc Ls (.int j :: .ref a :: st)) rfl rfl hd _ k
theorem g_zaload (X : Stand p l e R s m args below meth c T locs cells slots) (hx : p.tables.exec = Jvm.exec) (hZ : Z.Warmed39 s.vm) (eT : T.heap = h) (A : Ar Z h a .boolean vs) {j : Int32} {i : Nat} {v : Value} (hj : j.toInt = i) (hv : vs[i]? = some v) (hd : decode c.code pc = .ok (.baload, 1))
    (hr : Goes p.tables e below (T.setTop (mkF m (pc + 1) Ls (v :: st))) P) : Goes p.tables e below (T.setTop (mkF m pc Ls (.int j :: .ref a :: st))) P := by
  obtain ⟨cl, A, hs, hl, -⟩ := A
  exact hr.of fun _ k => X.baloadBooleans hx (by rw [eT]; exact A.1) (State.isArrayOf_alike hZ.alike A.2.1) A.2.2 (own_in hj hs (own_lt hv)) (own_at hj hs hv) (g := mkF m pc Ls (.int j :: .ref a :: st)) rfl rfl hd _ k
theorem g_aaload (X : Stand p l e R s m args below meth c T locs cells slots) (hx : p.tables.exec = Jvm.exec) (hZ : Z.Warmed39 s.vm) (eT : T.heap = h) (A : Ar Z h a ty vs) (hty : ty.isReference = true) {j : Int32} {i : Nat} {v : Value} (hj : j.toInt = i) (hv : vs[i]? = some v) (hd : decode c.code pc = .ok (.aaload, 1))
    (hr : Goes p.tables e below (T.setTop (mkF m (pc + 1) Ls (v :: st))) P) : Goes p.tables e below (T.setTop (mkF m pc Ls (.int j :: .ref a :: st))) P := by
  obtain ⟨cl, A, hs, hl, -⟩ := A
  exact hr.of fun _ k => X.aaload hx (by rw [eT]; exact A.1) (State.isArrayOf_alike hZ.alike A.2.1) hty A.2.2 (own_in hj hs (own_lt hv)) (own_at hj hs hv) (g := mkF m pc Ls (.int j :: .ref a :: st)) rfl rfl hd _ k
theorem g_alen (X : Stand p l e R s m args below meth c T locs cells slots) (hx : p.tables.exec = Jvm.exec) (hZ : Z.Warmed39 s.vm) (eT : T.heap = h) (A : Ar Z h a ty vs) (z : Int32) (hz : z.toInt = vs.length) (hd : decode c.code pc = .ok (.arraylength, 1))
    (hr : Goes p.tables e below (T.setTop (mkF m (pc + 1) Ls (.int z :: st))) P) : Goes p.tables e below (T.setTop (mkF m pc Ls (.ref a :: st))) P := by
  obtain ⟨cl, A, hs, hl, -⟩ := A
  have q : cl.slots.size.toInt32 = z := by
    have e1 : cl.slots.size = vs.length := by rw [← hs, Array.length_toList]
    exact Int32.toInt_inj.mp (by rw [len_toInt (by rw [e1]; exact hl), hz, e1])
  subst q
  exact hr.of fun _ k => X.arraylength hx (cell := cl) (by rw [eT]; exact A.1) (State.isArrayOf_alike hZ.alike A.2.1) (g := mkF m pc Ls (.ref a :: st)) rfl (rest := st) rfl hd _ k
theorem g_newarr (X : Stand p l e R s m args below meth c T locs cells slots) (hx : p.tables.exec = Jvm.exec) (hZ : Z.Warmed39 s.vm) (eT : T.heap = h) {aty : ArrayType} (w : (Jvm.Cond.arrayClass (newarray.typeOf aty)).before a0 Z = true) (hd : decode c.code pc = .ok (.newarray aty, 2)) {z : Int32} {n : Nat} (hz : z.toInt = n) (cap : Nat) (hcap : n ≤ cap) (hb : cap * 8 ≤ 536870912) (hc : cells + 1 ≤ R.cells) (hl : slots + cap ≤ R.slots) {ad : String} (had : "[" ++ (newarray.typeOf aty).toString = ad) (hfit : fits (newarray.typeOf aty) (defaultValue (newarray.typeOf aty)) = true)
    (k : ∀ T' h' a, a = h.size → Stand p l e R s m args below meth c T' locs (cells + 1) (slots + cap) → T'.heap = h' → Ext h h' → Ar Z h' a (newarray.typeOf aty) (List.replicate n (defaultValue (newarray.typeOf aty))) → Exa Z h' a ad → Goes p.tables e below (T'.setTop (mkF m (pc + 2) Ls (.ref a :: st))) P) :
    Goes p.tables e below (T.setTop (mkF m pc Ls (.int z :: st))) P := by
  obtain ⟨e1, q⟩ := own_nat hz
  obtain ⟨T', h', cA, X', e', E, A, F, st'⟩ := newPE X hx hZ w eT (g := mkF m pc Ls (.int z :: st)) rfl hd rfl q (cap := cap) (by rw [e1]; exact hcap) hb hc hl had
  refine (k T' h' _ rfl X' e' E ⟨_, A, ?_, ?_, ?_⟩ F).of st'
  · simp [newA, e1]
  · rw [List.length_replicate]; have := rng32 z; omega
  · intro v hv; rw [(List.mem_replicate.mp hv).2]; exact hfit
theorem g_iastore (X : Stand p l e R s m args below meth c T locs cells slots) (hx : p.tables.exec = Jvm.exec) (hZ : Z.Warmed39 s.vm) (eT : T.heap = h) (A : Ar Z h a .int vs) {j : Int32} {x : Int32} (i : Nat) (hj : j.toInt = i) (hi : i < vs.length) (hd : decode c.code pc = .ok (.iastore, 1))
    (k : ∀ T' h', Stand p l e R s m args below meth c T' (locs ++ [⟨a, i⟩]) cells slots → T'.heap = h' → Wr h h' a i (.int x) → Ar Z h' a .int (vs.set i (.int x)) → Goes p.tables e below (T'.setTop (mkF m (pc + 1) Ls st)) P) : Goes p.tables e below (T.setTop (mkF m pc Ls (.int x :: .int j :: .ref a :: st))) P := by
  have A' := A
  obtain ⟨cl, A, hs, hl, -⟩ := A
  obtain ⟨T', h', X', e', W', st'⟩ := stI X hx hZ eT A (own_in hj hs hi) (g := mkF m pc Ls (.int x :: .int j :: .ref a :: st)) rfl rfl hd
  rw [(own_nat hj).1] at X' W'
  exact (k T' h' X' e' W' (A'.set W' rfl)).of st'
theorem g_lastore (X : Stand p l e R s m args below meth c T locs cells slots) (hx : p.tables.exec = Jvm.exec) (hZ : Z.Warmed39 s.vm) (eT : T.heap = h) (A : Ar Z h a .long vs) {j : Int32} {x : Int64} (i : Nat) (hj : j.toInt = i) (hi : i < vs.length) (hd : decode c.code pc = .ok (.lastore, 1))
    (k : ∀ T' h', Stand p l e R s m args below meth c T' (locs ++ [⟨a, i⟩]) cells slots → T'.heap = h' → Wr h h' a i (.long x) → Ar Z h' a .long (vs.set i (.long x)) → Goes p.tables e below (T'.setTop (mkF m (pc + 1) Ls st)) P) : Goes p.tables e below (T.setTop (mkF m pc Ls (.long x :: .int j :: .ref a :: st))) P := by
  have A' := A
  obtain ⟨cl, A, hs, hl, -⟩ := A
  obtain ⟨T', h', X', e', W', st'⟩ := stJ X hx hZ eT A (own_in hj hs hi) (g := mkF m pc Ls (.long x :: .int j :: .ref a :: st)) rfl rfl hd
  rw [(own_nat hj).1] at X' W'
  exact (k T' h' X' e' W' (A'.set W' rfl)).of st'
theorem g_castore (X : Stand p l e R s m args below meth c T locs cells slots) (hx : p.tables.exec = Jvm.exec) (hZ : Z.Warmed39 s.vm) (eT : T.heap = h) (A : Ar Z h a .char vs) {j x : Int32} (i : Nat) (hj : j.toInt = i) (hi : i < vs.length) (x' : Int32) (hn : nar .char x = x') (hd : decode c.code pc = .ok (.castore, 1))
    (k : ∀ T' h', Stand p l e R s m args below meth c T' (locs ++ [⟨a, i⟩]) cells slots → T'.heap = h' → Wr h h' a i (.int x') → Ar Z h' a .char (vs.set i (.int x')) → Goes p.tables e below (T'.setTop (mkF m (pc + 1) Ls st)) P) : Goes p.tables e below (T.setTop (mkF m pc Ls (.int x :: .int j :: .ref a :: st))) P := by
  have A' := A
  obtain ⟨cl, A, hs, hl, -⟩ := A
  obtain ⟨T', h', X', e', W', st'⟩ := stC X hx hZ eT A (own_in hj hs hi) (g := mkF m pc Ls (.int x :: .int j :: .ref a :: st)) rfl rfl hd
  rw [(own_nat hj).1, hn] at W'
  rw [(own_nat hj).1] at X'
  exact (k T' h' X' e' W' (A'.set W' (by rw [← hn]; exact fits_nar_char x))).of st'
theorem g_bastore (X : Stand p l e R s m args below meth c T locs cells slots) (hx : p.tables.exec = Jvm.exec) (hZ : Z.Warmed39 s.vm) (eT : T.heap = h) (A : Ar Z h a .byte vs) {j x : Int32} (i : Nat) (hj : j.toInt = i) (hi : i < vs.length) (x' : Int32) (hn : nar .byte x = x') (hd : decode c.code pc = .ok (.bastore, 1))
    (k : ∀ T' h', Stand p l e R s m args below meth c T' (locs ++ [⟨a, i⟩]) cells slots → T'.heap = h' → Wr h h' a i (.int x') → Ar Z h' a .byte (vs.set i (.int x')) → Goes p.tables e below (T'.setTop (mkF m (pc + 1) Ls st)) P) : Goes p.tables e below (T.setTop (mkF m pc Ls (.int x :: .int j :: .ref a :: st))) P := by
  have A' := A
  obtain ⟨cl, A, hs, hl, -⟩ := A
  obtain ⟨T', h', X', e', W', st'⟩ := stB X hx hZ eT A (own_in hj hs hi) (g := mkF m pc Ls (.int x :: .int j :: .ref a :: st)) rfl rfl hd
  rw [(own_nat hj).1, hn] at W'
  rw [(own_nat hj).1] at X'
  exact (k T' h' X' e' W' (A'.set W' (by rw [← hn]; exact fits_nar_byte x))).of st'
theorem g_zastore (X : Stand p l e R s m args below meth c T locs cells slots) (hx : p.tables.exec = Jvm.exec) (hZ : Z.Warmed39 s.vm) (eT : T.heap = h) (A : Ar Z h a .boolean vs) {j x : Int32} (i : Nat) (hj : j.toInt = i) (hi : i < vs.length) (x' : Int32) (hn : nar .boolean x = x') (hd : decode c.code pc = .ok (.bastore, 1))
    (k : ∀ T' h', Stand p l e R s m args below meth c T' (locs ++ [⟨a, i⟩]) cells slots → T'.heap = h' → Wr h h' a i (.int x') → Ar Z h' a .boolean (vs.set i (.int x')) → Goes p.tables e below (T'.setTop (mkF m (pc + 1) Ls st)) P) : Goes p.tables e below (T.setTop (mkF m pc Ls (.int x :: .int j :: .ref a :: st))) P := by
  have A' := A
  obtain ⟨cl, A, hs, hl, -⟩ := A
  obtain ⟨T', h', X', e', W', st'⟩ := stZ X hx hZ eT A (own_in hj hs hi) (g := mkF m pc Ls (.int x :: .int j :: .ref a :: st)) rfl rfl hd
  rw [(own_nat hj).1, hn] at W'
  rw [(own_nat hj).1] at X'
  exact (k T' h' X' e' W' (A'.set W' (by rw [← hn]; exact fits_nar_bool x))).of st'
theorem g_clone (X : Stand p l e R s m args below meth c T locs cells slots) (hx : p.tables.exec = Jvm.exec) (hZ : Z.Warmed39 s.vm) {own ad : String} {index : Nat} (hown : s.vm.findClass own = some m.cls) (hml : Ls.size = c.maxLocals) (eT : T.heap = h)
    (w1 : (Jvm.Cond.methodLink own index ⟨ad, "clone", "()Ljava/lang/Object;"⟩).before a0 Z = true) (w2 : (Jvm.Cond.sameMethod ad "java/lang/Object" "clone" "()Ljava/lang/Object;").before a0 Z = true) (w3 : (Jvm.Cond.native ⟨"java/lang/Object", "clone", "()Ljava/lang/Object;"⟩).before a0 Z = true)
    (w4 : (Jvm.Cond.instanceMethod ⟨"java/lang/Object", "clone", "()Ljava/lang/Object;"⟩).before a0 Z = true) (w5 : (Jvm.Cond.selects ad ⟨ad, "clone", "()Ljava/lang/Object;"⟩ ⟨"java/lang/Object", "clone", "()Ljava/lang/Object;"⟩).before a0 Z = true) (w6 : (Jvm.Cond.castable ad "java/lang/Cloneable").before a0 Z = true)
    (A : Ar Z h a ty vs) (E : Exa Z h a ad) (hd : decode c.code pc = .ok (.invokevirtual index, 3)) (W cap : Nat) (hf : 1 ≤ R.frames) (hW : (st.map fun v => v.category).sum ≤ W) (hl : W + 14 ≤ R.locals) (hcap : vs.length ≤ cap) (hc : cells + 1 ≤ R.cells) (hsl : slots + cap ≤ R.slots)
    (k : ∀ T' h' b, b = h.size → Stand p l e R s m args below meth c T' locs (cells + 1) (slots + cap) → T'.heap = h' → Ext h h' → Ar Z h' b ty vs → Exa Z h' b ad → Goes p.tables e below (T'.setTop (mkF m (pc + 3) Ls (.ref b :: st))) P) :
    Goes p.tables e below (T.setTop (mkF m pc Ls (.ref a :: st))) P := by
  obtain ⟨cl, A, hs, hln, hft⟩ := A
  have hsz : cl.slots.size = vs.length := by rw [← hs, Array.length_toList]
  obtain ⟨T', h', X', e', Ex, A', E', st'⟩ := cloneA X hx hZ hown w1 w2 w3 w4 w5 w6 eT A E (fitC_of A (fun i hi v hv => hft v (by rw [← hs]; exact Array.mem_toList_iff.mpr (Array.mem_of_getElem? hv)))) (g := mkF m pc Ls (.ref a :: st)) rfl hml rfl hd hf (W := W) (cap := cap) (by show 2 * 0 + _ ≤ _; omega) hl (by rw [hsz]; exact hcap) hc hsl
  exact (k T' h' _ rfl X' e' Ex ⟨_, A', hs, hln, hft⟩ E').of st'
theorem g_cast (X : Stand p l e R s m args below meth c T locs cells slots) (hx : p.tables.exec = Jvm.exec) (hZ : Z.Warmed39 s.vm) {own K : String} {index : Nat} (hown : s.vm.findClass own = some m.cls) (eT : T.heap = h) (w : (Jvm.Cond.classLink own index K).before a0 Z = true) (F : Ins Z h a K true) (hd : decode c.code pc = .ok (.checkcast index, 3))
    (k : ∀ T', Stand p l e R s m args below meth c T' locs cells slots → T'.heap = h → Goes p.tables e below (T'.setTop (mkF m (pc + 3) Ls (.ref a :: st))) P) : Goes p.tables e below (T.setTop (mkF m pc Ls (.ref a :: st))) P := by
  obtain ⟨T', X', e', st'⟩ := castY X hx hZ hown w eT F (g := mkF m pc Ls (.ref a :: st)) rfl rfl hd
  exact (k T' X' e').of st'
theorem Ar.toV (F : Ar Z h a ty vs) (d : Value) : ∃ k, Arv Z h a k ty (Int32.ofNat vs.length) vs d := by
  obtain ⟨cl, A, hs, hl, hf⟩ := F
  have e1 : cl.slots.size = vs.length := by rw [← hs, Array.length_toList]
  obtain ⟨e2, q⟩ := own_nat (j := Int32.ofNat vs.length) (i := vs.length) (Int32.toInt_ofNat_of_lt (by omega))
  refine ⟨cl.cls, cl, A, rfl, by rw [e2, e1], q, fun i hi => ?_, fun i hi => ?_⟩
  · rw [← Array.getElem?_toList, hs, List.getD_eq_getElem?_getD, List.getElem?_eq_getElem (by omega)]; rfl
  · rw [List.getD_eq_getElem?_getD, List.getElem?_eq_getElem (by omega)]; exact hf _ (List.getElem_mem _)
theorem Ar.ofV {k : ClassId} {z : Int32} {d : Value} (F : Arv Z h a k ty z vs d) (hl : vs.length = z.toNatClampNeg) (hb : vs.length < 2 ^ 31) : Ar Z h a ty vs := by
  obtain ⟨cl, A, -, hs, -, H, G⟩ := F
  have e : cl.slots.toList = vs := by
    apply List.ext_getElem?
    intro i
    by_cases hi : i < cl.slots.size
    · rw [Array.getElem?_toList, H i hi, List.getD_eq_getElem?_getD, List.getElem?_eq_getElem (by omega)]; rfl
    · rw [List.getElem?_eq_none (by rw [Array.length_toList]; omega), List.getElem?_eq_none (by omega)]
  refine ⟨cl, A, e, hb, fun v hv => ?_⟩
  obtain ⟨i, hi, rfl⟩ := List.getElem_of_mem hv
  have q := G i (by omega)
  rwa [List.getD_eq_getElem?_getD, List.getElem?_eq_getElem hi] at q
theorem own_rangeTake (vs : List Value) (d : Value) (n : Nat) (hn : n ≤ vs.length) : (List.range n).map (fun i => vs.getD (0 + i) d) = vs.take n := by
  apply List.ext_getElem
  · simp; omega
  · intro i h1 h2
    simp at h1 h2
    simp [List.getElem?_eq_getElem (show i < vs.length by omega)]
theorem g_acopy (X : Stand p l e R s m args below meth c T locs cells slots) (hx : p.tables.exec = Jvm.exec) (hZ : Z.Warmed39 s.vm) {own : String} {index : Nat} (hown : s.vm.findClass own = some m.cls) (hml : Ls.size = c.maxLocals) (eT : T.heap = h)
    (w1 : (Jvm.Cond.methodLink own index Jvm.Stand.acN).before a0 Z = true) (w2 : (Jvm.Cond.native Jvm.Stand.acN).before a0 Z = true) (w3 : (Jvm.Cond.static Jvm.Stand.acN).before a0 Z = true) (w4 : (Jvm.Cond.initialized "java/lang/System").before a0 Z = true)
    {vd : List Value} (A : Ar Z h a ty vs) (B : Ar Z h b ty vd) (hp : refKind ty = false) {nn : Int32} {n : Nat} (hn : nn.toInt = n) (h1 : n ≤ vs.length) (h2 : n ≤ vd.length) {n0 : Nat} (N : Fr n0 locs) (ge : n0 ≤ b) (hd : decode c.code pc = .ok (.invokestatic index, 3))
    (W : Nat) (hf : 1 ≤ R.frames) (hW : (st.map fun v => v.category).sum ≤ W) (hlo : W + (nativeFrameWords "java/lang/System" "arraycopy" 5 + 11) ≤ R.locals)
    (k : ∀ T' h' L, Stand p l e R s m args below meth c T' L cells slots → T'.heap = h' → Fr n0 L → Keep h h' [b] → Ar Z h' b ty (vs.take n ++ vd.drop n) → Goes p.tables e below (T'.setTop (mkF m (pc + 3) Ls st)) P) :
    Goes p.tables e below (T.setTop (mkF m pc Ls (.int nn :: .int 0 :: .ref b :: .int 0 :: .ref a :: st))) P := by
  obtain ⟨k1, A1⟩ := A.toV .null
  obtain ⟨k2, B1⟩ := B.toV .null
  obtain ⟨en, qn⟩ := own_nat hn
  have lv : vs.length < 2 ^ 31 := by obtain ⟨_, _, _, q, _⟩ := A; exact q
  have ld : vd.length < 2 ^ 31 := by obtain ⟨_, _, _, q, _⟩ := B; exact q
  have ev : (Int32.ofNat vs.length).toNatClampNeg = vs.length := (own_nat (Int32.toInt_ofNat_of_lt (by omega))).1
  have ed : (Int32.ofNat vd.length).toNatClampNeg = vd.length := (own_nat (Int32.toInt_ofNat_of_lt (by omega))).1
  have e0 : (0 : Int32).toNatClampNeg = 0 := rfl
  obtain ⟨T', h', L, X', e', N', K', B', st'⟩ := cpA X hx hZ hown w1 w2 w3 w4 eT A1 B1 (sp := 0) (dp := 0) (nn := nn) (Or.inl ⟨rfl, hp⟩) (by decide) (by decide) qn (by rw [e0, en, ev]; omega) (by rw [e0, en, ed]; omega) rfl (by rw [e0, en]; omega) N ge (g := mkF m pc Ls (.int nn :: .int 0 :: .ref b :: .int 0 :: .ref a :: st)) rfl hml rfl hd hf (W := W) (by show 2 * 0 + _ ≤ _; omega) hlo
  rw [e0, en, own_rangeTake vs _ n h1, List.take_zero, List.nil_append, Nat.zero_add] at B'
  have hlen : (vs.take n ++ vd.drop n).length = vd.length := by rw [List.length_append, List.length_take, List.length_drop]; omega
  exact (k T' h' L X' e' N' K' (Ar.ofV B' (by rw [hlen, ed]) (by rw [hlen]; exact ld))).of st'
end Arrays
theorem own_nst {a : Addr} {K : String} (E : Exa Z h a K) : ∀ c : Cell, h[a]? = some c → c.vm.isStatics = false := fun c hc => by
  obtain ⟨cell, k, h1, -, -, h4, -⟩ := E
  cases h1.symm.trans hc
  exact h4
theorem own_stakeep {h' : Heap} {K n d : String} {v : Value} {ws : List Addr} (F : Sta Z h K n d v) (hK : Keep h h' ws) (q : ∀ x ∈ ws, ∀ c : Cell, h[x]? = some c → c.vm.isStatics = false) : Sta Z h' K n d v := by
  obtain ⟨cf, i, k, f, sa, cell, h1, h2, h3, h4, h5, h6, h7⟩ := F
  exact ⟨cf, i, k, f, sa, cell, h1, h2, h3, h4, hK.2.1 sa cell h5 (fun hm => by rw [q sa hm cell h5] at h6; cases h6), h6, h7⟩
/-! words on statics -/
section Words
variable {first : State} {o : Option Outcome} {idx : List Nat} {ta tb : Term}
theorem own_eqR {y : Addr} (h : (Jvm.Cond.eq ta tb).value args first o s idx = some true) (hb : tb.eval args first o idx s = some (.ref y)) : ta.eval args first o idx s = some (.ref y) := by
  obtain ⟨x, z, ha, hb', k1, k2⟩ := cmp_v (Or.inl h)
  cases hb.symm.trans hb'
  have e := gotT (eq_R ha hb k2.2 rfl) h
  rw [ha, e]
theorem own_eqI {y : Int32} (h : (Jvm.Cond.eq ta tb).value args first o s idx = some true) (hb : tb.eval args first o idx s = some (.int y)) : ta.eval args first o idx s = some (.int y) := by
  obtain ⟨x, z, ha, hb', k1, k2⟩ := cmp_v (Or.inl h)
  cases hb.symm.trans hb'
  obtain ⟨w, rfl⟩ := k2
  simp [Jvm.Cond.value, ha, hb] at h
  rw [ha, h]
end Words
end Walk
end Jvm.OwnW
namespace Jvm.Pilot.@@N@@
open Jvm Jvm.ClassFile Sem Op Lib Jvm.Free Jvm.Stand Jvm.LawKit Jvm.RoadKit Bundle Jvm.OwnW Jvm.Pilot.@@N@@.Jvm.D
theorem d7_0 : decode jdk_29_method_69_code 0 = .ok (.iload_n 0, 1) := by decide +kernel
theorem d7_1 : decode jdk_29_method_69_code 1 = .ok (.iload_n 1, 1) := by decide +kernel
theorem d7_2 : decode jdk_29_method_69_code 2 = .ok (.if_icmp .gt 7, 3) := by decide +kernel
theorem d7_5 : decode jdk_29_method_69_code 5 = .ok (.iload_n 0, 1) := by decide +kernel
theorem d7_6 : decode jdk_29_method_69_code 6 = .ok (.goto 4, 3) := by decide +kernel
theorem d7_9 : decode jdk_29_method_69_code 9 = .ok (.iload_n 1, 1) := by decide +kernel
theorem d7_10 : decode jdk_29_method_69_code 10 = .ok (.ireturn, 1) := by decide +kernel
theorem pd_7 : parseMethodDescriptor "(II)I" = some ⟨[.int, .int], some .int⟩ := by decide +kernel
theorem ef_7 (m : MethodId) (p0 : Int32) (p1 : Int32) : entryFrame m #[(.int p0), (.int p1)] 2 = mkF m 0 #[.val (.int p0), .val (.int p1)] [] := by first | (simp [entryFrame, mkF, argsToLocals, Value.category]; done) | rfl
def minV (p0 : Int32) (p1 : Int32) : Int32 := (if p1 < p0 then p1 else p0)
set_option maxRecDepth 65536 in
set_option maxHeartbeats 40000000 in
theorem rmMin (l : Launch) (Z : State) (a0 : Array Value) (hw : ∀ d ∈ tables_1, d.before a0 Z = true) (p0 : Int32) (p1 : Int32) (h0 : Heap)  :
    Con l Z (⟨"java/lang/Math", "min", "(II)I"⟩ : MethodName) jdk_29_method_69_code 2 (some .int) [] ({ frames := 0, cells := 0, slots := 0, locals := 0 } : Room) 0 0 #[(.int p0), (.int p1)] h0 (fun v h L => v = some (.int (minV p0 p1)) ∧ h = h0 ∧ L = []) := by
  refine Con.body (Jvm.Free.JP.mathPlain rfl (by decide +kernel)) ?_
  intro p e s m below meth c T0 hx hby hml hown hnm hZ hret hlk X0 e0
  refine Goes.cast (ef_7 m p0 p1) ?_
  show Goes p.tables e below (T0.setTop (mkF m 0 #[.val (.int p0), .val (.int p1)] [])) _
  refine g_iloadN X0 hx (hb hby d7_0) rfl ?_
  show Goes p.tables e below (T0.setTop (mkF m 1 #[.val (.int p0), .val (.int p1)] [(.int p0)])) _
  refine g_iloadN X0 hx (hb hby d7_1) rfl ?_
  show Goes p.tables e below (T0.setTop (mkF m 2 #[.val (.int p0), .val (.int p1)] [(.int p1), (.int p0)])) _
  refine g_icmp_gt X0 hx (hb hby d7_2) (by decide) (pc' := 9) (by decide) (fun c2 => ?_) (fun c2 => ?_)
  · skip
    show Goes p.tables e below (T0.setTop (mkF m 9 #[.val (.int p0), .val (.int p1)] [])) _
    refine g_iloadN X0 hx (hb hby d7_9) rfl ?_
    show Goes p.tables e below (T0.setTop (mkF m 10 #[.val (.int p0), .val (.int p1)] [(.int p1)])) _
    exact g_retI X0 hx hret hlk (hb hby d7_10) (by decide) (by decide) ⟨by rw [minV, if_pos c2], e0, rfl⟩
  · skip
    show Goes p.tables e below (T0.setTop (mkF m 5 #[.val (.int p0), .val (.int p1)] [])) _
    refine g_iloadN X0 hx (hb hby d7_5) rfl ?_
    show Goes p.tables e below (T0.setTop (mkF m 6 #[.val (.int p0), .val (.int p1)] [(.int p0)])) _
    refine g_goto X0 hx (hb hby d7_6) (by decide) (pc' := 10) (by decide) ?_
    show Goes p.tables e below (T0.setTop (mkF m 10 #[.val (.int p0), .val (.int p1)] [(.int p0)])) _
    exact g_retI X0 hx hret hlk (hb hby d7_10) (by decide) (by decide) ⟨by rw [minV, if_neg c2], e0, rfl⟩
theorem own_of {n : Nat} (h : n < 2147483648) : (Int32.ofNat n).toInt = n := Int32.toInt_ofNat_of_lt (by omega)
theorem own_p1 {i : Int32} {j : Nat} (h : i.toInt = (j : Nat)) (hj : j + 1 < 2 ^ 31) : (i + 1).toInt = (j + 1 : Nat) := by
  have a := c_iadd i 1
  have k : (1 : Int32).toInt = 1 := by decide
  have r := rng32 i
  have r2 := rng32 (i + 1)
  rw [k] at a
  omega
theorem own_m1 {i : Int32} {j : Nat} (h : i.toInt = (j + 1 : Nat)) : (i - 1).toInt = j := by
  have a := c_isub i 1
  have k : (1 : Int32).toInt = 1 := by decide
  have r := rng32 i
  have r2 := rng32 (i - 1)
  rw [k] at a
  omega
def Bd (Z : State) (h : Heap) (b sa ta : Addr) (vs : List Value) (vc ec : Int32) : Prop :=
  Exa Z h b "com/example/hold/hold/graph/Digraph$Builder" ∧ Fld Z h b "com/example/hold/hold/graph/Digraph$Builder" "start" "[I" (.ref sa) ∧ Fld Z h b "com/example/hold/hold/graph/Digraph$Builder" "target" "[I" (.ref ta) ∧ Fld Z h b "com/example/hold/hold/graph/Digraph$Builder" "vertexCount" "I" (.int vc) ∧ Fld Z h b "com/example/hold/hold/graph/Digraph$Builder" "edgeCount" "I" (.int ec) ∧ Ar Z h sa .int vs ∧ ∃ ts, ts.length = 16 ∧ Ar Z h ta .int ts
theorem d1_0 : decode prog_63_method_1_code 0 = .ok (.aload_n 0, 1) := by decide +kernel
theorem d1_1 : decode prog_63_method_1_code 1 = .ok (.invokespecial 1, 3) := by decide +kernel
theorem d1_4 : decode prog_63_method_1_code 4 = .ok (.aload_n 0, 1) := by decide +kernel
theorem d1_5 : decode prog_63_method_1_code 5 = .ok (.bipush 17, 2) := by decide +kernel
theorem d1_7 : decode prog_63_method_1_code 7 = .ok (.newarray .int, 2) := by decide +kernel
theorem d1_9 : decode prog_63_method_1_code 9 = .ok (.putfield 7, 3) := by decide +kernel
theorem d1_12 : decode prog_63_method_1_code 12 = .ok (.aload_n 0, 1) := by decide +kernel
theorem d1_13 : decode prog_63_method_1_code 13 = .ok (.bipush 16, 2) := by decide +kernel
theorem d1_15 : decode prog_63_method_1_code 15 = .ok (.newarray .int, 2) := by decide +kernel
theorem d1_17 : decode prog_63_method_1_code 17 = .ok (.putfield 13, 3) := by decide +kernel
theorem d1_20 : decode prog_63_method_1_code 20 = .ok (.return_, 1) := by decide +kernel
theorem pd_1 : parseMethodDescriptor "()V" = some ⟨[], none⟩ := by decide +kernel
theorem ef_1 (m : MethodId) (p0 : Addr) : entryFrame m #[(.ref p0)] 1 = mkF m 0 #[.val (.ref p0)] [] := by first | (simp [entryFrame, mkF, argsToLocals, Value.category]; done) | rfl
set_option maxRecDepth 65536 in
set_option maxHeartbeats 40000000 in
theorem rmBI (l : Launch) (Z : State) (a0 : Array Value) (hw : ∀ d ∈ tables_1, d.before a0 Z = true) (p0 : Addr) (h0 : Heap) (n0 : Nat) (Z0 : n0 ≤ h0.size) (f1 : Fld Z h0 p0 "com/example/hold/hold/graph/Digraph$Builder" "start" "[I" .null) (f2 : Fld Z h0 p0 "com/example/hold/hold/graph/Digraph$Builder" "target" "[I" .null) (f3 : Fld Z h0 p0 "com/example/hold/hold/graph/Digraph$Builder" "vertexCount" "I" (.int (0 : Int32))) (f4 : Fld Z h0 p0 "com/example/hold/hold/graph/Digraph$Builder" "edgeCount" "I" (.int (0 : Int32))) (E0 : Exa Z h0 p0 "com/example/hold/hold/graph/Digraph$Builder") (ga : n0 ≤ p0) :
    Con l Z (⟨"com/example/hold/hold/graph/Digraph$Builder", "<init>", "()V"⟩ : MethodName) prog_63_method_1_code 1 none [] ({ frames := 1, cells := 2, slots := 33, locals := 12 } : Room) 2 33 #[(.ref p0)] h0 (fun v h L => v = none ∧ Fr n0 L ∧ ∃ sa ta, n0 ≤ sa ∧ n0 ≤ ta ∧ sa ≠ p0 ∧ ta ≠ p0 ∧ sa ≠ ta ∧ Bd Z h p0 sa ta [(.int (0 : Int32)), (.int (0 : Int32)), (.int (0 : Int32)), (.int (0 : Int32)), (.int (0 : Int32)), (.int (0 : Int32)), (.int (0 : Int32)), (.int (0 : Int32)), (.int (0 : Int32)), (.int (0 : Int32)), (.int (0 : Int32)), (.int (0 : Int32)), (.int (0 : Int32)), (.int (0 : Int32)), (.int (0 : Int32)), (.int (0 : Int32)), (.int (0 : Int32))] 0 0) := by
  refine Con.body (plainFor_of_name (by first | (simp [plainName, overriddenIn]; done) | decide +kernel)) ?_
  intro p e s m below meth c T0 hx hby hml hown hnm hZ hret hlk X0 e0
  refine Goes.cast (ef_1 m p0) ?_
  have N0 := Fr.nil n0
  show Goes p.tables e below (T0.setTop (mkF m 0 #[.val (.ref p0)] [])) _
  refine g_aloadN X0 hx (hb hby d1_0) rfl rfl ?_
  show Goes p.tables e below (T0.setTop (mkF m 1 #[.val (.ref p0)] [(.ref p0)])) _
  refine g_init0 X0 hx hZ hown (by rw [hml]; rfl) e0 (hw _ (List.mem_of_getElem? (i := 6) rfl)) (hw _ (List.mem_of_getElem? (i := 7) rfl)) (hw _ (List.mem_of_getElem? (i := 8) rfl)) (hb hby d1_1) 0 (by decide) (by first | decide | exact Nat.le_refl _) (by first | decide | exact Nat.le_refl _) (fun T1 X1 e1 => ?_)
  show Goes p.tables e below (T1.setTop (mkF m 4 #[.val (.ref p0)] [])) _
  refine g_aloadN X1 hx (hb hby d1_4) rfl rfl ?_
  show Goes p.tables e below (T1.setTop (mkF m 5 #[.val (.ref p0)] [(.ref p0)])) _
  refine g_bipush X1 hx (17 : Int32) (hb hby d1_5) (by decide) ?_
  show Goes p.tables e below (T1.setTop (mkF m 7 #[.val (.ref p0)] [(.int (17 : Int32)), (.ref p0)])) _
  refine g_newarr X1 hx hZ e1 (hw _ (List.mem_of_getElem? (i := 9) rfl)) (hb hby d1_7) (n := 17) (by decide) 17 (by omega) (by decide) (by decide) (by decide) (ad := "[I") (by decide) rfl (fun T2 h2 a2 ga2 X2 e2 Ex2 Aa2 Ea2 => ?_)
  have ne3 : p0 ≠ a2 := Nat.ne_of_lt (by rw [ga2]; exact f1.lt)
  have ge4 : n0 ≤ a2 := by rw [ga2]; exact Z0
  have fx5 : Fld Z h2 p0 "com/example/hold/hold/graph/Digraph$Builder" "start" "[I" .null := Fld.ext Ex2 f1
  have fx6 : Fld Z h2 p0 "com/example/hold/hold/graph/Digraph$Builder" "target" "[I" .null := Fld.ext Ex2 f2
  have fx7 : Fld Z h2 p0 "com/example/hold/hold/graph/Digraph$Builder" "vertexCount" "I" (.int (0 : Int32)) := Fld.ext Ex2 f3
  have fx8 : Fld Z h2 p0 "com/example/hold/hold/graph/Digraph$Builder" "edgeCount" "I" (.int (0 : Int32)) := Fld.ext Ex2 f4
  have fx9 : Exa Z h2 p0 "com/example/hold/hold/graph/Digraph$Builder" := Exa.ext Ex2 E0
  have Z10 : n0 ≤ h2.size := Nat.le_trans Z0 Ex2.1
  have fx11 : Ar Z h2 a2 .int [(.int (0 : Int32)), (.int (0 : Int32)), (.int (0 : Int32)), (.int (0 : Int32)), (.int (0 : Int32)), (.int (0 : Int32)), (.int (0 : Int32)), (.int (0 : Int32)), (.int (0 : Int32)), (.int (0 : Int32)), (.int (0 : Int32)), (.int (0 : Int32)), (.int (0 : Int32)), (.int (0 : Int32)), (.int (0 : Int32)), (.int (0 : Int32)), (.int (0 : Int32))] := Aa2
  show Goes p.tables e below (T2.setTop (mkF m 9 #[.val (.ref p0)] [(.ref a2), (.ref p0)])) _
  refine g_putF X2 hx hZ hown e2 (hw _ (List.mem_of_getElem? (i := 10) rfl)) Via.refl (v' := (.ref a2)) fx5 fx9 (Or.inl (hw _ (List.mem_of_getElem? (i := 11) rfl))) (hw _ (List.mem_of_getElem? (i := 1) rfl)) (ty := (.array .int)) (by decide) rfl rfl (hb hby d1_9) (fun T12 h12 X12 e12 W12 => ?_)
  have fx13 : Fld Z h12 p0 "com/example/hold/hold/graph/Digraph$Builder" "target" "[I" .null := Fld.other W12 fx6 (Or.inr (slot_ne (t := (.array .int)) (t' := (.array .int)) (Or.inl (hw _ (List.mem_of_getElem? (i := 13) rfl))) (Or.inl (hw _ (List.mem_of_getElem? (i := 11) rfl))) (by decide) (by decide) (by decide)))
  have fx14 : Fld Z h12 p0 "com/example/hold/hold/graph/Digraph$Builder" "vertexCount" "I" (.int (0 : Int32)) := Fld.other W12 fx7 (Or.inr (slot_ne (t := .int) (t' := (.array .int)) (Or.inl (hw _ (List.mem_of_getElem? (i := 27) rfl))) (Or.inl (hw _ (List.mem_of_getElem? (i := 11) rfl))) (by decide) (by decide) (by decide)))
  have fx15 : Fld Z h12 p0 "com/example/hold/hold/graph/Digraph$Builder" "edgeCount" "I" (.int (0 : Int32)) := Fld.other W12 fx8 (Or.inr (slot_ne (t := .int) (t' := (.array .int)) (Or.inl (hw _ (List.mem_of_getElem? (i := 20) rfl))) (Or.inl (hw _ (List.mem_of_getElem? (i := 11) rfl))) (by decide) (by decide) (by decide)))
  have fx16 : Exa Z h12 p0 "com/example/hold/hold/graph/Digraph$Builder" := Exa.wr W12 fx9
  have fx17 : Ar Z h12 a2 .int [(.int (0 : Int32)), (.int (0 : Int32)), (.int (0 : Int32)), (.int (0 : Int32)), (.int (0 : Int32)), (.int (0 : Int32)), (.int (0 : Int32)), (.int (0 : Int32)), (.int (0 : Int32)), (.int (0 : Int32)), (.int (0 : Int32)), (.int (0 : Int32)), (.int (0 : Int32)), (.int (0 : Int32)), (.int (0 : Int32)), (.int (0 : Int32)), (.int (0 : Int32))] := Ar.other fx11 W12 (Ne.symm ne3)
  have fx18 : Exa Z h12 a2 "[I" := Exa.wr W12 Ea2
  have fx19 : Fld Z h12 p0 "com/example/hold/hold/graph/Digraph$Builder" "start" "[I" (.ref a2) := Fld.same W12 fx5
  have N20 := Fr.snoc X12 N0 ga
  have Z21 : n0 ≤ h12.size := by rw [W12.size]; exact Z10
  show Goes p.tables e below (T12.setTop (mkF m 12 #[.val (.ref p0)] [])) _
  refine g_aloadN X12 hx (hb hby d1_12) rfl rfl ?_
  show Goes p.tables e below (T12.setTop (mkF m 13 #[.val (.ref p0)] [(.ref p0)])) _
  refine g_bipush X12 hx (16 : Int32) (hb hby d1_13) (by decide) ?_
  show Goes p.tables e below (T12.setTop (mkF m 15 #[.val (.ref p0)] [(.int (16 : Int32)), (.ref p0)])) _
  refine g_newarr X12 hx hZ e12 (hw _ (List.mem_of_getElem? (i := 9) rfl)) (hb hby d1_15) (n := 16) (by decide) 16 (by omega) (by decide) (by decide) (by decide) (ad := "[I") (by decide) rfl (fun T22 h22 a22 ga22 X22 e22 Ex22 Aa22 Ea22 => ?_)
  have ne23 : p0 ≠ a22 := Nat.ne_of_lt (by rw [ga22]; exact fx13.lt)
  have ne24 : a2 ≠ a22 := Nat.ne_of_lt (by rw [ga22]; exact fx17.lt)
  have ge25 : n0 ≤ a22 := by rw [ga22]; exact Z21
  have fx26 : Fld Z h22 p0 "com/example/hold/hold/graph/Digraph$Builder" "target" "[I" .null := Fld.ext Ex22 fx13
  have fx27 : Fld Z h22 p0 "com/example/hold/hold/graph/Digraph$Builder" "vertexCount" "I" (.int (0 : Int32)) := Fld.ext Ex22 fx14
  have fx28 : Fld Z h22 p0 "com/example/hold/hold/graph/Digraph$Builder" "edgeCount" "I" (.int (0 : Int32)) := Fld.ext Ex22 fx15
  have fx29 : Exa Z h22 p0 "com/example/hold/hold/graph/Digraph$Builder" := Exa.ext Ex22 fx16
  have fx30 : Ar Z h22 a2 .int [(.int (0 : Int32)), (.int (0 : Int32)), (.int (0 : Int32)), (.int (0 : Int32)), (.int (0 : Int32)), (.int (0 : Int32)), (.int (0 : Int32)), (.int (0 : Int32)), (.int (0 : Int32)), (.int (0 : Int32)), (.int (0 : Int32)), (.int (0 : Int32)), (.int (0 : Int32)), (.int (0 : Int32)), (.int (0 : Int32)), (.int (0 : Int32)), (.int (0 : Int32))] := Ar.ext fx17 Ex22
  have fx31 : Exa Z h22 a2 "[I" := Exa.ext Ex22 fx18
  have fx32 : Fld Z h22 p0 "com/example/hold/hold/graph/Digraph$Builder" "start" "[I" (.ref a2) := Fld.ext Ex22 fx19
  have Z33 : n0 ≤ h22.size := Nat.le_trans Z21 Ex22.1
  have fx34 : Ar Z h22 a22 .int [(.int (0 : Int32)), (.int (0 : Int32)), (.int (0 : Int32)), (.int (0 : Int32)), (.int (0 : Int32)), (.int (0 : Int32)), (.int (0 : Int32)), (.int (0 : Int32)), (.int (0 : Int32)), (.int (0 : Int32)), (.int (0 : Int32)), (.int (0 : Int32)), (.int (0 : Int32)), (.int (0 : Int32)), (.int (0 : Int32)), (.int (0 : Int32))] := Aa22
  show Goes p.tables e below (T22.setTop (mkF m 17 #[.val (.ref p0)] [(.ref a22), (.ref p0)])) _
  refine g_putF X22 hx hZ hown e22 (hw _ (List.mem_of_getElem? (i := 12) rfl)) Via.refl (v' := (.ref a22)) fx26 fx29 (Or.inl (hw _ (List.mem_of_getElem? (i := 13) rfl))) (hw _ (List.mem_of_getElem? (i := 1) rfl)) (ty := (.array .int)) (by decide) rfl rfl (hb hby d1_17) (fun T35 h35 X35 e35 W35 => ?_)
  have fx36 : Fld Z h35 p0 "com/example/hold/hold/graph/Digraph$Builder" "vertexCount" "I" (.int (0 : Int32)) := Fld.other W35 fx27 (Or.inr (slot_ne (t := .int) (t' := (.array .int)) (Or.inl (hw _ (List.mem_of_getElem? (i := 27) rfl))) (Or.inl (hw _ (List.mem_of_getElem? (i := 13) rfl))) (by decide) (by decide) (by decide)))
  have fx37 : Fld Z h35 p0 "com/example/hold/hold/graph/Digraph$Builder" "edgeCount" "I" (.int (0 : Int32)) := Fld.other W35 fx28 (Or.inr (slot_ne (t := .int) (t' := (.array .int)) (Or.inl (hw _ (List.mem_of_getElem? (i := 20) rfl))) (Or.inl (hw _ (List.mem_of_getElem? (i := 13) rfl))) (by decide) (by decide) (by decide)))
  have fx38 : Exa Z h35 p0 "com/example/hold/hold/graph/Digraph$Builder" := Exa.wr W35 fx29
  have fx39 : Ar Z h35 a2 .int [(.int (0 : Int32)), (.int (0 : Int32)), (.int (0 : Int32)), (.int (0 : Int32)), (.int (0 : Int32)), (.int (0 : Int32)), (.int (0 : Int32)), (.int (0 : Int32)), (.int (0 : Int32)), (.int (0 : Int32)), (.int (0 : Int32)), (.int (0 : Int32)), (.int (0 : Int32)), (.int (0 : Int32)), (.int (0 : Int32)), (.int (0 : Int32)), (.int (0 : Int32))] := Ar.other fx30 W35 (Ne.symm ne3)
  have fx40 : Exa Z h35 a2 "[I" := Exa.wr W35 fx31
  have fx41 : Fld Z h35 p0 "com/example/hold/hold/graph/Digraph$Builder" "start" "[I" (.ref a2) := Fld.other W35 fx32 (Or.inr (slot_ne (t := (.array .int)) (t' := (.array .int)) (Or.inl (hw _ (List.mem_of_getElem? (i := 11) rfl))) (Or.inl (hw _ (List.mem_of_getElem? (i := 13) rfl))) (by decide) (by decide) (by decide)))
  have fx42 : Ar Z h35 a22 .int [(.int (0 : Int32)), (.int (0 : Int32)), (.int (0 : Int32)), (.int (0 : Int32)), (.int (0 : Int32)), (.int (0 : Int32)), (.int (0 : Int32)), (.int (0 : Int32)), (.int (0 : Int32)), (.int (0 : Int32)), (.int (0 : Int32)), (.int (0 : Int32)), (.int (0 : Int32)), (.int (0 : Int32)), (.int (0 : Int32)), (.int (0 : Int32))] := Ar.other fx34 W35 (Ne.symm ne23)
  have fx43 : Exa Z h35 a22 "[I" := Exa.wr W35 Ea22
  have fx44 : Fld Z h35 p0 "com/example/hold/hold/graph/Digraph$Builder" "target" "[I" (.ref a22) := Fld.same W35 fx26
  have N45 := Fr.snoc X35 N20 ga
  have Z46 : n0 ≤ h35.size := by rw [W35.size]; exact Z33
  show Goes p.tables e below (T35.setTop (mkF m 20 #[.val (.ref p0)] [])) _
  exact g_ret0 X35 hx hret hlk (hb hby d1_20) (by decide) (by decide) (by rw [e35]; exact ⟨rfl, N45, a2, a22, ge4, ge25, (Ne.symm ne3), (Ne.symm ne23), ne24, ⟨fx38, fx41, fx44, fx36, fx37, fx39, _, rfl, fx42⟩⟩)
theorem own_ne16 {i : Int32} {k : Nat} (h : i.toInt = k) (hk : k < 16) : ¬ i = (16 : Int32) := fun z => by
  rw [z] at h
  have : (16 : Int32).toInt = 16 := by decide
  omega
theorem own_ne17 {i : Int32} {k : Nat} (h : i.toInt = k) (hk : k < 17) : ¬ i = (17 : Int32) := fun z => by
  rw [z] at h
  have : (17 : Int32).toInt = 17 := by decide
  omega
theorem d3_0 : decode prog_63_method_2_code 0 = .ok (.aload_n 0, 1) := by decide +kernel
theorem d3_1 : decode prog_63_method_2_code 1 = .ok (.getfield 16, 3) := by decide +kernel
theorem d3_4 : decode prog_63_method_2_code 4 = .ok (.aload_n 0, 1) := by decide +kernel
theorem d3_5 : decode prog_63_method_2_code 5 = .ok (.getfield 13, 3) := by decide +kernel
theorem d3_8 : decode prog_63_method_2_code 8 = .ok (.arraylength, 1) := by decide +kernel
theorem d3_9 : decode prog_63_method_2_code 9 = .ok (.if_icmp .ne 20, 3) := by decide +kernel
theorem d3_12 : decode prog_63_method_2_code 12 = .ok (.aload_n 0, 1) := by decide +kernel
theorem d3_13 : decode prog_63_method_2_code 13 = .ok (.aload_n 0, 1) := by decide +kernel
theorem d3_14 : decode prog_63_method_2_code 14 = .ok (.getfield 13, 3) := by decide +kernel
theorem d3_17 : decode prog_63_method_2_code 17 = .ok (.iconst 2, 1) := by decide +kernel
theorem d3_18 : decode prog_63_method_2_code 18 = .ok (.aload_n 0, 1) := by decide +kernel
theorem d3_19 : decode prog_63_method_2_code 19 = .ok (.getfield 16, 3) := by decide +kernel
theorem d3_22 : decode prog_63_method_2_code 22 = .ok (.imul, 1) := by decide +kernel
theorem d3_23 : decode prog_63_method_2_code 23 = .ok (.invokestatic 20, 3) := by decide +kernel
theorem d3_26 : decode prog_63_method_2_code 26 = .ok (.putfield 13, 3) := by decide +kernel
theorem d3_29 : decode prog_63_method_2_code 29 = .ok (.aload_n 0, 1) := by decide +kernel
theorem d3_30 : decode prog_63_method_2_code 30 = .ok (.getfield 13, 3) := by decide +kernel
theorem d3_33 : decode prog_63_method_2_code 33 = .ok (.aload_n 0, 1) := by decide +kernel
theorem d3_34 : decode prog_63_method_2_code 34 = .ok (.getfield 16, 3) := by decide +kernel
theorem d3_37 : decode prog_63_method_2_code 37 = .ok (.iload_n 1, 1) := by decide +kernel
theorem d3_38 : decode prog_63_method_2_code 38 = .ok (.iastore, 1) := by decide +kernel
theorem d3_39 : decode prog_63_method_2_code 39 = .ok (.aload_n 0, 1) := by decide +kernel
theorem d3_40 : decode prog_63_method_2_code 40 = .ok (.dup, 1) := by decide +kernel
theorem d3_41 : decode prog_63_method_2_code 41 = .ok (.getfield 16, 3) := by decide +kernel
theorem d3_44 : decode prog_63_method_2_code 44 = .ok (.dup_x1, 1) := by decide +kernel
theorem d3_45 : decode prog_63_method_2_code 45 = .ok (.iconst 1, 1) := by decide +kernel
theorem d3_46 : decode prog_63_method_2_code 46 = .ok (.iadd, 1) := by decide +kernel
theorem d3_47 : decode prog_63_method_2_code 47 = .ok (.putfield 16, 3) := by decide +kernel
theorem d3_50 : decode prog_63_method_2_code 50 = .ok (.ireturn, 1) := by decide +kernel
theorem pd_3 : parseMethodDescriptor "(I)I" = some ⟨[.int], some .int⟩ := by decide +kernel
theorem ef_3 (m : MethodId) (p0 : Addr) (p1 : Int32) : entryFrame m #[(.ref p0), (.int p1)] 2 = mkF m 0 #[.val (.ref p0), .val (.int p1)] [] := by first | (simp [entryFrame, mkF, argsToLocals, Value.category]; done) | rfl
set_option maxRecDepth 65536 in
set_option maxHeartbeats 40000000 in
theorem rmAE (l : Launch) (Z : State) (a0 : Array Value) (hw : ∀ d ∈ tables_1, d.before a0 Z = true) (p0 : Addr) (p1 : Int32) (h0 : Heap) (n0 : Nat) (Z0 : n0 ≤ h0.size) (sa ta : Addr) (vs : List Value) (vc ec : Int32) (hB : Bd Z h0 p0 sa ta vs vc ec) (ga : n0 ≤ p0) (gs : n0 ≤ sa) (gt : n0 ≤ ta) (ns : sa ≠ p0) (nt : ta ≠ p0) (nst : sa ≠ ta) (k : Nat) (hk1 : ec.toInt = k) (hk2 : k < 16) :
    Con l Z (⟨"com/example/hold/hold/graph/Digraph$Builder", "addEdge", "(I)I"⟩ : MethodName) prog_63_method_2_code 2 (some .int) [] ({ frames := 0, cells := 0, slots := 0, locals := 0 } : Room) 0 0 #[(.ref p0), (.int p1)] h0 (fun v h L => v = some (.int ec) ∧ Fr n0 L ∧ Bd Z h p0 sa ta vs vc (ec + 1)) := by
  refine Con.body (plainFor_of_name (by first | (simp [plainName, overriddenIn]; done) | decide +kernel)) ?_
  intro p e s m below meth c T0 hx hby hml hown hnm hZ hret hlk X0 e0
  refine Goes.cast (ef_3 m p0 p1) ?_
  obtain ⟨E0, f1, f2, f3, f4, A1, ts, hts, A2⟩ := hB
  have N0 := Fr.nil n0
  show Goes p.tables e below (T0.setTop (mkF m 0 #[.val (.ref p0), .val (.int p1)] [])) _
  refine g_aloadN X0 hx (hb hby d3_0) rfl rfl ?_
  show Goes p.tables e below (T0.setTop (mkF m 1 #[.val (.ref p0), .val (.int p1)] [(.ref p0)])) _
  refine g_getF X0 hx hZ hown e0 (host := "") (Or.inl (hw _ (List.mem_of_getElem? (i := 19) rfl))) Via.refl f4 (hb hby d3_1) (fun T1 X1 e1 => ?_)
  show Goes p.tables e below (T1.setTop (mkF m 4 #[.val (.ref p0), .val (.int p1)] [(.int ec)])) _
  refine g_aloadN X1 hx (hb hby d3_4) rfl rfl ?_
  show Goes p.tables e below (T1.setTop (mkF m 5 #[.val (.ref p0), .val (.int p1)] [(.ref p0), (.int ec)])) _
  refine g_getF X1 hx hZ hown e1 (host := "") (Or.inl (hw _ (List.mem_of_getElem? (i := 12) rfl))) Via.refl f2 (hb hby d3_5) (fun T2 X2 e2 => ?_)
  show Goes p.tables e below (T2.setTop (mkF m 8 #[.val (.ref p0), .val (.int p1)] [(.ref ta), (.int ec)])) _
  refine g_alen X2 hx hZ e2 A2 (16 : Int32) (by rw [hts]; decide) (hb hby d3_8) ?_
  show Goes p.tables e below (T2.setTop (mkF m 9 #[.val (.ref p0), .val (.int p1)] [(.int (16 : Int32)), (.int ec)])) _
  have c9 : ¬ ec = (16 : Int32) := (own_ne16 hk1 hk2)
  refine g_icmp_ne X2 hx (hb hby d3_9) (by decide) (pc' := 29) (by decide) (fun _ => ?_) (fun q => absurd q c9)
  show Goes p.tables e below (T2.setTop (mkF m 29 #[.val (.ref p0), .val (.int p1)] [])) _
  refine g_aloadN X2 hx (hb hby d3_29) rfl rfl ?_
  show Goes p.tables e below (T2.setTop (mkF m 30 #[.val (.ref p0), .val (.int p1)] [(.ref p0)])) _
  refine g_getF X2 hx hZ hown e2 (host := "") (Or.inl (hw _ (List.mem_of_getElem? (i := 12) rfl))) Via.refl f2 (hb hby d3_30) (fun T3 X3 e3 => ?_)
  show Goes p.tables e below (T3.setTop (mkF m 33 #[.val (.ref p0), .val (.int p1)] [(.ref ta)])) _
  refine g_aloadN X3 hx (hb hby d3_33) rfl rfl ?_
  show Goes p.tables e below (T3.setTop (mkF m 34 #[.val (.ref p0), .val (.int p1)] [(.ref p0), (.ref ta)])) _
  refine g_getF X3 hx hZ hown e3 (host := "") (Or.inl (hw _ (List.mem_of_getElem? (i := 19) rfl))) Via.refl f4 (hb hby d3_34) (fun T4 X4 e4 => ?_)
  show Goes p.tables e below (T4.setTop (mkF m 37 #[.val (.ref p0), .val (.int p1)] [(.int ec), (.ref ta)])) _
  refine g_iloadN X4 hx (hb hby d3_37) rfl ?_
  show Goes p.tables e below (T4.setTop (mkF m 38 #[.val (.ref p0), .val (.int p1)] [(.int p1), (.int ec), (.ref ta)])) _
  refine g_iastore X4 hx hZ e4 A2 k hk1 (by rw [hts]; exact hk2) (hb hby d3_38) (fun T5 h5 X5 e5 W5 A5 => ?_)
  have fx6 : Fld Z h5 p0 "com/example/hold/hold/graph/Digraph$Builder" "start" "[I" (.ref sa) := Fld.other W5 f1 (Or.inl (Ne.symm nt))
  have fx7 : Fld Z h5 p0 "com/example/hold/hold/graph/Digraph$Builder" "target" "[I" (.ref ta) := Fld.other W5 f2 (Or.inl (Ne.symm nt))
  have fx8 : Fld Z h5 p0 "com/example/hold/hold/graph/Digraph$Builder" "vertexCount" "I" (.int vc) := Fld.other W5 f3 (Or.inl (Ne.symm nt))
  have fx9 : Fld Z h5 p0 "com/example/hold/hold/graph/Digraph$Builder" "edgeCount" "I" (.int ec) := Fld.other W5 f4 (Or.inl (Ne.symm nt))
  have fx10 : Exa Z h5 p0 "com/example/hold/hold/graph/Digraph$Builder" := Exa.wr W5 E0
  have fx11 : Ar Z h5 sa .int vs := Ar.other A1 W5 nst
  have fx12 : Ar Z h5 ta .int (List.set ts k (.int p1)) := A5
  have N13 := Fr.snoc X5 N0 gt
  have Z14 : n0 ≤ h5.size := by rw [W5.size]; exact Z0
  show Goes p.tables e below (T5.setTop (mkF m 39 #[.val (.ref p0), .val (.int p1)] [])) _
  refine g_aloadN X5 hx (hb hby d3_39) rfl rfl ?_
  show Goes p.tables e below (T5.setTop (mkF m 40 #[.val (.ref p0), .val (.int p1)] [(.ref p0)])) _
  refine g_dup X5 hx (hb hby d3_40) rfl ?_
  show Goes p.tables e below (T5.setTop (mkF m 41 #[.val (.ref p0), .val (.int p1)] [(.ref p0), (.ref p0)])) _
  refine g_getF X5 hx hZ hown e5 (host := "") (Or.inl (hw _ (List.mem_of_getElem? (i := 19) rfl))) Via.refl fx9 (hb hby d3_41) (fun T15 X15 e15 => ?_)
  show Goes p.tables e below (T15.setTop (mkF m 44 #[.val (.ref p0), .val (.int p1)] [(.int ec), (.ref p0)])) _
  refine g_dupX1 X15 hx (hb hby d3_44) rfl rfl ?_
  show Goes p.tables e below (T15.setTop (mkF m 45 #[.val (.ref p0), .val (.int p1)] [(.int ec), (.ref p0), (.int ec)])) _
  refine g_iconst X15 hx (1 : Int32) (hb hby d3_45) rfl ?_
  show Goes p.tables e below (T15.setTop (mkF m 46 #[.val (.ref p0), .val (.int p1)] [(.int (1 : Int32)), (.int ec), (.ref p0), (.int ec)])) _
  refine g_iadd X15 hx (hb hby d3_46) ?_
  show Goes p.tables e below (T15.setTop (mkF m 47 #[.val (.ref p0), .val (.int p1)] [(.int (ec + (1 : Int32))), (.ref p0), (.int ec)])) _
  refine g_putF X15 hx hZ hown e15 (hw _ (List.mem_of_getElem? (i := 19) rfl)) Via.refl (v' := (.int (ec + (1 : Int32)))) fx9 fx10 (Or.inl (hw _ (List.mem_of_getElem? (i := 20) rfl))) (hw _ (List.mem_of_getElem? (i := 1) rfl)) (ty := .int) (by decide) rfl rfl (hb hby d3_47) (fun T16 h16 X16 e16 W16 => ?_)
  have fx17 : Fld Z h16 p0 "com/example/hold/hold/graph/Digraph$Builder" "start" "[I" (.ref sa) := Fld.other W16 fx6 (Or.inr (slot_ne (t := (.array .int)) (t' := .int) (Or.inl (hw _ (List.mem_of_getElem? (i := 11) rfl))) (Or.inl (hw _ (List.mem_of_getElem? (i := 20) rfl))) (by decide) (by decide) (by decide)))
  have fx18 : Fld Z h16 p0 "com/example/hold/hold/graph/Digraph$Builder" "target" "[I" (.ref ta) := Fld.other W16 fx7 (Or.inr (slot_ne (t := (.array .int)) (t' := .int) (Or.inl (hw _ (List.mem_of_getElem? (i := 13) rfl))) (Or.inl (hw _ (List.mem_of_getElem? (i := 20) rfl))) (by decide) (by decide) (by decide)))
  have fx19 : Fld Z h16 p0 "com/example/hold/hold/graph/Digraph$Builder" "vertexCount" "I" (.int vc) := Fld.other W16 fx8 (Or.inr (slot_ne (t := .int) (t' := .int) (Or.inl (hw _ (List.mem_of_getElem? (i := 27) rfl))) (Or.inl (hw _ (List.mem_of_getElem? (i := 20) rfl))) (by decide) (by decide) (by decide)))
  have fx20 : Exa Z h16 p0 "com/example/hold/hold/graph/Digraph$Builder" := Exa.wr W16 fx10
  have fx21 : Ar Z h16 sa .int vs := Ar.other fx11 W16 ns
  have fx22 : Ar Z h16 ta .int (List.set ts k (.int p1)) := Ar.other fx12 W16 nt
  have fx23 : Fld Z h16 p0 "com/example/hold/hold/graph/Digraph$Builder" "edgeCount" "I" (.int (ec + (1 : Int32))) := Fld.same W16 fx9
  have N24 := Fr.snoc X16 N13 ga
  have Z25 : n0 ≤ h16.size := by rw [W16.size]; exact Z14
  show Goes p.tables e below (T16.setTop (mkF m 50 #[.val (.ref p0), .val (.int p1)] [(.int ec)])) _
  exact g_retI X16 hx hret hlk (hb hby d3_50) (by decide) (by decide) (by rw [e16]; exact ⟨rfl, N24, ⟨fx20, fx17, fx18, fx19, fx23, fx21, _, (by rw [List.length_set]; exact hts), fx22⟩⟩)
theorem d4_0 : decode prog_63_method_3_code 0 = .ok (.aload_n 0, 1) := by decide +kernel
theorem d4_1 : decode prog_63_method_3_code 1 = .ok (.getfield 26, 3) := by decide +kernel
theorem d4_4 : decode prog_63_method_3_code 4 = .ok (.iconst 1, 1) := by decide +kernel
theorem d4_5 : decode prog_63_method_3_code 5 = .ok (.iadd, 1) := by decide +kernel
theorem d4_6 : decode prog_63_method_3_code 6 = .ok (.aload_n 0, 1) := by decide +kernel
theorem d4_7 : decode prog_63_method_3_code 7 = .ok (.getfield 7, 3) := by decide +kernel
theorem d4_10 : decode prog_63_method_3_code 10 = .ok (.arraylength, 1) := by decide +kernel
theorem d4_11 : decode prog_63_method_3_code 11 = .ok (.if_icmp .ne 21, 3) := by decide +kernel
theorem d4_14 : decode prog_63_method_3_code 14 = .ok (.aload_n 0, 1) := by decide +kernel
theorem d4_15 : decode prog_63_method_3_code 15 = .ok (.aload_n 0, 1) := by decide +kernel
theorem d4_16 : decode prog_63_method_3_code 16 = .ok (.getfield 7, 3) := by decide +kernel
theorem d4_19 : decode prog_63_method_3_code 19 = .ok (.iconst 2, 1) := by decide +kernel
theorem d4_20 : decode prog_63_method_3_code 20 = .ok (.aload_n 0, 1) := by decide +kernel
theorem d4_21 : decode prog_63_method_3_code 21 = .ok (.getfield 7, 3) := by decide +kernel
theorem d4_24 : decode prog_63_method_3_code 24 = .ok (.arraylength, 1) := by decide +kernel
theorem d4_25 : decode prog_63_method_3_code 25 = .ok (.imul, 1) := by decide +kernel
theorem d4_26 : decode prog_63_method_3_code 26 = .ok (.invokestatic 20, 3) := by decide +kernel
theorem d4_29 : decode prog_63_method_3_code 29 = .ok (.putfield 7, 3) := by decide +kernel
theorem d4_32 : decode prog_63_method_3_code 32 = .ok (.aload_n 0, 1) := by decide +kernel
theorem d4_33 : decode prog_63_method_3_code 33 = .ok (.getfield 7, 3) := by decide +kernel
theorem d4_36 : decode prog_63_method_3_code 36 = .ok (.aload_n 0, 1) := by decide +kernel
theorem d4_37 : decode prog_63_method_3_code 37 = .ok (.dup, 1) := by decide +kernel
theorem d4_38 : decode prog_63_method_3_code 38 = .ok (.getfield 26, 3) := by decide +kernel
theorem d4_41 : decode prog_63_method_3_code 41 = .ok (.iconst 1, 1) := by decide +kernel
theorem d4_42 : decode prog_63_method_3_code 42 = .ok (.iadd, 1) := by decide +kernel
theorem d4_43 : decode prog_63_method_3_code 43 = .ok (.dup_x1, 1) := by decide +kernel
theorem d4_44 : decode prog_63_method_3_code 44 = .ok (.putfield 26, 3) := by decide +kernel
theorem d4_47 : decode prog_63_method_3_code 47 = .ok (.aload_n 0, 1) := by decide +kernel
theorem d4_48 : decode prog_63_method_3_code 48 = .ok (.getfield 16, 3) := by decide +kernel
theorem d4_51 : decode prog_63_method_3_code 51 = .ok (.iastore, 1) := by decide +kernel
theorem d4_52 : decode prog_63_method_3_code 52 = .ok (.return_, 1) := by decide +kernel
theorem pd_4 : parseMethodDescriptor "()V" = some ⟨[], none⟩ := by decide +kernel
theorem ef_4 (m : MethodId) (p0 : Addr) : entryFrame m #[(.ref p0)] 1 = mkF m 0 #[.val (.ref p0)] [] := by first | (simp [entryFrame, mkF, argsToLocals, Value.category]; done) | rfl
set_option maxRecDepth 65536 in
set_option maxHeartbeats 40000000 in
theorem rmEV (l : Launch) (Z : State) (a0 : Array Value) (hw : ∀ d ∈ tables_1, d.before a0 Z = true) (p0 : Addr) (h0 : Heap) (n0 : Nat) (Z0 : n0 ≤ h0.size) (sa ta : Addr) (vs : List Value) (vc ec : Int32) (hB : Bd Z h0 p0 sa ta vs vc ec) (ga : n0 ≤ p0) (gs : n0 ≤ sa) (gt : n0 ≤ ta) (ns : sa ≠ p0) (nt : ta ≠ p0) (nst : sa ≠ ta) (k : Nat) (hk1 : vc.toInt = k) (hk2 : k < 16) (hvs : vs.length = 17) :
    Con l Z (⟨"com/example/hold/hold/graph/Digraph$Builder", "endVertex", "()V"⟩ : MethodName) prog_63_method_3_code 1 none [] ({ frames := 0, cells := 0, slots := 0, locals := 0 } : Room) 0 0 #[(.ref p0)] h0 (fun v h L => v = none ∧ Fr n0 L ∧ Bd Z h p0 sa ta (vs.set (k + 1) (.int ec)) (vc + 1) ec) := by
  refine Con.body (plainFor_of_name (by first | (simp [plainName, overriddenIn]; done) | decide +kernel)) ?_
  intro p e s m below meth c T0 hx hby hml hown hnm hZ hret hlk X0 e0
  refine Goes.cast (ef_4 m p0) ?_
  obtain ⟨E0, f1, f2, f3, f4, A1, ts, hts, A2⟩ := hB
  have N0 := Fr.nil n0
  show Goes p.tables e below (T0.setTop (mkF m 0 #[.val (.ref p0)] [])) _
  refine g_aloadN X0 hx (hb hby d4_0) rfl rfl ?_
  show Goes p.tables e below (T0.setTop (mkF m 1 #[.val (.ref p0)] [(.ref p0)])) _
  refine g_getF X0 hx hZ hown e0 (host := "") (Or.inl (hw _ (List.mem_of_getElem? (i := 26) rfl))) Via.refl f3 (hb hby d4_1) (fun T1 X1 e1 => ?_)
  show Goes p.tables e below (T1.setTop (mkF m 4 #[.val (.ref p0)] [(.int vc)])) _
  refine g_iconst X1 hx (1 : Int32) (hb hby d4_4) rfl ?_
  show Goes p.tables e below (T1.setTop (mkF m 5 #[.val (.ref p0)] [(.int (1 : Int32)), (.int vc)])) _
  refine g_iadd X1 hx (hb hby d4_5) ?_
  show Goes p.tables e below (T1.setTop (mkF m 6 #[.val (.ref p0)] [(.int (vc + (1 : Int32)))])) _
  refine g_aloadN X1 hx (hb hby d4_6) rfl rfl ?_
  show Goes p.tables e below (T1.setTop (mkF m 7 #[.val (.ref p0)] [(.ref p0), (.int (vc + (1 : Int32)))])) _
  refine g_getF X1 hx hZ hown e1 (host := "") (Or.inl (hw _ (List.mem_of_getElem? (i := 10) rfl))) Via.refl f1 (hb hby d4_7) (fun T2 X2 e2 => ?_)
  show Goes p.tables e below (T2.setTop (mkF m 10 #[.val (.ref p0)] [(.ref sa), (.int (vc + (1 : Int32)))])) _
  refine g_alen X2 hx hZ e2 A1 (17 : Int32) (by rw [hvs]; decide) (hb hby d4_10) ?_
  show Goes p.tables e below (T2.setTop (mkF m 11 #[.val (.ref p0)] [(.int (17 : Int32)), (.int (vc + (1 : Int32)))])) _
  have c11 : ¬ (vc + (1 : Int32)) = (17 : Int32) := (own_ne17 (own_p1 hk1 (by omega)) (by omega))
  refine g_icmp_ne X2 hx (hb hby d4_11) (by decide) (pc' := 32) (by decide) (fun _ => ?_) (fun q => absurd q c11)
  show Goes p.tables e below (T2.setTop (mkF m 32 #[.val (.ref p0)] [])) _
  refine g_aloadN X2 hx (hb hby d4_32) rfl rfl ?_
  show Goes p.tables e below (T2.setTop (mkF m 33 #[.val (.ref p0)] [(.ref p0)])) _
  refine g_getF X2 hx hZ hown e2 (host := "") (Or.inl (hw _ (List.mem_of_getElem? (i := 10) rfl))) Via.refl f1 (hb hby d4_33) (fun T3 X3 e3 => ?_)
  show Goes p.tables e below (T3.setTop (mkF m 36 #[.val (.ref p0)] [(.ref sa)])) _
  refine g_aloadN X3 hx (hb hby d4_36) rfl rfl ?_
  show Goes p.tables e below (T3.setTop (mkF m 37 #[.val (.ref p0)] [(.ref p0), (.ref sa)])) _
  refine g_dup X3 hx (hb hby d4_37) rfl ?_
  show Goes p.tables e below (T3.setTop (mkF m 38 #[.val (.ref p0)] [(.ref p0), (.ref p0), (.ref sa)])) _
  refine g_getF X3 hx hZ hown e3 (host := "") (Or.inl (hw _ (List.mem_of_getElem? (i := 26) rfl))) Via.refl f3 (hb hby d4_38) (fun T4 X4 e4 => ?_)
  show Goes p.tables e below (T4.setTop (mkF m 41 #[.val (.ref p0)] [(.int vc), (.ref p0), (.ref sa)])) _
  refine g_iconst X4 hx (1 : Int32) (hb hby d4_41) rfl ?_
  show Goes p.tables e below (T4.setTop (mkF m 42 #[.val (.ref p0)] [(.int (1 : Int32)), (.int vc), (.ref p0), (.ref sa)])) _
  refine g_iadd X4 hx (hb hby d4_42) ?_
  show Goes p.tables e below (T4.setTop (mkF m 43 #[.val (.ref p0)] [(.int (vc + (1 : Int32))), (.ref p0), (.ref sa)])) _
  refine g_dupX1 X4 hx (hb hby d4_43) rfl rfl ?_
  show Goes p.tables e below (T4.setTop (mkF m 44 #[.val (.ref p0)] [(.int (vc + (1 : Int32))), (.ref p0), (.int (vc + (1 : Int32))), (.ref sa)])) _
  refine g_putF X4 hx hZ hown e4 (hw _ (List.mem_of_getElem? (i := 26) rfl)) Via.refl (v' := (.int (vc + (1 : Int32)))) f3 E0 (Or.inl (hw _ (List.mem_of_getElem? (i := 27) rfl))) (hw _ (List.mem_of_getElem? (i := 1) rfl)) (ty := .int) (by decide) rfl rfl (hb hby d4_44) (fun T5 h5 X5 e5 W5 => ?_)
  have fx6 : Fld Z h5 p0 "com/example/hold/hold/graph/Digraph$Builder" "start" "[I" (.ref sa) := Fld.other W5 f1 (Or.inr (slot_ne (t := (.array .int)) (t' := .int) (Or.inl (hw _ (List.mem_of_getElem? (i := 11) rfl))) (Or.inl (hw _ (List.mem_of_getElem? (i := 27) rfl))) (by decide) (by decide) (by decide)))
  have fx7 : Fld Z h5 p0 "com/example/hold/hold/graph/Digraph$Builder" "target" "[I" (.ref ta) := Fld.other W5 f2 (Or.inr (slot_ne (t := (.array .int)) (t' := .int) (Or.inl (hw _ (List.mem_of_getElem? (i := 13) rfl))) (Or.inl (hw _ (List.mem_of_getElem? (i := 27) rfl))) (by decide) (by decide) (by decide)))
  have fx8 : Fld Z h5 p0 "com/example/hold/hold/graph/Digraph$Builder" "edgeCount" "I" (.int ec) := Fld.other W5 f4 (Or.inr (slot_ne (t := .int) (t' := .int) (Or.inl (hw _ (List.mem_of_getElem? (i := 20) rfl))) (Or.inl (hw _ (List.mem_of_getElem? (i := 27) rfl))) (by decide) (by decide) (by decide)))
  have fx9 : Exa Z h5 p0 "com/example/hold/hold/graph/Digraph$Builder" := Exa.wr W5 E0
  have fx10 : Ar Z h5 sa .int vs := Ar.other A1 W5 ns
  have fx11 : Ar Z h5 ta .int ts := Ar.other A2 W5 nt
  have fx12 : Fld Z h5 p0 "com/example/hold/hold/graph/Digraph$Builder" "vertexCount" "I" (.int (vc + (1 : Int32))) := Fld.same W5 f3
  have N13 := Fr.snoc X5 N0 ga
  have Z14 : n0 ≤ h5.size := by rw [W5.size]; exact Z0
  show Goes p.tables e below (T5.setTop (mkF m 47 #[.val (.ref p0)] [(.int (vc + (1 : Int32))), (.ref sa)])) _
  refine g_aloadN X5 hx (hb hby d4_47) rfl rfl ?_
  show Goes p.tables e below (T5.setTop (mkF m 48 #[.val (.ref p0)] [(.ref p0), (.int (vc + (1 : Int32))), (.ref sa)])) _
  refine g_getF X5 hx hZ hown e5 (host := "") (Or.inl (hw _ (List.mem_of_getElem? (i := 19) rfl))) Via.refl fx8 (hb hby d4_48) (fun T15 X15 e15 => ?_)
  show Goes p.tables e below (T15.setTop (mkF m 51 #[.val (.ref p0)] [(.int ec), (.int (vc + (1 : Int32))), (.ref sa)])) _
  refine g_iastore X15 hx hZ e15 fx10 (k + 1) (own_p1 hk1 (by omega)) (by rw [hvs]; omega) (hb hby d4_51) (fun T16 h16 X16 e16 W16 A16 => ?_)
  have fx17 : Fld Z h16 p0 "com/example/hold/hold/graph/Digraph$Builder" "start" "[I" (.ref sa) := Fld.other W16 fx6 (Or.inl (Ne.symm ns))
  have fx18 : Fld Z h16 p0 "com/example/hold/hold/graph/Digraph$Builder" "target" "[I" (.ref ta) := Fld.other W16 fx7 (Or.inl (Ne.symm ns))
  have fx19 : Fld Z h16 p0 "com/example/hold/hold/graph/Digraph$Builder" "edgeCount" "I" (.int ec) := Fld.other W16 fx8 (Or.inl (Ne.symm ns))
  have fx20 : Exa Z h16 p0 "com/example/hold/hold/graph/Digraph$Builder" := Exa.wr W16 fx9
  have fx21 : Ar Z h16 ta .int ts := Ar.other fx11 W16 (Ne.symm nst)
  have fx22 : Fld Z h16 p0 "com/example/hold/hold/graph/Digraph$Builder" "vertexCount" "I" (.int (vc + (1 : Int32))) := Fld.other W16 fx12 (Or.inl (Ne.symm ns))
  have fx23 : Ar Z h16 sa .int (List.set vs (k + 1) (.int ec)) := A16
  have N24 := Fr.snoc X16 N13 gs
  have Z25 : n0 ≤ h16.size := by rw [W16.size]; exact Z14
  show Goes p.tables e below (T16.setTop (mkF m 52 #[.val (.ref p0)] [])) _
  exact g_ret0 X16 hx hret hlk (hb hby d4_52) (by decide) (by decide) (by rw [e16]; exact ⟨rfl, N24, ⟨fx20, fx17, fx18, fx22, fx19, fx23, _, hts, fx21⟩⟩)
theorem d6_0 : decode jdk_65_method_123_code 0 = .ok (.iload_n 1, 1) := by decide +kernel
theorem d6_1 : decode jdk_65_method_123_code 1 = .ok (.aload_n 0, 1) := by decide +kernel
theorem d6_2 : decode jdk_65_method_123_code 2 = .ok (.arraylength, 1) := by decide +kernel
theorem d6_3 : decode jdk_65_method_123_code 3 = .ok (.if_icmp .ne 11, 3) := by decide +kernel
theorem d6_6 : decode jdk_65_method_123_code 6 = .ok (.aload_n 0, 1) := by decide +kernel
theorem d6_7 : decode jdk_65_method_123_code 7 = .ok (.invokevirtual 316, 3) := by decide +kernel
theorem d6_10 : decode jdk_65_method_123_code 10 = .ok (.checkcast 317, 3) := by decide +kernel
theorem d6_13 : decode jdk_65_method_123_code 13 = .ok (.areturn, 1) := by decide +kernel
theorem d6_14 : decode jdk_65_method_123_code 14 = .ok (.iload_n 1, 1) := by decide +kernel
theorem d6_15 : decode jdk_65_method_123_code 15 = .ok (.newarray .int, 2) := by decide +kernel
theorem d6_17 : decode jdk_65_method_123_code 17 = .ok (.astore_n 2, 1) := by decide +kernel
theorem d6_18 : decode jdk_65_method_123_code 18 = .ok (.aload_n 0, 1) := by decide +kernel
theorem d6_19 : decode jdk_65_method_123_code 19 = .ok (.iconst 0, 1) := by decide +kernel
theorem d6_20 : decode jdk_65_method_123_code 20 = .ok (.aload_n 2, 1) := by decide +kernel
theorem d6_21 : decode jdk_65_method_123_code 21 = .ok (.iconst 0, 1) := by decide +kernel
theorem d6_22 : decode jdk_65_method_123_code 22 = .ok (.aload_n 0, 1) := by decide +kernel
theorem d6_23 : decode jdk_65_method_123_code 23 = .ok (.arraylength, 1) := by decide +kernel
theorem d6_24 : decode jdk_65_method_123_code 24 = .ok (.iload_n 1, 1) := by decide +kernel
theorem d6_25 : decode jdk_65_method_123_code 25 = .ok (.invokestatic 304, 3) := by decide +kernel
theorem d6_28 : decode jdk_65_method_123_code 28 = .ok (.invokestatic 150, 3) := by decide +kernel
theorem d6_31 : decode jdk_65_method_123_code 31 = .ok (.aload_n 2, 1) := by decide +kernel
theorem d6_32 : decode jdk_65_method_123_code 32 = .ok (.areturn, 1) := by decide +kernel
theorem pd_6 : parseMethodDescriptor "([II)[I" = some ⟨[(.array .int), .int], some (.array .int)⟩ := by decide +kernel
theorem ef_6 (m : MethodId) (p0 : Addr) (p1 : Int32) : entryFrame m #[(.ref p0), (.int p1)] 3 = mkF m 0 #[.val (.ref p0), .val (.int p1), .unset] [] := by first | (simp [entryFrame, mkF, argsToLocals, Value.category]; done) | rfl
set_option maxRecDepth 65536 in
set_option maxHeartbeats 40000000 in
theorem rmCo (l : Launch) (Z : State) (a0 : Array Value) (hw : ∀ d ∈ tables_1, d.before a0 Z = true) (p0 : Addr) (p1 : Int32) (h0 : Heap) (n0 : Nat) (Z0 : n0 ≤ h0.size) (vs : List Value) (n : Nat) (hn : p1.toInt = n) (hlt : n < vs.length) (hvs : vs.length ≤ 17) (A0 : Ar Z h0 p0 .int vs) :
    Con l Z (⟨"java/util/Arrays", "copyOf", "([II)[I"⟩ : MethodName) jdk_65_method_123_code 3 (some (.array .int)) [] ({ frames := 1, cells := 1, slots := 17, locals := 40 } : Room) 1 17 #[(.ref p0), (.int p1)] h0 (fun v h L => ∃ b, v = some (.ref b) ∧ n0 ≤ b ∧ h0.size ≤ b ∧ Fr n0 L ∧ Keep h0 h [] ∧ Ar Z h b .int (vs.take n) ∧ Exa Z h b "[I") := by
  refine Con.body (plainFor_of_name (by first | (simp [plainName, overriddenIn]; done) | decide +kernel)) ?_
  intro p e s m below meth c T0 hx hby hml hown hnm hZ hret hlk X0 e0
  refine Goes.cast (ef_6 m p0 p1) ?_
  have N0 := Fr.nil n0
  have K0 : Keep h0 h0 [] := Keep.refl _ _
  show Goes p.tables e below (T0.setTop (mkF m 0 #[.val (.ref p0), .val (.int p1), .unset] [])) _
  refine g_iloadN X0 hx (hb hby d6_0) rfl ?_
  show Goes p.tables e below (T0.setTop (mkF m 1 #[.val (.ref p0), .val (.int p1), .unset] [(.int p1)])) _
  refine g_aloadN X0 hx (hb hby d6_1) rfl rfl ?_
  show Goes p.tables e below (T0.setTop (mkF m 2 #[.val (.ref p0), .val (.int p1), .unset] [(.ref p0), (.int p1)])) _
  refine g_alen X0 hx hZ e0 A0 (Int32.ofNat vs.length) (own_of (by omega)) (hb hby d6_2) ?_
  show Goes p.tables e below (T0.setTop (mkF m 3 #[.val (.ref p0), .val (.int p1), .unset] [(.int (Int32.ofNat vs.length)), (.int p1)])) _
  have c3 : ¬ p1 = (Int32.ofNat vs.length) := (fun z => by have q := own_of (n := vs.length) (by omega); rw [← z, hn] at q; omega)
  refine g_icmp_ne X0 hx (hb hby d6_3) (by decide) (pc' := 14) (by decide) (fun _ => ?_) (fun q => absurd q c3)
  show Goes p.tables e below (T0.setTop (mkF m 14 #[.val (.ref p0), .val (.int p1), .unset] [])) _
  refine g_iloadN X0 hx (hb hby d6_14) rfl ?_
  show Goes p.tables e below (T0.setTop (mkF m 15 #[.val (.ref p0), .val (.int p1), .unset] [(.int p1)])) _
  refine g_newarr X0 hx hZ e0 (hw _ (List.mem_of_getElem? (i := 9) rfl)) (hb hby d6_15) (n := n) hn 17 (by omega) (by decide) (by decide) (by decide) (ad := "[I") (by decide) rfl (fun T1 h1 a1 ga1 X1 e1 Ex1 Aa1 Ea1 => ?_)
  have ne2 : p0 ≠ a1 := Nat.ne_of_lt (by rw [ga1]; exact A0.lt)
  have ge3 : n0 ≤ a1 := by rw [ga1]; exact Z0
  have ge4 : h0.size ≤ a1 := by rw [ga1]; exact K0.1
  have fx5 : Ar Z h1 p0 .int vs := Ar.ext A0 Ex1
  have Z6 : n0 ≤ h1.size := Nat.le_trans Z0 Ex1.1
  have K7 : Keep h0 h1 [] := Keep.ext K0 Ex1
  have fx8 : Ar Z h1 a1 .int (List.replicate n (.int (0 : Int32))) := Aa1
  show Goes p.tables e below (T1.setTop (mkF m 17 #[.val (.ref p0), .val (.int p1), .unset] [(.ref a1)])) _
  refine g_astoreN X1 hx (hb hby d6_17) rfl (l' := #[.val (.ref p0), .val (.int p1), .val (.ref a1)]) rfl ?_
  show Goes p.tables e below (T1.setTop (mkF m 18 #[.val (.ref p0), .val (.int p1), .val (.ref a1)] [])) _
  refine g_aloadN X1 hx (hb hby d6_18) rfl rfl ?_
  show Goes p.tables e below (T1.setTop (mkF m 19 #[.val (.ref p0), .val (.int p1), .val (.ref a1)] [(.ref p0)])) _
  refine g_iconst X1 hx (0 : Int32) (hb hby d6_19) rfl ?_
  show Goes p.tables e below (T1.setTop (mkF m 20 #[.val (.ref p0), .val (.int p1), .val (.ref a1)] [(.int (0 : Int32)), (.ref p0)])) _
  refine g_aloadN X1 hx (hb hby d6_20) rfl rfl ?_
  show Goes p.tables e below (T1.setTop (mkF m 21 #[.val (.ref p0), .val (.int p1), .val (.ref a1)] [(.ref a1), (.int (0 : Int32)), (.ref p0)])) _
  refine g_iconst X1 hx (0 : Int32) (hb hby d6_21) rfl ?_
  show Goes p.tables e below (T1.setTop (mkF m 22 #[.val (.ref p0), .val (.int p1), .val (.ref a1)] [(.int (0 : Int32)), (.ref a1), (.int (0 : Int32)), (.ref p0)])) _
  refine g_aloadN X1 hx (hb hby d6_22) rfl rfl ?_
  show Goes p.tables e below (T1.setTop (mkF m 23 #[.val (.ref p0), .val (.int p1), .val (.ref a1)] [(.ref p0), (.int (0 : Int32)), (.ref a1), (.int (0 : Int32)), (.ref p0)])) _
  refine g_alen X1 hx hZ e1 fx5 (Int32.ofNat vs.length) (own_of (by omega)) (hb hby d6_23) ?_
  show Goes p.tables e below (T1.setTop (mkF m 24 #[.val (.ref p0), .val (.int p1), .val (.ref a1)] [(.int (Int32.ofNat vs.length)), (.int (0 : Int32)), (.ref a1), (.int (0 : Int32)), (.ref p0)])) _
  refine g_iloadN X1 hx (hb hby d6_24) rfl ?_
  show Goes p.tables e below (T1.setTop (mkF m 25 #[.val (.ref p0), .val (.int p1), .val (.ref a1)] [(.int p1), (.int (Int32.ofNat vs.length)), (.int (0 : Int32)), (.ref a1), (.int (0 : Int32)), (.ref p0)])) _
  refine g_callS X1 hx hZ hown (by rw [hml]; rfl) e1 (hw _ (List.mem_of_getElem? (i := 40) rfl)) (hw _ (List.mem_of_getElem? (i := 41) rfl)) (hw _ (List.mem_of_getElem? (i := 42) rfl)) (hw _ (List.mem_of_getElem? (i := 43) rfl)) (rmMin l Z a0 hw (Int32.ofNat vs.length) p1 h1) [(.int (Int32.ofNat vs.length)), (.int p1)] rfl [(.int (0 : Int32)), (.ref a1), (.int (0 : Int32)), (.ref p0)] rfl (lenOf pd_7 rfl) (hb hby d6_25) (by decide) 4 (by decide) (by decide) (by first | decide | exact Nat.le_refl _) (by decide) (by decide) (fun v T9 L9 X9 hQ9 => ?_)
  obtain ⟨rfl, e9, rfl⟩ := hQ9
  have N10 := Fr.app N0 (Fr.nil n0)
  show Goes p.tables e below (T9.setTop (mkF m 28 #[.val (.ref p0), .val (.int p1), .val (.ref a1)] [(.int (minV (Int32.ofNat vs.length) p1)), (.int (0 : Int32)), (.ref a1), (.int (0 : Int32)), (.ref p0)])) _
  have hmin : (minV (Int32.ofNat vs.length) p1).toInt = n := by rw [minV, if_pos (Int32.lt_iff_toInt_lt.mpr (by rw [hn, own_of (by omega)]; omega))]; exact hn
  refine g_acopy X9 hx hZ hown (by rw [hml]; rfl) e9 (hw _ (List.mem_of_getElem? (i := 44) rfl)) (hw _ (List.mem_of_getElem? (i := 47) rfl)) (hw _ (List.mem_of_getElem? (i := 45) rfl)) (hw _ (List.mem_of_getElem? (i := 46) rfl)) fx5 fx8 rfl (n := n) hmin (by omega) (by rw [List.length_replicate]; exact Nat.le_refl _) (n0 := n0) N10 ge3 (hb hby d6_28) 0 (by decide) (by first | decide | exact Nat.le_refl _) (by first | decide | exact Nat.le_refl _) (fun T11 h11 L11 X11 e11 Nc11 Kc11 Ac11 => ?_)
  have E11 : Exa Z h11 a1 "[I" := Exa.keep Ea1 Kc11
  rw [List.drop_replicate, Nat.sub_self, List.replicate_zero, List.append_nil] at Ac11
  have K11 : Keep h0 h11 [] := K7.trans Kc11 (allS (Or.inr ge4) all0)
  show Goes p.tables e below (T11.setTop (mkF m 31 #[.val (.ref p0), .val (.int p1), .val (.ref a1)] [])) _
  refine g_aloadN X11 hx (hb hby d6_31) rfl rfl ?_
  show Goes p.tables e below (T11.setTop (mkF m 32 #[.val (.ref p0), .val (.int p1), .val (.ref a1)] [(.ref a1)])) _
  exact g_retA X11 hx hret hlk rfl rfl (hb hby d6_32) (by decide) (by decide) (by rw [e11]; exact ⟨a1, rfl, ge3, ge4, Nc11, K11, Ac11, E11⟩)
theorem own_nz {z : Int32} {i : Nat} (h : z.toInt = (i + 1 : Nat)) : ¬ z = 0 := fun e => by
  rw [e] at h
  have : (0 : Int32).toInt = 0 := rfl
  omega
theorem d8_0 : decode prog_62_method_1_code 0 = .ok (.aload_n 0, 1) := by decide +kernel
theorem d8_1 : decode prog_62_method_1_code 1 = .ok (.invokespecial 1, 3) := by decide +kernel
theorem d8_4 : decode prog_62_method_1_code 4 = .ok (.aload_n 1, 1) := by decide +kernel
theorem d8_5 : decode prog_62_method_1_code 5 = .ok (.arraylength, 1) := by decide +kernel
theorem d8_6 : decode prog_62_method_1_code 6 = .ok (.ifCond .eq 20, 3) := by decide +kernel
theorem d8_9 : decode prog_62_method_1_code 9 = .ok (.aload_n 1, 1) := by decide +kernel
theorem d8_10 : decode prog_62_method_1_code 10 = .ok (.iconst 0, 1) := by decide +kernel
theorem d8_11 : decode prog_62_method_1_code 11 = .ok (.iaload, 1) := by decide +kernel
theorem d8_12 : decode prog_62_method_1_code 12 = .ok (.ifCond .ne 14, 3) := by decide +kernel
theorem d8_15 : decode prog_62_method_1_code 15 = .ok (.aload_n 1, 1) := by decide +kernel
theorem d8_16 : decode prog_62_method_1_code 16 = .ok (.aload_n 1, 1) := by decide +kernel
theorem d8_17 : decode prog_62_method_1_code 17 = .ok (.arraylength, 1) := by decide +kernel
theorem d8_18 : decode prog_62_method_1_code 18 = .ok (.iconst 1, 1) := by decide +kernel
theorem d8_19 : decode prog_62_method_1_code 19 = .ok (.isub, 1) := by decide +kernel
theorem d8_20 : decode prog_62_method_1_code 20 = .ok (.iaload, 1) := by decide +kernel
theorem d8_21 : decode prog_62_method_1_code 21 = .ok (.aload_n 2, 1) := by decide +kernel
theorem d8_22 : decode prog_62_method_1_code 22 = .ok (.arraylength, 1) := by decide +kernel
theorem d8_23 : decode prog_62_method_1_code 23 = .ok (.if_icmp .eq 13, 3) := by decide +kernel
theorem d8_26 : decode prog_62_method_1_code 26 = .ok (.new 7, 3) := by decide +kernel
theorem d8_29 : decode prog_62_method_1_code 29 = .ok (.dup, 1) := by decide +kernel
theorem d8_30 : decode prog_62_method_1_code 30 = .ok (.ldc 9, 2) := by decide +kernel
theorem d8_32 : decode prog_62_method_1_code 32 = .ok (.invokespecial 11, 3) := by decide +kernel
theorem d8_35 : decode prog_62_method_1_code 35 = .ok (.athrow, 1) := by decide +kernel
theorem d8_36 : decode prog_62_method_1_code 36 = .ok (.aload_n 0, 1) := by decide +kernel
theorem d8_37 : decode prog_62_method_1_code 37 = .ok (.aload_n 1, 1) := by decide +kernel
theorem d8_38 : decode prog_62_method_1_code 38 = .ok (.invokevirtual 14, 3) := by decide +kernel
theorem d8_41 : decode prog_62_method_1_code 41 = .ok (.checkcast 15, 3) := by decide +kernel
theorem d8_44 : decode prog_62_method_1_code 44 = .ok (.putfield 20, 3) := by decide +kernel
theorem d8_47 : decode prog_62_method_1_code 47 = .ok (.aload_n 0, 1) := by decide +kernel
theorem d8_48 : decode prog_62_method_1_code 48 = .ok (.aload_n 2, 1) := by decide +kernel
theorem d8_49 : decode prog_62_method_1_code 49 = .ok (.invokevirtual 14, 3) := by decide +kernel
theorem d8_52 : decode prog_62_method_1_code 52 = .ok (.checkcast 15, 3) := by decide +kernel
theorem d8_55 : decode prog_62_method_1_code 55 = .ok (.putfield 25, 3) := by decide +kernel
theorem d8_58 : decode prog_62_method_1_code 58 = .ok (.return_, 1) := by decide +kernel
theorem pd_8 : parseMethodDescriptor "([I[I)V" = some ⟨[(.array .int), (.array .int)], none⟩ := by decide +kernel
theorem ef_8 (m : MethodId) (p0 : Addr) (p1 : Addr) (p2 : Addr) : entryFrame m #[(.ref p0), (.ref p1), (.ref p2)] 3 = mkF m 0 #[.val (.ref p0), .val (.ref p1), .val (.ref p2)] [] := by first | (simp [entryFrame, mkF, argsToLocals, Value.category]; done) | rfl
set_option maxRecDepth 65536 in
set_option maxHeartbeats 40000000 in
theorem rmGI (l : Launch) (Z : State) (a0 : Array Value) (hw : ∀ d ∈ tables_1, d.before a0 Z = true) (p0 : Addr) (p1 : Addr) (p2 : Addr) (h0 : Heap) (n0 : Nat) (Z0 : n0 ≤ h0.size) (vs ts : List Value) (z1 z2 : Int32) (i : Nat) (hi : vs.length = i + 1) (hz1 : z1.toInt = vs.length) (hz2 : z2.toInt = ts.length) (hl1 : vs.length ≤ 17) (hl2 : ts.length ≤ 17) (hv0 : vs[0]? = some (.int 0)) (hvi : vs[i]? = some (.int z2)) (f1 : Fld Z h0 p0 "com/example/hold/hold/graph/Digraph" "start" "[I" .null) (f2 : Fld Z h0 p0 "com/example/hold/hold/graph/Digraph" "target" "[I" .null) (E0 : Exa Z h0 p0 "com/example/hold/hold/graph/Digraph") (A1 : Ar Z h0 p1 .int vs) (E1 : Exa Z h0 p1 "[I") (A2 : Ar Z h0 p2 .int ts) (E2 : Exa Z h0 p2 "[I") (ga : n0 ≤ p0) (n1 : p1 ≠ p0) (n2 : p2 ≠ p0) :
    Con l Z (⟨"com/example/hold/hold/graph/Digraph", "<init>", "([I[I)V"⟩ : MethodName) prog_62_method_1_code 3 none [] ({ frames := 1, cells := 2, slots := 34, locals := 16 } : Room) 2 34 #[(.ref p0), (.ref p1), (.ref p2)] h0 (fun v h L => v = none ∧ Fr n0 L ∧ n0 ≤ h.size ∧ ∃ s2 t2, Exa Z h p0 "com/example/hold/hold/graph/Digraph" ∧ Fld Z h p0 "com/example/hold/hold/graph/Digraph" "start" "[I" (.ref s2) ∧ Fld Z h p0 "com/example/hold/hold/graph/Digraph" "target" "[I" (.ref t2) ∧ Ar Z h s2 .int vs ∧ Ar Z h t2 .int ts) := by
  refine Con.body (plainFor_of_name (by first | (simp [plainName, overriddenIn]; done) | decide +kernel)) ?_
  intro p e s m below meth c T0 hx hby hml hown hnm hZ hret hlk X0 e0
  refine Goes.cast (ef_8 m p0 p1 p2) ?_
  have N0 := Fr.nil n0
  show Goes p.tables e below (T0.setTop (mkF m 0 #[.val (.ref p0), .val (.ref p1), .val (.ref p2)] [])) _
  refine g_aloadN X0 hx (hb hby d8_0) rfl rfl ?_
  show Goes p.tables e below (T0.setTop (mkF m 1 #[.val (.ref p0), .val (.ref p1), .val (.ref p2)] [(.ref p0)])) _
  refine g_init0 X0 hx hZ hown (by rw [hml]; rfl) e0 (hw _ (List.mem_of_getElem? (i := 51) rfl)) (hw _ (List.mem_of_getElem? (i := 7) rfl)) (hw _ (List.mem_of_getElem? (i := 8) rfl)) (hb hby d8_1) 0 (by decide) (by first | decide | exact Nat.le_refl _) (by first | decide | exact Nat.le_refl _) (fun T1 X1 e1 => ?_)
  show Goes p.tables e below (T1.setTop (mkF m 4 #[.val (.ref p0), .val (.ref p1), .val (.ref p2)] [])) _
  refine g_aloadN X1 hx (hb hby d8_4) rfl rfl ?_
  show Goes p.tables e below (T1.setTop (mkF m 5 #[.val (.ref p0), .val (.ref p1), .val (.ref p2)] [(.ref p1)])) _
  refine g_alen X1 hx hZ e1 A1 z1 hz1 (hb hby d8_5) ?_
  show Goes p.tables e below (T1.setTop (mkF m 6 #[.val (.ref p0), .val (.ref p1), .val (.ref p2)] [(.int z1)])) _
  have c6 : ¬ z1 = 0 := (own_nz (by rw [hz1, hi]))
  refine g_if_eq X1 hx (hb hby d8_6) (by decide) (pc' := 26) (by decide) (fun q => absurd q c6) (fun _ => ?_)
  show Goes p.tables e below (T1.setTop (mkF m 9 #[.val (.ref p0), .val (.ref p1), .val (.ref p2)] [])) _
  refine g_aloadN X1 hx (hb hby d8_9) rfl rfl ?_
  show Goes p.tables e below (T1.setTop (mkF m 10 #[.val (.ref p0), .val (.ref p1), .val (.ref p2)] [(.ref p1)])) _
  refine g_iconst X1 hx (0 : Int32) (hb hby d8_10) rfl ?_
  show Goes p.tables e below (T1.setTop (mkF m 11 #[.val (.ref p0), .val (.ref p1), .val (.ref p2)] [(.int (0 : Int32)), (.ref p1)])) _
  refine g_iaload X1 hx hZ e1 A1 (i := 0) (v := (.int (0 : Int32))) (by decide) hv0 (hb hby d8_11) ?_
  show Goes p.tables e below (T1.setTop (mkF m 12 #[.val (.ref p0), .val (.ref p1), .val (.ref p2)] [(.int (0 : Int32))])) _
  refine g_if_ne X1 hx (hb hby d8_12) (by decide) (pc' := 26) (by decide) (fun q => absurd (by decide) q) (fun _ => ?_)
  show Goes p.tables e below (T1.setTop (mkF m 15 #[.val (.ref p0), .val (.ref p1), .val (.ref p2)] [])) _
  refine g_aloadN X1 hx (hb hby d8_15) rfl rfl ?_
  show Goes p.tables e below (T1.setTop (mkF m 16 #[.val (.ref p0), .val (.ref p1), .val (.ref p2)] [(.ref p1)])) _
  refine g_aloadN X1 hx (hb hby d8_16) rfl rfl ?_
  show Goes p.tables e below (T1.setTop (mkF m 17 #[.val (.ref p0), .val (.ref p1), .val (.ref p2)] [(.ref p1), (.ref p1)])) _
  refine g_alen X1 hx hZ e1 A1 z1 hz1 (hb hby d8_17) ?_
  show Goes p.tables e below (T1.setTop (mkF m 18 #[.val (.ref p0), .val (.ref p1), .val (.ref p2)] [(.int z1), (.ref p1)])) _
  refine g_iconst X1 hx (1 : Int32) (hb hby d8_18) rfl ?_
  show Goes p.tables e below (T1.setTop (mkF m 19 #[.val (.ref p0), .val (.ref p1), .val (.ref p2)] [(.int (1 : Int32)), (.int z1), (.ref p1)])) _
  refine g_isub X1 hx (hb hby d8_19) ?_
  show Goes p.tables e below (T1.setTop (mkF m 20 #[.val (.ref p0), .val (.ref p1), .val (.ref p2)] [(.int (z1 - (1 : Int32))), (.ref p1)])) _
  refine g_iaload X1 hx hZ e1 A1 (i := i) (v := (.int z2)) (own_m1 (by rw [hz1, hi])) hvi (hb hby d8_20) ?_
  show Goes p.tables e below (T1.setTop (mkF m 21 #[.val (.ref p0), .val (.ref p1), .val (.ref p2)] [(.int z2)])) _
  refine g_aloadN X1 hx (hb hby d8_21) rfl rfl ?_
  show Goes p.tables e below (T1.setTop (mkF m 22 #[.val (.ref p0), .val (.ref p1), .val (.ref p2)] [(.ref p2), (.int z2)])) _
  refine g_alen X1 hx hZ e1 A2 z2 hz2 (hb hby d8_22) ?_
  show Goes p.tables e below (T1.setTop (mkF m 23 #[.val (.ref p0), .val (.ref p1), .val (.ref p2)] [(.int z2), (.int z2)])) _
  have c23 : z2 = z2 := rfl
  refine g_icmp_eq X1 hx (hb hby d8_23) (by decide) (pc' := 36) (by decide) (fun _ => ?_) (fun q => absurd c23 q)
  show Goes p.tables e below (T1.setTop (mkF m 36 #[.val (.ref p0), .val (.ref p1), .val (.ref p2)] [])) _
  refine g_aloadN X1 hx (hb hby d8_36) rfl rfl ?_
  show Goes p.tables e below (T1.setTop (mkF m 37 #[.val (.ref p0), .val (.ref p1), .val (.ref p2)] [(.ref p0)])) _
  refine g_aloadN X1 hx (hb hby d8_37) rfl rfl ?_
  show Goes p.tables e below (T1.setTop (mkF m 38 #[.val (.ref p0), .val (.ref p1), .val (.ref p2)] [(.ref p1), (.ref p0)])) _
  refine g_clone X1 hx hZ hown (by rw [hml]; rfl) e1 (hw _ (List.mem_of_getElem? (i := 52) rfl)) (hw _ (List.mem_of_getElem? (i := 53) rfl)) (hw _ (List.mem_of_getElem? (i := 57) rfl)) (hw _ (List.mem_of_getElem? (i := 55) rfl)) (hw _ (List.mem_of_getElem? (i := 56) rfl)) (hw _ (List.mem_of_getElem? (i := 58) rfl)) A1 E1 (hb hby d8_38) 1 17 (by first | decide | exact Nat.le_refl _) (by first | decide | exact Nat.le_refl _) (by first | decide | exact Nat.le_refl _) hl1 (by decide) (by decide) (fun T2 h2 a2 ga2 X2 e2 Ex2 Aa2 Ea2 => ?_)
  have ne3 : p0 ≠ a2 := Nat.ne_of_lt (by rw [ga2]; exact f1.lt)
  have ne4 : p1 ≠ a2 := Nat.ne_of_lt (by rw [ga2]; exact A1.lt)
  have ne5 : p2 ≠ a2 := Nat.ne_of_lt (by rw [ga2]; exact A2.lt)
  have ge6 : n0 ≤ a2 := by rw [ga2]; exact Z0
  have fx7 : Fld Z h2 p0 "com/example/hold/hold/graph/Digraph" "start" "[I" .null := Fld.ext Ex2 f1
  have fx8 : Fld Z h2 p0 "com/example/hold/hold/graph/Digraph" "target" "[I" .null := Fld.ext Ex2 f2
  have fx9 : Exa Z h2 p0 "com/example/hold/hold/graph/Digraph" := Exa.ext Ex2 E0
  have fx10 : Ar Z h2 p1 .int vs := Ar.ext A1 Ex2
  have fx11 : Exa Z h2 p1 "[I" := Exa.ext Ex2 E1
  have fx12 : Ar Z h2 p2 .int ts := Ar.ext A2 Ex2
  have fx13 : Exa Z h2 p2 "[I" := Exa.ext Ex2 E2
  have Z14 : n0 ≤ h2.size := Nat.le_trans Z0 Ex2.1
  show Goes p.tables e below (T2.setTop (mkF m 41 #[.val (.ref p0), .val (.ref p1), .val (.ref p2)] [(.ref a2), (.ref p0)])) _
  refine g_cast X2 hx hZ hown e2 (hw _ (List.mem_of_getElem? (i := 59) rfl)) (Ins.self Ea2) (hb hby d8_41) (fun T15 X15 e15 => ?_)
  show Goes p.tables e below (T15.setTop (mkF m 44 #[.val (.ref p0), .val (.ref p1), .val (.ref p2)] [(.ref a2), (.ref p0)])) _
  refine g_putF X15 hx hZ hown e15 (hw _ (List.mem_of_getElem? (i := 61) rfl)) Via.refl (v' := (.ref a2)) fx7 fx9 (Or.inr ⟨(hw _ (List.mem_of_getElem? (i := 62) rfl)), rfl, hnm⟩) (hw _ (List.mem_of_getElem? (i := 34) rfl)) (ty := (.array .int)) (by decide) rfl rfl (hb hby d8_44) (fun T16 h16 X16 e16 W16 => ?_)
  have fx17 : Fld Z h16 p0 "com/example/hold/hold/graph/Digraph" "target" "[I" .null := Fld.other W16 fx8 (Or.inr (slot_ne (t := (.array .int)) (t' := (.array .int)) (Or.inr (hw _ (List.mem_of_getElem? (i := 64) rfl))) (Or.inr (hw _ (List.mem_of_getElem? (i := 62) rfl))) (by decide) (by decide) (by decide)))
  have fx18 : Exa Z h16 p0 "com/example/hold/hold/graph/Digraph" := Exa.wr W16 fx9
  have fx19 : Ar Z h16 p1 .int vs := Ar.other fx10 W16 n1
  have fx20 : Exa Z h16 p1 "[I" := Exa.wr W16 fx11
  have fx21 : Ar Z h16 p2 .int ts := Ar.other fx12 W16 n2
  have fx22 : Exa Z h16 p2 "[I" := Exa.wr W16 fx13
  have fx23 : Ar Z h16 a2 .int vs := Ar.other Aa2 W16 (Ne.symm ne3)
  have fx24 : Exa Z h16 a2 "[I" := Exa.wr W16 Ea2
  have fx25 : Fld Z h16 p0 "com/example/hold/hold/graph/Digraph" "start" "[I" (.ref a2) := Fld.same W16 fx7
  have N26 := Fr.snoc X16 N0 ga
  have Z27 : n0 ≤ h16.size := by rw [W16.size]; exact Z14
  show Goes p.tables e below (T16.setTop (mkF m 47 #[.val (.ref p0), .val (.ref p1), .val (.ref p2)] [])) _
  refine g_aloadN X16 hx (hb hby d8_47) rfl rfl ?_
  show Goes p.tables e below (T16.setTop (mkF m 48 #[.val (.ref p0), .val (.ref p1), .val (.ref p2)] [(.ref p0)])) _
  refine g_aloadN X16 hx (hb hby d8_48) rfl rfl ?_
  show Goes p.tables e below (T16.setTop (mkF m 49 #[.val (.ref p0), .val (.ref p1), .val (.ref p2)] [(.ref p2), (.ref p0)])) _
  refine g_clone X16 hx hZ hown (by rw [hml]; rfl) e16 (hw _ (List.mem_of_getElem? (i := 52) rfl)) (hw _ (List.mem_of_getElem? (i := 53) rfl)) (hw _ (List.mem_of_getElem? (i := 57) rfl)) (hw _ (List.mem_of_getElem? (i := 55) rfl)) (hw _ (List.mem_of_getElem? (i := 56) rfl)) (hw _ (List.mem_of_getElem? (i := 58) rfl)) fx21 fx22 (hb hby d8_49) 1 17 (by first | decide | exact Nat.le_refl _) (by first | decide | exact Nat.le_refl _) (by first | decide | exact Nat.le_refl _) hl2 (by decide) (by decide) (fun T28 h28 a28 ga28 X28 e28 Ex28 Aa28 Ea28 => ?_)
  have ne29 : p0 ≠ a28 := Nat.ne_of_lt (by rw [ga28]; exact fx17.lt)
  have ne30 : p1 ≠ a28 := Nat.ne_of_lt (by rw [ga28]; exact fx19.lt)
  have ne31 : p2 ≠ a28 := Nat.ne_of_lt (by rw [ga28]; exact fx21.lt)
  have ne32 : a2 ≠ a28 := Nat.ne_of_lt (by rw [ga28]; exact fx23.lt)
  have ge33 : n0 ≤ a28 := by rw [ga28]; exact Z27
  have fx34 : Fld Z h28 p0 "com/example/hold/hold/graph/Digraph" "target" "[I" .null := Fld.ext Ex28 fx17
  have fx35 : Exa Z h28 p0 "com/example/hold/hold/graph/Digraph" := Exa.ext Ex28 fx18
  have fx36 : Ar Z h28 p1 .int vs := Ar.ext fx19 Ex28
  have fx37 : Exa Z h28 p1 "[I" := Exa.ext Ex28 fx20
  have fx38 : Ar Z h28 p2 .int ts := Ar.ext fx21 Ex28
  have fx39 : Exa Z h28 p2 "[I" := Exa.ext Ex28 fx22
  have fx40 : Ar Z h28 a2 .int vs := Ar.ext fx23 Ex28
  have fx41 : Exa Z h28 a2 "[I" := Exa.ext Ex28 fx24
  have fx42 : Fld Z h28 p0 "com/example/hold/hold/graph/Digraph" "start" "[I" (.ref a2) := Fld.ext Ex28 fx25
  have Z43 : n0 ≤ h28.size := Nat.le_trans Z27 Ex28.1
  show Goes p.tables e below (T28.setTop (mkF m 52 #[.val (.ref p0), .val (.ref p1), .val (.ref p2)] [(.ref a28), (.ref p0)])) _
  refine g_cast X28 hx hZ hown e28 (hw _ (List.mem_of_getElem? (i := 59) rfl)) (Ins.self Ea28) (hb hby d8_52) (fun T44 X44 e44 => ?_)
  show Goes p.tables e below (T44.setTop (mkF m 55 #[.val (.ref p0), .val (.ref p1), .val (.ref p2)] [(.ref a28), (.ref p0)])) _
  refine g_putF X44 hx hZ hown e44 (hw _ (List.mem_of_getElem? (i := 63) rfl)) Via.refl (v' := (.ref a28)) fx34 fx35 (Or.inr ⟨(hw _ (List.mem_of_getElem? (i := 64) rfl)), rfl, hnm⟩) (hw _ (List.mem_of_getElem? (i := 34) rfl)) (ty := (.array .int)) (by decide) rfl rfl (hb hby d8_55) (fun T45 h45 X45 e45 W45 => ?_)
  have fx46 : Exa Z h45 p0 "com/example/hold/hold/graph/Digraph" := Exa.wr W45 fx35
  have fx47 : Ar Z h45 p1 .int vs := Ar.other fx36 W45 n1
  have fx48 : Exa Z h45 p1 "[I" := Exa.wr W45 fx37
  have fx49 : Ar Z h45 p2 .int ts := Ar.other fx38 W45 n2
  have fx50 : Exa Z h45 p2 "[I" := Exa.wr W45 fx39
  have fx51 : Ar Z h45 a2 .int vs := Ar.other fx40 W45 (Ne.symm ne3)
  have fx52 : Exa Z h45 a2 "[I" := Exa.wr W45 fx41
  have fx53 : Fld Z h45 p0 "com/example/hold/hold/graph/Digraph" "start" "[I" (.ref a2) := Fld.other W45 fx42 (Or.inr (slot_ne (t := (.array .int)) (t' := (.array .int)) (Or.inr (hw _ (List.mem_of_getElem? (i := 62) rfl))) (Or.inr (hw _ (List.mem_of_getElem? (i := 64) rfl))) (by decide) (by decide) (by decide)))
  have fx54 : Ar Z h45 a28 .int ts := Ar.other Aa28 W45 (Ne.symm ne29)
  have fx55 : Exa Z h45 a28 "[I" := Exa.wr W45 Ea28
  have fx56 : Fld Z h45 p0 "com/example/hold/hold/graph/Digraph" "target" "[I" (.ref a28) := Fld.same W45 fx34
  have N57 := Fr.snoc X45 N26 ga
  have Z58 : n0 ≤ h45.size := by rw [W45.size]; exact Z43
  show Goes p.tables e below (T45.setTop (mkF m 58 #[.val (.ref p0), .val (.ref p1), .val (.ref p2)] [])) _
  exact g_ret0 X45 hx hret hlk (hb hby d8_58) (by decide) (by decide) (by rw [e45]; exact ⟨rfl, N57, Z58, a2, a28, fx46, fx53, fx56, fx51, fx54⟩)
theorem d5_0 : decode prog_63_method_4_code 0 = .ok (.new 29, 3) := by decide +kernel
theorem d5_3 : decode prog_63_method_4_code 3 = .ok (.dup, 1) := by decide +kernel
theorem d5_4 : decode prog_63_method_4_code 4 = .ok (.aload_n 0, 1) := by decide +kernel
theorem d5_5 : decode prog_63_method_4_code 5 = .ok (.getfield 7, 3) := by decide +kernel
theorem d5_8 : decode prog_63_method_4_code 8 = .ok (.aload_n 0, 1) := by decide +kernel
theorem d5_9 : decode prog_63_method_4_code 9 = .ok (.getfield 26, 3) := by decide +kernel
theorem d5_12 : decode prog_63_method_4_code 12 = .ok (.iconst 1, 1) := by decide +kernel
theorem d5_13 : decode prog_63_method_4_code 13 = .ok (.iadd, 1) := by decide +kernel
theorem d5_14 : decode prog_63_method_4_code 14 = .ok (.invokestatic 20, 3) := by decide +kernel
theorem d5_17 : decode prog_63_method_4_code 17 = .ok (.aload_n 0, 1) := by decide +kernel
theorem d5_18 : decode prog_63_method_4_code 18 = .ok (.getfield 13, 3) := by decide +kernel
theorem d5_21 : decode prog_63_method_4_code 21 = .ok (.aload_n 0, 1) := by decide +kernel
theorem d5_22 : decode prog_63_method_4_code 22 = .ok (.getfield 16, 3) := by decide +kernel
theorem d5_25 : decode prog_63_method_4_code 25 = .ok (.invokestatic 20, 3) := by decide +kernel
theorem d5_28 : decode prog_63_method_4_code 28 = .ok (.invokespecial 31, 3) := by decide +kernel
theorem d5_31 : decode prog_63_method_4_code 31 = .ok (.areturn, 1) := by decide +kernel
theorem pd_5 : parseMethodDescriptor "()Lcom/example/hold/hold/graph/Digraph;" = some ⟨[], some (.object "com/example/hold/hold/graph/Digraph")⟩ := by decide +kernel
theorem ef_5 (m : MethodId) (p0 : Addr) : entryFrame m #[(.ref p0)] 1 = mkF m 0 #[.val (.ref p0)] [] := by first | (simp [entryFrame, mkF, argsToLocals, Value.category]; done) | rfl
set_option maxRecDepth 65536 in
set_option maxHeartbeats 40000000 in
theorem rmBu (l : Launch) (Z : State) (a0 : Array Value) (hw : ∀ d ∈ tables_1, d.before a0 Z = true) (p0 : Addr) (h0 : Heap) (n0 : Nat) (Z0 : n0 ≤ h0.size) (sa ta : Addr) (vs : List Value) (vc ec : Int32) (hB : Bd Z h0 p0 sa ta vs vc ec) (ga : n0 ≤ p0) (gs : n0 ≤ sa) (gt : n0 ≤ ta) (ns : sa ≠ p0) (nt : ta ≠ p0) (nst : sa ≠ ta) (k j : Nat) (hk1 : vc.toInt = k) (hk2 : k < 16) (hj1 : ec.toInt = j) (hj2 : j < 16) (hvs : vs.length = 17) (hv0 : vs[0]? = some (.int 0)) (hvk : vs[k]? = some (.int ec)) :
    Con l Z (⟨"com/example/hold/hold/graph/Digraph$Builder", "build", "()Lcom/example/hold/hold/graph/Digraph;"⟩ : MethodName) prog_63_method_4_code 1 (some (.object "com/example/hold/hold/graph/Digraph")) [] ({ frames := 2, cells := 5, slots := 70, locals := 60 } : Room) 5 70 #[(.ref p0)] h0 (fun v h L => ∃ g, v = some (.ref g) ∧ Fr n0 L ∧ n0 ≤ h.size ∧ ∃ s2 t2 tt, Exa Z h g "com/example/hold/hold/graph/Digraph" ∧ Fld Z h g "com/example/hold/hold/graph/Digraph" "start" "[I" (.ref s2) ∧ Fld Z h g "com/example/hold/hold/graph/Digraph" "target" "[I" (.ref t2) ∧ Ar Z h s2 .int (vs.take (k + 1)) ∧ tt.length = j ∧ Ar Z h t2 .int tt) := by
  refine Con.body (plainFor_of_name (by first | (simp [plainName, overriddenIn]; done) | decide +kernel)) ?_
  intro p e s m below meth c T0 hx hby hml hown hnm hZ hret hlk X0 e0
  refine Goes.cast (ef_5 m p0) ?_
  obtain ⟨E0, f1, f2, f3, f4, A1, ts, hts, A2⟩ := hB
  have N0 := Fr.nil n0
  show Goes p.tables e below (T0.setTop (mkF m 0 #[.val (.ref p0)] [])) _
  refine g_new X0 hx hZ hown e0 (hw _ (List.mem_of_getElem? (i := 33) rfl)) (hw _ (List.mem_of_getElem? (i := 34) rfl)) (hw _ (List.mem_of_getElem? (i := 35) rfl)) (hb hby d5_0) (by decide) (by decide) (fun T1 h1 a1 ga1 X1 e1 Ex1 Ea1 Df1 => ?_)
  have ne2 : p0 ≠ a1 := Nat.ne_of_lt (by rw [ga1]; exact f1.lt)
  have ne3 : sa ≠ a1 := Nat.ne_of_lt (by rw [ga1]; exact A1.lt)
  have ne4 : ta ≠ a1 := Nat.ne_of_lt (by rw [ga1]; exact A2.lt)
  have ge5 : n0 ≤ a1 := by rw [ga1]; exact Z0
  have fx6 : Fld Z h1 p0 "com/example/hold/hold/graph/Digraph$Builder" "start" "[I" (.ref sa) := Fld.ext Ex1 f1
  have fx7 : Fld Z h1 p0 "com/example/hold/hold/graph/Digraph$Builder" "target" "[I" (.ref ta) := Fld.ext Ex1 f2
  have fx8 : Fld Z h1 p0 "com/example/hold/hold/graph/Digraph$Builder" "vertexCount" "I" (.int vc) := Fld.ext Ex1 f3
  have fx9 : Fld Z h1 p0 "com/example/hold/hold/graph/Digraph$Builder" "edgeCount" "I" (.int ec) := Fld.ext Ex1 f4
  have fx10 : Exa Z h1 p0 "com/example/hold/hold/graph/Digraph$Builder" := Exa.ext Ex1 E0
  have fx11 : Ar Z h1 sa .int vs := Ar.ext A1 Ex1
  have fx12 : Ar Z h1 ta .int ts := Ar.ext A2 Ex1
  have Z13 : n0 ≤ h1.size := Nat.le_trans Z0 Ex1.1
  have fx14 : Fld Z h1 a1 "com/example/hold/hold/graph/Digraph" "start" "[I" .null := Df1 (Or.inr (hw _ (List.mem_of_getElem? (i := 62) rfl))) (ty := (.array .int)) (by decide)
  have fx15 : Fld Z h1 a1 "com/example/hold/hold/graph/Digraph" "target" "[I" .null := Df1 (Or.inr (hw _ (List.mem_of_getElem? (i := 64) rfl))) (ty := (.array .int)) (by decide)
  show Goes p.tables e below (T1.setTop (mkF m 3 #[.val (.ref p0)] [(.ref a1)])) _
  refine g_dup X1 hx (hb hby d5_3) rfl ?_
  show Goes p.tables e below (T1.setTop (mkF m 4 #[.val (.ref p0)] [(.ref a1), (.ref a1)])) _
  refine g_aloadN X1 hx (hb hby d5_4) rfl rfl ?_
  show Goes p.tables e below (T1.setTop (mkF m 5 #[.val (.ref p0)] [(.ref p0), (.ref a1), (.ref a1)])) _
  refine g_getF X1 hx hZ hown e1 (host := "") (Or.inl (hw _ (List.mem_of_getElem? (i := 10) rfl))) Via.refl fx6 (hb hby d5_5) (fun T16 X16 e16 => ?_)
  show Goes p.tables e below (T16.setTop (mkF m 8 #[.val (.ref p0)] [(.ref sa), (.ref a1), (.ref a1)])) _
  refine g_aloadN X16 hx (hb hby d5_8) rfl rfl ?_
  show Goes p.tables e below (T16.setTop (mkF m 9 #[.val (.ref p0)] [(.ref p0), (.ref sa), (.ref a1), (.ref a1)])) _
  refine g_getF X16 hx hZ hown e16 (host := "") (Or.inl (hw _ (List.mem_of_getElem? (i := 26) rfl))) Via.refl fx8 (hb hby d5_9) (fun T17 X17 e17 => ?_)
  show Goes p.tables e below (T17.setTop (mkF m 12 #[.val (.ref p0)] [(.int vc), (.ref sa), (.ref a1), (.ref a1)])) _
  refine g_iconst X17 hx (1 : Int32) (hb hby d5_12) rfl ?_
  show Goes p.tables e below (T17.setTop (mkF m 13 #[.val (.ref p0)] [(.int (1 : Int32)), (.int vc), (.ref sa), (.ref a1), (.ref a1)])) _
  refine g_iadd X17 hx (hb hby d5_13) ?_
  show Goes p.tables e below (T17.setTop (mkF m 14 #[.val (.ref p0)] [(.int (vc + (1 : Int32))), (.ref sa), (.ref a1), (.ref a1)])) _
  have lt17_0 := fx10.lt
  have lt17_1 := Ea1.lt
  refine g_callS X17 hx hZ hown (by rw [hml]; rfl) e17 (hw _ (List.mem_of_getElem? (i := 36) rfl)) (hw _ (List.mem_of_getElem? (i := 37) rfl)) (hw _ (List.mem_of_getElem? (i := 38) rfl)) (hw _ (List.mem_of_getElem? (i := 39) rfl)) (rmCo l Z a0 hw sa (vc + (1 : Int32)) h1 n0 Z13 vs (k + 1) (own_p1 hk1 (by omega)) (by omega) (by omega) fx11) [(.ref sa), (.int (vc + (1 : Int32)))] rfl [(.ref a1), (.ref a1)] rfl (lenOf pd_6 rfl) (hb hby d5_14) (by decide) 2 (by decide) (by decide) (by first | decide | exact Nat.le_refl _) (by decide) (by decide) (fun v T18 L18 X18 hQ18 => ?_)
  obtain ⟨b18, rfl, gb18, hb18, Nc18, Kc18, Ab18, Eb18⟩ := hQ18
  have fx19 : Fld Z T18.heap p0 "com/example/hold/hold/graph/Digraph$Builder" "start" "[I" (.ref sa) := Fld.keep fx6 Kc18 nin0
  have fx20 : Fld Z T18.heap p0 "com/example/hold/hold/graph/Digraph$Builder" "target" "[I" (.ref ta) := Fld.keep fx7 Kc18 nin0
  have fx21 : Fld Z T18.heap p0 "com/example/hold/hold/graph/Digraph$Builder" "vertexCount" "I" (.int vc) := Fld.keep fx8 Kc18 nin0
  have fx22 : Fld Z T18.heap p0 "com/example/hold/hold/graph/Digraph$Builder" "edgeCount" "I" (.int ec) := Fld.keep fx9 Kc18 nin0
  have fx23 : Exa Z T18.heap p0 "com/example/hold/hold/graph/Digraph$Builder" := Exa.keep fx10 Kc18
  have fx24 : Ar Z T18.heap sa .int vs := Ar.keep fx11 Kc18 nin0
  have fx25 : Ar Z T18.heap ta .int ts := Ar.keep fx12 Kc18 nin0
  have fx26 : Exa Z T18.heap a1 "com/example/hold/hold/graph/Digraph" := Exa.keep Ea1 Kc18
  have fx27 : Fld Z T18.heap a1 "com/example/hold/hold/graph/Digraph" "start" "[I" .null := Fld.keep fx14 Kc18 nin0
  have fx28 : Fld Z T18.heap a1 "com/example/hold/hold/graph/Digraph" "target" "[I" .null := Fld.keep fx15 Kc18 nin0
  have N29 := Fr.app N0 Nc18
  have Z30 : n0 ≤ T18.heap.size := Nat.le_trans Z13 Kc18.1
  have ne31 : p0 ≠ b18 := Nat.ne_of_lt (Nat.lt_of_lt_of_le lt17_0 hb18)
  have ne32 : a1 ≠ b18 := Nat.ne_of_lt (Nat.lt_of_lt_of_le lt17_1 hb18)
  show Goes p.tables e below (T18.setTop (mkF m 17 #[.val (.ref p0)] [(.ref b18), (.ref a1), (.ref a1)])) _
  refine g_aloadN X18 hx (hb hby d5_17) rfl rfl ?_
  show Goes p.tables e below (T18.setTop (mkF m 18 #[.val (.ref p0)] [(.ref p0), (.ref b18), (.ref a1), (.ref a1)])) _
  refine g_getF X18 hx hZ hown rfl (host := "") (Or.inl (hw _ (List.mem_of_getElem? (i := 12) rfl))) Via.refl fx20 (hb hby d5_18) (fun T33 X33 e33 => ?_)
  show Goes p.tables e below (T33.setTop (mkF m 21 #[.val (.ref p0)] [(.ref ta), (.ref b18), (.ref a1), (.ref a1)])) _
  refine g_aloadN X33 hx (hb hby d5_21) rfl rfl ?_
  show Goes p.tables e below (T33.setTop (mkF m 22 #[.val (.ref p0)] [(.ref p0), (.ref ta), (.ref b18), (.ref a1), (.ref a1)])) _
  refine g_getF X33 hx hZ hown e33 (host := "") (Or.inl (hw _ (List.mem_of_getElem? (i := 19) rfl))) Via.refl fx22 (hb hby d5_22) (fun T34 X34 e34 => ?_)
  show Goes p.tables e below (T34.setTop (mkF m 25 #[.val (.ref p0)] [(.int ec), (.ref ta), (.ref b18), (.ref a1), (.ref a1)])) _
  have lt34_0 := fx23.lt
  have lt34_1 := fx26.lt
  have lt34_2 := Eb18.lt
  refine g_callS X34 hx hZ hown (by rw [hml]; rfl) e34 (hw _ (List.mem_of_getElem? (i := 36) rfl)) (hw _ (List.mem_of_getElem? (i := 37) rfl)) (hw _ (List.mem_of_getElem? (i := 38) rfl)) (hw _ (List.mem_of_getElem? (i := 39) rfl)) (rmCo l Z a0 hw ta ec T18.heap n0 Z30 ts j hj1 (by omega) (by omega) fx25) [(.ref ta), (.int ec)] rfl [(.ref b18), (.ref a1), (.ref a1)] rfl (lenOf pd_6 rfl) (hb hby d5_25) (by decide) 3 (by decide) (by decide) (by first | decide | exact Nat.le_refl _) (by decide) (by decide) (fun v T35 L35 X35 hQ35 => ?_)
  obtain ⟨b35, rfl, gb35, hb35, Nc35, Kc35, Ab35, Eb35⟩ := hQ35
  have fx36 : Fld Z T35.heap p0 "com/example/hold/hold/graph/Digraph$Builder" "start" "[I" (.ref sa) := Fld.keep fx19 Kc35 nin0
  have fx37 : Fld Z T35.heap p0 "com/example/hold/hold/graph/Digraph$Builder" "target" "[I" (.ref ta) := Fld.keep fx20 Kc35 nin0
  have fx38 : Fld Z T35.heap p0 "com/example/hold/hold/graph/Digraph$Builder" "vertexCount" "I" (.int vc) := Fld.keep fx21 Kc35 nin0
  have fx39 : Fld Z T35.heap p0 "com/example/hold/hold/graph/Digraph$Builder" "edgeCount" "I" (.int ec) := Fld.keep fx22 Kc35 nin0
  have fx40 : Exa Z T35.heap p0 "com/example/hold/hold/graph/Digraph$Builder" := Exa.keep fx23 Kc35
  have fx41 : Ar Z T35.heap sa .int vs := Ar.keep fx24 Kc35 nin0
  have fx42 : Ar Z T35.heap ta .int ts := Ar.keep fx25 Kc35 nin0
  have fx43 : Exa Z T35.heap a1 "com/example/hold/hold/graph/Digraph" := Exa.keep fx26 Kc35
  have fx44 : Fld Z T35.heap a1 "com/example/hold/hold/graph/Digraph" "start" "[I" .null := Fld.keep fx27 Kc35 nin0
  have fx45 : Fld Z T35.heap a1 "com/example/hold/hold/graph/Digraph" "target" "[I" .null := Fld.keep fx28 Kc35 nin0
  have fx46 : Ar Z T35.heap b18 .int (vs.take (k + 1)) := Ar.keep Ab18 Kc35 nin0
  have fx47 : Exa Z T35.heap b18 "[I" := Exa.keep Eb18 Kc35
  have N48 := Fr.app N29 Nc35
  have Z49 : n0 ≤ T35.heap.size := Nat.le_trans Z30 Kc35.1
  have ne50 : p0 ≠ b35 := Nat.ne_of_lt (Nat.lt_of_lt_of_le lt34_0 hb35)
  have ne51 : a1 ≠ b35 := Nat.ne_of_lt (Nat.lt_of_lt_of_le lt34_1 hb35)
  have ne52 : b18 ≠ b35 := Nat.ne_of_lt (Nat.lt_of_lt_of_le lt34_2 hb35)
  show Goes p.tables e below (T35.setTop (mkF m 28 #[.val (.ref p0)] [(.ref b35), (.ref b18), (.ref a1), (.ref a1)])) _
  refine g_callI X35 hx hZ hown (by rw [hml]; rfl) rfl rfl (hw _ (List.mem_of_getElem? (i := 48) rfl)) (hw _ (List.mem_of_getElem? (i := 49) rfl)) (hw _ (List.mem_of_getElem? (i := 35) rfl)) (hw _ (List.mem_of_getElem? (i := 50) rfl)) (rmGI l Z a0 hw a1 b18 b35 T35.heap n0 Z49 (vs.take (k + 1)) (ts.take j) (Int32.ofNat (k + 1)) ec k (by rw [List.length_take]; omega) (by rw [List.length_take, own_of (by omega)]; omega) (by rw [List.length_take, hj1]; omega) (by rw [List.length_take]; omega) (by rw [List.length_take]; omega) (by rw [List.getElem?_take_of_lt (by omega)]; exact hv0) (by rw [List.getElem?_take_of_lt (by omega)]; exact hvk) fx44 fx45 fx43 fx46 fx47 Ab35 Eb35 ge5 (Ne.symm ne32) (Ne.symm ne51)) a1 [(.ref b18), (.ref b35)] rfl [(.ref a1)] rfl (lenOf pd_8 rfl) (hb hby d5_28) (by decide) 1 (by decide) (by decide) (by first | decide | exact Nat.le_refl _) (by decide) (by decide) (fun v T53 L53 X53 hQ53 => ?_)
  obtain ⟨rfl, Nc53, Zg, s2, t2, Eg, fg1, fg2, Ag1, Ag2⟩ := hQ53
  have N54 := Fr.app N48 Nc53
  show Goes p.tables e below (T53.setTop (mkF m 31 #[.val (.ref p0)] [(.ref a1)])) _
  exact g_retA X53 hx hret hlk rfl rfl (hb hby d5_31) (by decide) (by decide) ⟨a1, rfl, N54, Zg, s2, t2, _, Eg, fg1, fg2, Ag1, (by rw [List.length_take]; omega), Ag2⟩
theorem d9_0 : decode prog_62_method_2_code 0 = .ok (.aload_n 0, 1) := by decide +kernel
theorem d9_1 : decode prog_62_method_2_code 1 = .ok (.getfield 20, 3) := by decide +kernel
theorem d9_4 : decode prog_62_method_2_code 4 = .ok (.arraylength, 1) := by decide +kernel
theorem d9_5 : decode prog_62_method_2_code 5 = .ok (.iconst 1, 1) := by decide +kernel
theorem d9_6 : decode prog_62_method_2_code 6 = .ok (.isub, 1) := by decide +kernel
theorem d9_7 : decode prog_62_method_2_code 7 = .ok (.ireturn, 1) := by decide +kernel
theorem pd_9 : parseMethodDescriptor "()I" = some ⟨[], some .int⟩ := by decide +kernel
theorem ef_9 (m : MethodId) (p0 : Addr) : entryFrame m #[(.ref p0)] 1 = mkF m 0 #[.val (.ref p0)] [] := by first | (simp [entryFrame, mkF, argsToLocals, Value.category]; done) | rfl
set_option maxRecDepth 65536 in
set_option maxHeartbeats 40000000 in
theorem rmVC (l : Launch) (Z : State) (a0 : Array Value) (hw : ∀ d ∈ tables_1, d.before a0 Z = true) (p0 : Addr) (h0 : Heap) (n0 : Nat) (Z0 : n0 ≤ h0.size) (s2 : Addr) (vs : List Value) (z : Int32) (hz : z.toInt = vs.length) (f1 : Fld Z h0 p0 "com/example/hold/hold/graph/Digraph" "start" "[I" (.ref s2)) (A1 : Ar Z h0 s2 .int vs) :
    Con l Z (⟨"com/example/hold/hold/graph/Digraph", "vertexCount", "()I"⟩ : MethodName) prog_62_method_2_code 1 (some .int) [] ({ frames := 0, cells := 0, slots := 0, locals := 0 } : Room) 0 0 #[(.ref p0)] h0 (fun v h L => v = some (.int (z - 1)) ∧ h = h0 ∧ L = []) := by
  refine Con.body (plainFor_of_name (by first | (simp [plainName, overriddenIn]; done) | decide +kernel)) ?_
  intro p e s m below meth c T0 hx hby hml hown hnm hZ hret hlk X0 e0
  refine Goes.cast (ef_9 m p0) ?_
  have N0 := Fr.nil n0
  show Goes p.tables e below (T0.setTop (mkF m 0 #[.val (.ref p0)] [])) _
  refine g_aloadN X0 hx (hb hby d9_0) rfl rfl ?_
  show Goes p.tables e below (T0.setTop (mkF m 1 #[.val (.ref p0)] [(.ref p0)])) _
  refine g_getF X0 hx hZ hown e0 (host := "") (Or.inl (hw _ (List.mem_of_getElem? (i := 61) rfl))) Via.refl f1 (hb hby d9_1) (fun T1 X1 e1 => ?_)
  show Goes p.tables e below (T1.setTop (mkF m 4 #[.val (.ref p0)] [(.ref s2)])) _
  refine g_alen X1 hx hZ e1 A1 z hz (hb hby d9_4) ?_
  show Goes p.tables e below (T1.setTop (mkF m 5 #[.val (.ref p0)] [(.int z)])) _
  refine g_iconst X1 hx (1 : Int32) (hb hby d9_5) rfl ?_
  show Goes p.tables e below (T1.setTop (mkF m 6 #[.val (.ref p0)] [(.int (1 : Int32)), (.int z)])) _
  refine g_isub X1 hx (hb hby d9_6) ?_
  show Goes p.tables e below (T1.setTop (mkF m 7 #[.val (.ref p0)] [(.int (z - (1 : Int32)))])) _
  exact g_retI X1 hx hret hlk (hb hby d9_7) (by decide) (by decide) ⟨rfl, e1, rfl⟩
theorem d10_0 : decode prog_62_method_3_code 0 = .ok (.aload_n 0, 1) := by decide +kernel
theorem d10_1 : decode prog_62_method_3_code 1 = .ok (.getfield 25, 3) := by decide +kernel
theorem d10_4 : decode prog_62_method_3_code 4 = .ok (.arraylength, 1) := by decide +kernel
theorem d10_5 : decode prog_62_method_3_code 5 = .ok (.ireturn, 1) := by decide +kernel
theorem pd_10 : parseMethodDescriptor "()I" = some ⟨[], some .int⟩ := by decide +kernel
theorem ef_10 (m : MethodId) (p0 : Addr) : entryFrame m #[(.ref p0)] 1 = mkF m 0 #[.val (.ref p0)] [] := by first | (simp [entryFrame, mkF, argsToLocals, Value.category]; done) | rfl
set_option maxRecDepth 65536 in
set_option maxHeartbeats 40000000 in
theorem rmEC (l : Launch) (Z : State) (a0 : Array Value) (hw : ∀ d ∈ tables_1, d.before a0 Z = true) (p0 : Addr) (h0 : Heap) (n0 : Nat) (Z0 : n0 ≤ h0.size) (s2 : Addr) (vs : List Value) (z : Int32) (hz : z.toInt = vs.length) (f1 : Fld Z h0 p0 "com/example/hold/hold/graph/Digraph" "target" "[I" (.ref s2)) (A1 : Ar Z h0 s2 .int vs) :
    Con l Z (⟨"com/example/hold/hold/graph/Digraph", "edgeCount", "()I"⟩ : MethodName) prog_62_method_3_code 1 (some .int) [] ({ frames := 0, cells := 0, slots := 0, locals := 0 } : Room) 0 0 #[(.ref p0)] h0 (fun v h L => v = some (.int z) ∧ h = h0 ∧ L = []) := by
  refine Con.body (plainFor_of_name (by first | (simp [plainName, overriddenIn]; done) | decide +kernel)) ?_
  intro p e s m below meth c T0 hx hby hml hown hnm hZ hret hlk X0 e0
  refine Goes.cast (ef_10 m p0) ?_
  have N0 := Fr.nil n0
  show Goes p.tables e below (T0.setTop (mkF m 0 #[.val (.ref p0)] [])) _
  refine g_aloadN X0 hx (hb hby d10_0) rfl rfl ?_
  show Goes p.tables e below (T0.setTop (mkF m 1 #[.val (.ref p0)] [(.ref p0)])) _
  refine g_getF X0 hx hZ hown e0 (host := "") (Or.inl (hw _ (List.mem_of_getElem? (i := 63) rfl))) Via.refl f1 (hb hby d10_1) (fun T1 X1 e1 => ?_)
  show Goes p.tables e below (T1.setTop (mkF m 4 #[.val (.ref p0)] [(.ref s2)])) _
  refine g_alen X1 hx hZ e1 A1 z hz (hb hby d10_4) ?_
  show Goes p.tables e below (T1.setTop (mkF m 5 #[.val (.ref p0)] [(.int z)])) _
  exact g_retI X1 hx hret hlk (hb hby d10_5) (by decide) (by decide) ⟨rfl, e1, rfl⟩
theorem d11_0 : decode prog_62_method_4_code 0 = .ok (.aload_n 0, 1) := by decide +kernel
theorem d11_1 : decode prog_62_method_4_code 1 = .ok (.getfield 20, 3) := by decide +kernel
theorem d11_4 : decode prog_62_method_4_code 4 = .ok (.iload_n 1, 1) := by decide +kernel
theorem d11_5 : decode prog_62_method_4_code 5 = .ok (.iaload, 1) := by decide +kernel
theorem d11_6 : decode prog_62_method_4_code 6 = .ok (.ireturn, 1) := by decide +kernel
theorem pd_11 : parseMethodDescriptor "(I)I" = some ⟨[.int], some .int⟩ := by decide +kernel
theorem ef_11 (m : MethodId) (p0 : Addr) (p1 : Int32) : entryFrame m #[(.ref p0), (.int p1)] 2 = mkF m 0 #[.val (.ref p0), .val (.int p1)] [] := by first | (simp [entryFrame, mkF, argsToLocals, Value.category]; done) | rfl
set_option maxRecDepth 65536 in
set_option maxHeartbeats 40000000 in
theorem rmFE (l : Launch) (Z : State) (a0 : Array Value) (hw : ∀ d ∈ tables_1, d.before a0 Z = true) (p0 : Addr) (p1 : Int32) (h0 : Heap) (n0 : Nat) (Z0 : n0 ≤ h0.size) (s2 : Addr) (vs : List Value) (i : Nat) (z : Int32) (hi : p1.toInt = i) (hz : vs[i]? = some (.int z)) (f1 : Fld Z h0 p0 "com/example/hold/hold/graph/Digraph" "start" "[I" (.ref s2)) (A1 : Ar Z h0 s2 .int vs) :
    Con l Z (⟨"com/example/hold/hold/graph/Digraph", "firstEdge", "(I)I"⟩ : MethodName) prog_62_method_4_code 2 (some .int) [] ({ frames := 0, cells := 0, slots := 0, locals := 0 } : Room) 0 0 #[(.ref p0), (.int p1)] h0 (fun v h L => v = some (.int z) ∧ h = h0 ∧ L = []) := by
  refine Con.body (plainFor_of_name (by first | (simp [plainName, overriddenIn]; done) | decide +kernel)) ?_
  intro p e s m below meth c T0 hx hby hml hown hnm hZ hret hlk X0 e0
  refine Goes.cast (ef_11 m p0 p1) ?_
  have N0 := Fr.nil n0
  show Goes p.tables e below (T0.setTop (mkF m 0 #[.val (.ref p0), .val (.int p1)] [])) _
  refine g_aloadN X0 hx (hb hby d11_0) rfl rfl ?_
  show Goes p.tables e below (T0.setTop (mkF m 1 #[.val (.ref p0), .val (.int p1)] [(.ref p0)])) _
  refine g_getF X0 hx hZ hown e0 (host := "") (Or.inl (hw _ (List.mem_of_getElem? (i := 61) rfl))) Via.refl f1 (hb hby d11_1) (fun T1 X1 e1 => ?_)
  show Goes p.tables e below (T1.setTop (mkF m 4 #[.val (.ref p0), .val (.int p1)] [(.ref s2)])) _
  refine g_iloadN X1 hx (hb hby d11_4) rfl ?_
  show Goes p.tables e below (T1.setTop (mkF m 5 #[.val (.ref p0), .val (.int p1)] [(.int p1), (.ref s2)])) _
  refine g_iaload X1 hx hZ e1 A1 (i := i) (v := (.int z)) hi hz (hb hby d11_5) ?_
  show Goes p.tables e below (T1.setTop (mkF m 6 #[.val (.ref p0), .val (.int p1)] [(.int z)])) _
  exact g_retI X1 hx hret hlk (hb hby d11_6) (by decide) (by decide) ⟨rfl, e1, rfl⟩
theorem d12_0 : decode prog_62_method_5_code 0 = .ok (.aload_n 0, 1) := by decide +kernel
theorem d12_1 : decode prog_62_method_5_code 1 = .ok (.getfield 20, 3) := by decide +kernel
theorem d12_4 : decode prog_62_method_5_code 4 = .ok (.iload_n 1, 1) := by decide +kernel
theorem d12_5 : decode prog_62_method_5_code 5 = .ok (.iconst 1, 1) := by decide +kernel
theorem d12_6 : decode prog_62_method_5_code 6 = .ok (.iadd, 1) := by decide +kernel
theorem d12_7 : decode prog_62_method_5_code 7 = .ok (.iaload, 1) := by decide +kernel
theorem d12_8 : decode prog_62_method_5_code 8 = .ok (.ireturn, 1) := by decide +kernel
theorem pd_12 : parseMethodDescriptor "(I)I" = some ⟨[.int], some .int⟩ := by decide +kernel
theorem ef_12 (m : MethodId) (p0 : Addr) (p1 : Int32) : entryFrame m #[(.ref p0), (.int p1)] 2 = mkF m 0 #[.val (.ref p0), .val (.int p1)] [] := by first | (simp [entryFrame, mkF, argsToLocals, Value.category]; done) | rfl
set_option maxRecDepth 65536 in
set_option maxHeartbeats 40000000 in
theorem rmEE (l : Launch) (Z : State) (a0 : Array Value) (hw : ∀ d ∈ tables_1, d.before a0 Z = true) (p0 : Addr) (p1 : Int32) (h0 : Heap) (n0 : Nat) (Z0 : n0 ≤ h0.size) (s2 : Addr) (vs : List Value) (i : Nat) (z : Int32) (hi : (p1 + 1).toInt = i) (hz : vs[i]? = some (.int z)) (f1 : Fld Z h0 p0 "com/example/hold/hold/graph/Digraph" "start" "[I" (.ref s2)) (A1 : Ar Z h0 s2 .int vs) :
    Con l Z (⟨"com/example/hold/hold/graph/Digraph", "endEdge", "(I)I"⟩ : MethodName) prog_62_method_5_code 2 (some .int) [] ({ frames := 0, cells := 0, slots := 0, locals := 0 } : Room) 0 0 #[(.ref p0), (.int p1)] h0 (fun v h L => v = some (.int z) ∧ h = h0 ∧ L = []) := by
  refine Con.body (plainFor_of_name (by first | (simp [plainName, overriddenIn]; done) | decide +kernel)) ?_
  intro p e s m below meth c T0 hx hby hml hown hnm hZ hret hlk X0 e0
  refine Goes.cast (ef_12 m p0 p1) ?_
  have N0 := Fr.nil n0
  show Goes p.tables e below (T0.setTop (mkF m 0 #[.val (.ref p0), .val (.int p1)] [])) _
  refine g_aloadN X0 hx (hb hby d12_0) rfl rfl ?_
  show Goes p.tables e below (T0.setTop (mkF m 1 #[.val (.ref p0), .val (.int p1)] [(.ref p0)])) _
  refine g_getF X0 hx hZ hown e0 (host := "") (Or.inl (hw _ (List.mem_of_getElem? (i := 61) rfl))) Via.refl f1 (hb hby d12_1) (fun T1 X1 e1 => ?_)
  show Goes p.tables e below (T1.setTop (mkF m 4 #[.val (.ref p0), .val (.int p1)] [(.ref s2)])) _
  refine g_iloadN X1 hx (hb hby d12_4) rfl ?_
  show Goes p.tables e below (T1.setTop (mkF m 5 #[.val (.ref p0), .val (.int p1)] [(.int p1), (.ref s2)])) _
  refine g_iconst X1 hx (1 : Int32) (hb hby d12_5) rfl ?_
  show Goes p.tables e below (T1.setTop (mkF m 6 #[.val (.ref p0), .val (.int p1)] [(.int (1 : Int32)), (.int p1), (.ref s2)])) _
  refine g_iadd X1 hx (hb hby d12_6) ?_
  show Goes p.tables e below (T1.setTop (mkF m 7 #[.val (.ref p0), .val (.int p1)] [(.int (p1 + (1 : Int32))), (.ref s2)])) _
  refine g_iaload X1 hx hZ e1 A1 (i := i) (v := (.int z)) hi hz (hb hby d12_7) ?_
  show Goes p.tables e below (T1.setTop (mkF m 8 #[.val (.ref p0), .val (.int p1)] [(.int z)])) _
  exact g_retI X1 hx hret hlk (hb hby d12_8) (by decide) (by decide) ⟨rfl, e1, rfl⟩
theorem own_01 {x v : Int32} (h : v = (if x = 0 then (0 : Int32) else (1 : Int32))) : v = 0 ∨ v = 1 := by
  rw [h]; split
  · exact Or.inl rfl
  · exact Or.inr rfl
theorem own_e {v : Int32} (h : v = 0 ∨ v = 1) : (if v = 0 then (0 : Int32) else (1 : Int32)) = v := by rcases h with rfl | rfl <;> rfl
theorem own_nn {v : Int32} (h : v = 0 ∨ v = 1) (c : ¬ v = 0) : v = 1 := h.resolve_left c
theorem own_sum {a b c : Int32} (ha : a = 0 ∨ a = 1) (hb : b = 0 ∨ b = 1) (hc : c = 0 ∨ c = 1) : ∃ j : Nat, (a + b + c).toInt = j ∧ j < 16 ∧ a + b + c = a + (b + c) := by
  rcases ha with rfl | rfl <;> rcases hb with rfl | rfl <;> rcases hc with rfl | rfl
  · exact ⟨0, by decide, by decide, by decide⟩
  · exact ⟨1, by decide, by decide, by decide⟩
  · exact ⟨1, by decide, by decide, by decide⟩
  · exact ⟨2, by decide, by decide, by decide⟩
  · exact ⟨1, by decide, by decide, by decide⟩
  · exact ⟨2, by decide, by decide, by decide⟩
  · exact ⟨2, by decide, by decide, by decide⟩
  · exact ⟨3, by decide, by decide, by decide⟩
theorem own_sum1 {a b : Int32} (ha : a = 0 ∨ a = 1) (hb : b = 0 ∨ b = 1) : ∃ j : Nat, (a + b).toInt = j ∧ j < 16 := by
  rcases ha with rfl | rfl <;> rcases hb with rfl | rfl
  · exact ⟨0, by decide, by decide⟩
  · exact ⟨1, by decide, by decide⟩
  · exact ⟨1, by decide, by decide⟩
  · exact ⟨2, by decide, by decide⟩
theorem own_sum0 {a : Int32} (ha : a = 0 ∨ a = 1) : ∃ j : Nat, a.toInt = j ∧ j < 16 := by
  rcases ha with rfl | rfl
  · exact ⟨0, by decide, by decide⟩
  · exact ⟨1, by decide, by decide⟩
def own_vs (e0 E : Int32) (th : Int32) : List Value := if th = 0 then (([(.int (0 : Int32)), (.int (0 : Int32)), (.int (0 : Int32)), (.int (0 : Int32)), (.int (0 : Int32)), (.int (0 : Int32)), (.int (0 : Int32)), (.int (0 : Int32)), (.int (0 : Int32)), (.int (0 : Int32)), (.int (0 : Int32)), (.int (0 : Int32)), (.int (0 : Int32)), (.int (0 : Int32)), (.int (0 : Int32)), (.int (0 : Int32)), (.int (0 : Int32))] : List Value).set 1 (.int e0)).set 2 (.int E) else ((([(.int (0 : Int32)), (.int (0 : Int32)), (.int (0 : Int32)), (.int (0 : Int32)), (.int (0 : Int32)), (.int (0 : Int32)), (.int (0 : Int32)), (.int (0 : Int32)), (.int (0 : Int32)), (.int (0 : Int32)), (.int (0 : Int32)), (.int (0 : Int32)), (.int (0 : Int32)), (.int (0 : Int32)), (.int (0 : Int32)), (.int (0 : Int32)), (.int (0 : Int32))] : List Value).set 1 (.int e0)).set 2 (.int E)).set 3 (.int E)
def own_k (th : Int32) : Nat := if th = 0 then 2 else 3
theorem own_vsl (e0 E th : Int32) : (own_vs e0 E th).length = 17 := by unfold own_vs; split <;> rfl
theorem own_vs0 (e0 E th : Int32) : (own_vs e0 E th)[0]? = some (.int 0) := by unfold own_vs; split <;> rfl
theorem own_vs1 (e0 E th : Int32) : (own_vs e0 E th)[1]? = some (.int e0) := by unfold own_vs; split <;> rfl
theorem own_vs2 (e0 E th : Int32) : (own_vs e0 E th)[2]? = some (.int E) := by unfold own_vs; split <;> rfl
theorem own_vsk (e0 E th : Int32) : (own_vs e0 E th)[own_k th]? = some (.int E) := by unfold own_vs own_k; split <;> rfl
theorem own_k16 (th : Int32) : own_k th < 16 ∧ 2 ≤ own_k th := by unfold own_k; split <;> decide
theorem ef_0 (m : MethodId) (p0 : Int32) (p1 : Int32) (p2 : Int32) (p3 : Int32) : entryFrame m #[(.int p0), (.int p1), (.int p2), (.int p3)] maxLocals = mkF m 0 #[.val (.int p0), .val (.int p1), .val (.int p2), .val (.int p3), .unset, .unset, .unset, .unset, .unset, .unset, .unset, .unset, .unset] [] := by first | (simp [entryFrame, mkF, argsToLocals, Value.category, maxLocals]; done) | rfl
set_option maxRecDepth 65536 in
set_option maxHeartbeats 40000000 in
theorem law (l : Launch) (Z : State) (a0 : Array Value) (hw : ∀ d ∈ tables_1, d.before a0 Z = true) (ws : List Jvm.Cond) (p0 : Int32) (p1 : Int32) (p2 : Int32) (p3 : Int32) (h0 : Heap)  :
    Con l Z x code maxLocals ret ws room_1 24 192 #[(.int p0), (.int p1), (.int p2), (.int p3)] h0 (fun v h L => v = some (.int 1) ∧ Fr h0.size L) := by
  refine Con.body (plainFor_of_name (by first | (simp [plainName, overriddenIn, x]; done) | decide +kernel)) ?_
  intro p e s m below meth c T0 hx hby hml hown hnm hZ hret hlk X0 e0
  refine Goes.cast (ef_0 m p0 p1 p2 p3) ?_
  have N0 := Fr.nil h0.size
  have Z0 : h0.size ≤ h0.size := Nat.le_refl _
  show Goes p.tables e below (T0.setTop (mkF m 0 #[.val (.int p0), .val (.int p1), .val (.int p2), .val (.int p3), .unset, .unset, .unset, .unset, .unset, .unset, .unset, .unset, .unset] [])) _
  refine g_iloadN X0 hx (hb hby at_0) rfl ?_
  show Goes p.tables e below (T0.setTop (mkF m 1 #[.val (.int p0), .val (.int p1), .val (.int p2), .val (.int p3), .unset, .unset, .unset, .unset, .unset, .unset, .unset, .unset, .unset] [(.int p3)])) _
  refine g_iconst X0 hx (1 : Int32) (hb hby at_1) rfl ?_
  show Goes p.tables e below (T0.setTop (mkF m 2 #[.val (.int p0), .val (.int p1), .val (.int p2), .val (.int p3), .unset, .unset, .unset, .unset, .unset, .unset, .unset, .unset, .unset] [(.int (1 : Int32)), (.int p3)])) _
  refine g_iand X0 hx (hb hby at_2) ?_
  show Goes p.tables e below (T0.setTop (mkF m 3 #[.val (.int p0), .val (.int p1), .val (.int p2), .val (.int p3), .unset, .unset, .unset, .unset, .unset, .unset, .unset, .unset, .unset] [(.int (p3 &&& (1 : Int32)))])) _
  obtain ⟨v1, hv1⟩ : ∃ z : Int32, z = (if (p3 &&& (1 : Int32)) = 0 then (0 : Int32) else (1 : Int32)) := ⟨_, rfl⟩
  refine Goes.join (S' := T0.setTop (mkF m 11 #[.val (.int p0), .val (.int p1), .val (.int p2), .val (.int p3), .unset, .unset, .unset, .unset, .unset, .unset, .unset, .unset, .unset] [(.int v1)])) (fun J => ?_) ?_
  · skip
    refine g_if_eq X0 hx (hb hby at_3) (by decide) (pc' := 10) (by decide) (fun c3 => ?_) (fun c3 => ?_)
    · skip
      show Goes p.tables e below (T0.setTop (mkF m 10 #[.val (.int p0), .val (.int p1), .val (.int p2), .val (.int p3), .unset, .unset, .unset, .unset, .unset, .unset, .unset, .unset, .unset] [])) _
      refine g_iconst X0 hx (0 : Int32) (hb hby at_10) rfl ?_
      rw [show v1 = ((0 : Int32)) from by rw [hv1, if_pos c3]] at J
      exact J
    · skip
      show Goes p.tables e below (T0.setTop (mkF m 6 #[.val (.int p0), .val (.int p1), .val (.int p2), .val (.int p3), .unset, .unset, .unset, .unset, .unset, .unset, .unset, .unset, .unset] [])) _
      refine g_iconst X0 hx (1 : Int32) (hb hby at_6) rfl ?_
      show Goes p.tables e below (T0.setTop (mkF m 7 #[.val (.int p0), .val (.int p1), .val (.int p2), .val (.int p3), .unset, .unset, .unset, .unset, .unset, .unset, .unset, .unset, .unset] [(.int (1 : Int32))])) _
      refine g_goto X0 hx (hb hby at_7) (by decide) (pc' := 11) (by decide) ?_
      rw [show v1 = ((1 : Int32)) from by rw [hv1, if_neg c3]] at J
      exact J
  show Goes p.tables e below (T0.setTop (mkF m 11 #[.val (.int p0), .val (.int p1), .val (.int p2), .val (.int p3), .unset, .unset, .unset, .unset, .unset, .unset, .unset, .unset, .unset] [(.int v1)])) _
  refine g_istore X0 hx (hb hby at_11) (l' := #[.val (.int p0), .val (.int p1), .val (.int p2), .val (.int p3), .val (.int v1), .unset, .unset, .unset, .unset, .unset, .unset, .unset, .unset]) rfl ?_
  show Goes p.tables e below (T0.setTop (mkF m 13 #[.val (.int p0), .val (.int p1), .val (.int p2), .val (.int p3), .val (.int v1), .unset, .unset, .unset, .unset, .unset, .unset, .unset, .unset] [])) _
  refine g_iloadN X0 hx (hb hby at_13) rfl ?_
  show Goes p.tables e below (T0.setTop (mkF m 14 #[.val (.int p0), .val (.int p1), .val (.int p2), .val (.int p3), .val (.int v1), .unset, .unset, .unset, .unset, .unset, .unset, .unset, .unset] [(.int p3)])) _
  refine g_iconst X0 hx (2 : Int32) (hb hby at_14) rfl ?_
  show Goes p.tables e below (T0.setTop (mkF m 15 #[.val (.int p0), .val (.int p1), .val (.int p2), .val (.int p3), .val (.int v1), .unset, .unset, .unset, .unset, .unset, .unset, .unset, .unset] [(.int (2 : Int32)), (.int p3)])) _
  refine g_iand X0 hx (hb hby at_15) ?_
  show Goes p.tables e below (T0.setTop (mkF m 16 #[.val (.int p0), .val (.int p1), .val (.int p2), .val (.int p3), .val (.int v1), .unset, .unset, .unset, .unset, .unset, .unset, .unset, .unset] [(.int (p3 &&& (2 : Int32)))])) _
  obtain ⟨v2, hv2⟩ : ∃ z : Int32, z = (if (p3 &&& (2 : Int32)) = 0 then (0 : Int32) else (1 : Int32)) := ⟨_, rfl⟩
  refine Goes.join (S' := T0.setTop (mkF m 24 #[.val (.int p0), .val (.int p1), .val (.int p2), .val (.int p3), .val (.int v1), .unset, .unset, .unset, .unset, .unset, .unset, .unset, .unset] [(.int v2)])) (fun J => ?_) ?_
  · skip
    refine g_if_eq X0 hx (hb hby at_16) (by decide) (pc' := 23) (by decide) (fun c16 => ?_) (fun c16 => ?_)
    · skip
      show Goes p.tables e below (T0.setTop (mkF m 23 #[.val (.int p0), .val (.int p1), .val (.int p2), .val (.int p3), .val (.int v1), .unset, .unset, .unset, .unset, .unset, .unset, .unset, .unset] [])) _
      refine g_iconst X0 hx (0 : Int32) (hb hby at_23) rfl ?_
      rw [show v2 = ((0 : Int32)) from by rw [hv2, if_pos c16]] at J
      exact J
    · skip
      show Goes p.tables e below (T0.setTop (mkF m 19 #[.val (.int p0), .val (.int p1), .val (.int p2), .val (.int p3), .val (.int v1), .unset, .unset, .unset, .unset, .unset, .unset, .unset, .unset] [])) _
      refine g_iconst X0 hx (1 : Int32) (hb hby at_19) rfl ?_
      show Goes p.tables e below (T0.setTop (mkF m 20 #[.val (.int p0), .val (.int p1), .val (.int p2), .val (.int p3), .val (.int v1), .unset, .unset, .unset, .unset, .unset, .unset, .unset, .unset] [(.int (1 : Int32))])) _
      refine g_goto X0 hx (hb hby at_20) (by decide) (pc' := 24) (by decide) ?_
      rw [show v2 = ((1 : Int32)) from by rw [hv2, if_neg c16]] at J
      exact J
  show Goes p.tables e below (T0.setTop (mkF m 24 #[.val (.int p0), .val (.int p1), .val (.int p2), .val (.int p3), .val (.int v1), .unset, .unset, .unset, .unset, .unset, .unset, .unset, .unset] [(.int v2)])) _
  refine g_istore X0 hx (hb hby at_24) (l' := #[.val (.int p0), .val (.int p1), .val (.int p2), .val (.int p3), .val (.int v1), .val (.int v2), .unset, .unset, .unset, .unset, .unset, .unset, .unset]) rfl ?_
  show Goes p.tables e below (T0.setTop (mkF m 26 #[.val (.int p0), .val (.int p1), .val (.int p2), .val (.int p3), .val (.int v1), .val (.int v2), .unset, .unset, .unset, .unset, .unset, .unset, .unset] [])) _
  refine g_iloadN X0 hx (hb hby at_26) rfl ?_
  show Goes p.tables e below (T0.setTop (mkF m 27 #[.val (.int p0), .val (.int p1), .val (.int p2), .val (.int p3), .val (.int v1), .val (.int v2), .unset, .unset, .unset, .unset, .unset, .unset, .unset] [(.int p3)])) _
  refine g_iconst X0 hx (4 : Int32) (hb hby at_27) rfl ?_
  show Goes p.tables e below (T0.setTop (mkF m 28 #[.val (.int p0), .val (.int p1), .val (.int p2), .val (.int p3), .val (.int v1), .val (.int v2), .unset, .unset, .unset, .unset, .unset, .unset, .unset] [(.int (4 : Int32)), (.int p3)])) _
  refine g_iand X0 hx (hb hby at_28) ?_
  show Goes p.tables e below (T0.setTop (mkF m 29 #[.val (.int p0), .val (.int p1), .val (.int p2), .val (.int p3), .val (.int v1), .val (.int v2), .unset, .unset, .unset, .unset, .unset, .unset, .unset] [(.int (p3 &&& (4 : Int32)))])) _
  obtain ⟨v3, hv3⟩ : ∃ z : Int32, z = (if (p3 &&& (4 : Int32)) = 0 then (0 : Int32) else (1 : Int32)) := ⟨_, rfl⟩
  refine Goes.join (S' := T0.setTop (mkF m 37 #[.val (.int p0), .val (.int p1), .val (.int p2), .val (.int p3), .val (.int v1), .val (.int v2), .unset, .unset, .unset, .unset, .unset, .unset, .unset] [(.int v3)])) (fun J => ?_) ?_
  · skip
    refine g_if_eq X0 hx (hb hby at_29) (by decide) (pc' := 36) (by decide) (fun c29 => ?_) (fun c29 => ?_)
    · skip
      show Goes p.tables e below (T0.setTop (mkF m 36 #[.val (.int p0), .val (.int p1), .val (.int p2), .val (.int p3), .val (.int v1), .val (.int v2), .unset, .unset, .unset, .unset, .unset, .unset, .unset] [])) _
      refine g_iconst X0 hx (0 : Int32) (hb hby at_36) rfl ?_
      rw [show v3 = ((0 : Int32)) from by rw [hv3, if_pos c29]] at J
      exact J
    · skip
      show Goes p.tables e below (T0.setTop (mkF m 32 #[.val (.int p0), .val (.int p1), .val (.int p2), .val (.int p3), .val (.int v1), .val (.int v2), .unset, .unset, .unset, .unset, .unset, .unset, .unset] [])) _
      refine g_iconst X0 hx (1 : Int32) (hb hby at_32) rfl ?_
      show Goes p.tables e below (T0.setTop (mkF m 33 #[.val (.int p0), .val (.int p1), .val (.int p2), .val (.int p3), .val (.int v1), .val (.int v2), .unset, .unset, .unset, .unset, .unset, .unset, .unset] [(.int (1 : Int32))])) _
      refine g_goto X0 hx (hb hby at_33) (by decide) (pc' := 37) (by decide) ?_
      rw [show v3 = ((1 : Int32)) from by rw [hv3, if_neg c29]] at J
      exact J
  show Goes p.tables e below (T0.setTop (mkF m 37 #[.val (.int p0), .val (.int p1), .val (.int p2), .val (.int p3), .val (.int v1), .val (.int v2), .unset, .unset, .unset, .unset, .unset, .unset, .unset] [(.int v3)])) _
  refine g_istore X0 hx (hb hby at_37) (l' := #[.val (.int p0), .val (.int p1), .val (.int p2), .val (.int p3), .val (.int v1), .val (.int v2), .val (.int v3), .unset, .unset, .unset, .unset, .unset, .unset]) rfl ?_
  show Goes p.tables e below (T0.setTop (mkF m 39 #[.val (.int p0), .val (.int p1), .val (.int p2), .val (.int p3), .val (.int v1), .val (.int v2), .val (.int v3), .unset, .unset, .unset, .unset, .unset, .unset] [])) _
  refine g_iloadN X0 hx (hb hby at_39) rfl ?_
  show Goes p.tables e below (T0.setTop (mkF m 40 #[.val (.int p0), .val (.int p1), .val (.int p2), .val (.int p3), .val (.int v1), .val (.int v2), .val (.int v3), .unset, .unset, .unset, .unset, .unset, .unset] [(.int p3)])) _
  refine g_bipush X0 hx (8 : Int32) (hb hby at_40) (by decide) ?_
  show Goes p.tables e below (T0.setTop (mkF m 42 #[.val (.int p0), .val (.int p1), .val (.int p2), .val (.int p3), .val (.int v1), .val (.int v2), .val (.int v3), .unset, .unset, .unset, .unset, .unset, .unset] [(.int (8 : Int32)), (.int p3)])) _
  refine g_iand X0 hx (hb hby at_42) ?_
  show Goes p.tables e below (T0.setTop (mkF m 43 #[.val (.int p0), .val (.int p1), .val (.int p2), .val (.int p3), .val (.int v1), .val (.int v2), .val (.int v3), .unset, .unset, .unset, .unset, .unset, .unset] [(.int (p3 &&& (8 : Int32)))])) _
  obtain ⟨v4, hv4⟩ : ∃ z : Int32, z = (if (p3 &&& (8 : Int32)) = 0 then (0 : Int32) else (1 : Int32)) := ⟨_, rfl⟩
  refine Goes.join (S' := T0.setTop (mkF m 51 #[.val (.int p0), .val (.int p1), .val (.int p2), .val (.int p3), .val (.int v1), .val (.int v2), .val (.int v3), .unset, .unset, .unset, .unset, .unset, .unset] [(.int v4)])) (fun J => ?_) ?_
  · skip
    refine g_if_eq X0 hx (hb hby at_43) (by decide) (pc' := 50) (by decide) (fun c43 => ?_) (fun c43 => ?_)
    · skip
      show Goes p.tables e below (T0.setTop (mkF m 50 #[.val (.int p0), .val (.int p1), .val (.int p2), .val (.int p3), .val (.int v1), .val (.int v2), .val (.int v3), .unset, .unset, .unset, .unset, .unset, .unset] [])) _
      refine g_iconst X0 hx (0 : Int32) (hb hby at_50) rfl ?_
      rw [show v4 = ((0 : Int32)) from by rw [hv4, if_pos c43]] at J
      exact J
    · skip
      show Goes p.tables e below (T0.setTop (mkF m 46 #[.val (.int p0), .val (.int p1), .val (.int p2), .val (.int p3), .val (.int v1), .val (.int v2), .val (.int v3), .unset, .unset, .unset, .unset, .unset, .unset] [])) _
      refine g_iconst X0 hx (1 : Int32) (hb hby at_46) rfl ?_
      show Goes p.tables e below (T0.setTop (mkF m 47 #[.val (.int p0), .val (.int p1), .val (.int p2), .val (.int p3), .val (.int v1), .val (.int v2), .val (.int v3), .unset, .unset, .unset, .unset, .unset, .unset] [(.int (1 : Int32))])) _
      refine g_goto X0 hx (hb hby at_47) (by decide) (pc' := 51) (by decide) ?_
      rw [show v4 = ((1 : Int32)) from by rw [hv4, if_neg c43]] at J
      exact J
  show Goes p.tables e below (T0.setTop (mkF m 51 #[.val (.int p0), .val (.int p1), .val (.int p2), .val (.int p3), .val (.int v1), .val (.int v2), .val (.int v3), .unset, .unset, .unset, .unset, .unset, .unset] [(.int v4)])) _
  refine g_istore X0 hx (hb hby at_51) (l' := #[.val (.int p0), .val (.int p1), .val (.int p2), .val (.int p3), .val (.int v1), .val (.int v2), .val (.int v3), .val (.int v4), .unset, .unset, .unset, .unset, .unset]) rfl ?_
  show Goes p.tables e below (T0.setTop (mkF m 53 #[.val (.int p0), .val (.int p1), .val (.int p2), .val (.int p3), .val (.int v1), .val (.int v2), .val (.int v3), .val (.int v4), .unset, .unset, .unset, .unset, .unset] [])) _
  refine g_new X0 hx hZ hown e0 (hw _ (List.mem_of_getElem? (i := 0) rfl)) (hw _ (List.mem_of_getElem? (i := 1) rfl)) (hw _ (List.mem_of_getElem? (i := 2) rfl)) (hb hby at_53) (by decide) (by decide) (fun T5 h5 a5 ga5 X5 e5 Ex5 Ea5 Df5 => ?_)
  have ge6 : h0.size ≤ a5 := by rw [ga5]; exact Z0
  have Z7 : h0.size ≤ h5.size := Nat.le_trans Z0 Ex5.1
  have fx8 : Fld Z h5 a5 "com/example/hold/hold/graph/Digraph$Builder" "start" "[I" .null := Df5 (Or.inl (hw _ (List.mem_of_getElem? (i := 11) rfl))) (ty := (.array .int)) (by decide)
  have fx9 : Fld Z h5 a5 "com/example/hold/hold/graph/Digraph$Builder" "target" "[I" .null := Df5 (Or.inl (hw _ (List.mem_of_getElem? (i := 13) rfl))) (ty := (.array .int)) (by decide)
  have fx10 : Fld Z h5 a5 "com/example/hold/hold/graph/Digraph$Builder" "edgeCount" "I" (.int (0 : Int32)) := Df5 (Or.inl (hw _ (List.mem_of_getElem? (i := 20) rfl))) (ty := .int) (by decide)
  have fx11 : Fld Z h5 a5 "com/example/hold/hold/graph/Digraph$Builder" "vertexCount" "I" (.int (0 : Int32)) := Df5 (Or.inl (hw _ (List.mem_of_getElem? (i := 27) rfl))) (ty := .int) (by decide)
  show Goes p.tables e below (T5.setTop (mkF m 56 #[.val (.int p0), .val (.int p1), .val (.int p2), .val (.int p3), .val (.int v1), .val (.int v2), .val (.int v3), .val (.int v4), .unset, .unset, .unset, .unset, .unset] [(.ref a5)])) _
  refine g_dup X5 hx (hb hby at_56) rfl ?_
  show Goes p.tables e below (T5.setTop (mkF m 57 #[.val (.int p0), .val (.int p1), .val (.int p2), .val (.int p3), .val (.int v1), .val (.int v2), .val (.int v3), .val (.int v4), .unset, .unset, .unset, .unset, .unset] [(.ref a5), (.ref a5)])) _
  refine g_callI X5 hx hZ hown (by rw [hml]; rfl) e5 rfl (hw _ (List.mem_of_getElem? (i := 3) rfl)) (hw _ (List.mem_of_getElem? (i := 4) rfl)) (hw _ (List.mem_of_getElem? (i := 2) rfl)) (hw _ (List.mem_of_getElem? (i := 5) rfl)) (rmBI l Z a0 hw a5 h5 h0.size Z7 fx8 fx9 fx11 fx10 Ea5 ge6) a5 [] rfl [(.ref a5)] rfl (lenOf pd_1 rfl) (hb hby at_57) (by decide) 1 (by decide) (by decide) (by first | decide | exact Nat.le_refl _) (by decide) (by decide) (fun v T12 L12 X12 hQ12 => ?_)
  obtain ⟨rfl, Nc12, sa, ta, gs, gt, ns, nt, nst, hB12⟩ := hQ12
  have N13 := Fr.app N0 Nc12
  have Zb12 : h0.size ≤ T12.heap.size := Nat.le_trans ge6 (Nat.le_of_lt hB12.1.lt)
  show Goes p.tables e below (T12.setTop (mkF m 60 #[.val (.int p0), .val (.int p1), .val (.int p2), .val (.int p3), .val (.int v1), .val (.int v2), .val (.int v3), .val (.int v4), .unset, .unset, .unset, .unset, .unset] [(.ref a5)])) _
  refine g_astore X12 hx (hb hby at_60) rfl (l' := #[.val (.int p0), .val (.int p1), .val (.int p2), .val (.int p3), .val (.int v1), .val (.int v2), .val (.int v3), .val (.int v4), .val (.ref a5), .unset, .unset, .unset, .unset]) rfl ?_
  have ov1 := own_01 hv1
  have ov2 := own_01 hv2
  have ov3 := own_01 hv3
  have ov4 := own_01 hv4
  have J118 : ∀ (T : State) (locs : List Loc), Stand p l e room_1 s m #[(.int p0), (.int p1), (.int p2), (.int p3)] below meth c T locs (0 + 1 + 2) (0 + 4 + 33) → Fr h0.size locs → h0.size ≤ T.heap.size → Bd Z T.heap a5 sa ta (own_vs v1 (v1 + v2 + v3) v4) (Int32.ofNat (own_k v4)) (v1 + v2 + v3) → Goes p.tables e below (T.setTop (mkF m 118 #[.val (.int p0), .val (.int p1), .val (.int p2), .val (.int p3), .val (.int v1), .val (.int v2), .val (.int v3), .val (.int v4), .val (.ref a5), .unset, .unset, .unset, .unset] [])) (Fin s 24 192 (fun v h L => v = some (.int 1) ∧ Fr h0.size L)) := by
    intro T locs X9 N9 Z9 hB9
    show Goes p.tables e below (T.setTop (mkF m 118 #[.val (.int p0), .val (.int p1), .val (.int p2), .val (.int p3), .val (.int v1), .val (.int v2), .val (.int v3), .val (.int v4), .val (.ref a5), .unset, .unset, .unset, .unset] [])) _
    obtain ⟨j, hj1, hj2, hj3⟩ := own_sum ov1 ov2 ov3
    have hk := own_k16 v4
    have hkI : (Int32.ofNat (own_k v4)).toInt = (own_k v4 : Nat) := own_of (by omega)
    refine g_aload X9 hx (hb hby at_118) rfl rfl ?_
    show Goes p.tables e below (T.setTop (mkF m 120 #[.val (.int p0), .val (.int p1), .val (.int p2), .val (.int p3), .val (.int v1), .val (.int v2), .val (.int v3), .val (.int v4), .val (.ref a5), .unset, .unset, .unset, .unset] [(.ref a5)])) _
    refine g_callV X9 hx hZ hown (by rw [hml]; rfl) rfl (K := "com/example/hold/hold/graph/Digraph$Builder") (hw _ (List.mem_of_getElem? (i := 28) rfl)) (hw _ (List.mem_of_getElem? (i := 29) rfl)) (hw _ (List.mem_of_getElem? (i := 31) rfl)) (hw _ (List.mem_of_getElem? (i := 30) rfl)) (hw _ (List.mem_of_getElem? (i := 2) rfl)) (hw _ (List.mem_of_getElem? (i := 32) rfl)) hB9.1 (rmBu l Z a0 hw a5 T.heap h0.size Z9 sa ta (own_vs v1 (v1 + v2 + v3) v4) (Int32.ofNat (own_k v4)) (v1 + v2 + v3) hB9 ge6 gs gt ns nt nst (own_k v4) j hkI hk.1 hj1 hj2 (own_vsl _ _ _) (own_vs0 _ _ _) (own_vsk _ _ _)) [] rfl [] rfl (lenOf pd_5 rfl) (hb hby at_120) (by decide) 0 (by decide) (by decide) (by first | decide | exact Nat.le_refl _) (by decide) (by decide) (fun v T14 L14 X14 hQ14 => ?_)
    obtain ⟨g, rfl, Nc14, Zg, s2, t2, tt, Eg, fg1, fg2, Ag1, htt, Ag2⟩ := hQ14
    have N15 := Fr.app N9 Nc14
    show Goes p.tables e below (T14.setTop (mkF m 123 #[.val (.int p0), .val (.int p1), .val (.int p2), .val (.int p3), .val (.int v1), .val (.int v2), .val (.int v3), .val (.int v4), .val (.ref a5), .unset, .unset, .unset, .unset] [(.ref g)])) _
    refine g_astore X14 hx (hb hby at_123) rfl (l' := #[.val (.int p0), .val (.int p1), .val (.int p2), .val (.int p3), .val (.int v1), .val (.int v2), .val (.int v3), .val (.int v4), .val (.ref a5), .val (.ref g), .unset, .unset, .unset]) rfl ?_
    show Goes p.tables e below (T14.setTop (mkF m 125 #[.val (.int p0), .val (.int p1), .val (.int p2), .val (.int p3), .val (.int v1), .val (.int v2), .val (.int v3), .val (.int v4), .val (.ref a5), .val (.ref g), .unset, .unset, .unset] [])) _
    refine g_iload X14 hx (hb hby at_125) rfl ?_
    show Goes p.tables e below (T14.setTop (mkF m 127 #[.val (.int p0), .val (.int p1), .val (.int p2), .val (.int p3), .val (.int v1), .val (.int v2), .val (.int v3), .val (.int v4), .val (.ref a5), .val (.ref g), .unset, .unset, .unset] [(.int v1)])) _
    obtain ⟨v16, hv16⟩ : ∃ z : Int32, z = (if v1 = 0 then (0 : Int32) else (1 : Int32)) := ⟨_, rfl⟩
    refine Goes.join (S' := T14.setTop (mkF m 135 #[.val (.int p0), .val (.int p1), .val (.int p2), .val (.int p3), .val (.int v1), .val (.int v2), .val (.int v3), .val (.int v4), .val (.ref a5), .val (.ref g), .unset, .unset, .unset] [(.int v16)])) (fun J => ?_) ?_
    · skip
      refine g_if_eq X14 hx (hb hby at_127) (by decide) (pc' := 134) (by decide) (fun c127 => ?_) (fun c127 => ?_)
      · skip
        show Goes p.tables e below (T14.setTop (mkF m 134 #[.val (.int p0), .val (.int p1), .val (.int p2), .val (.int p3), .val (.int v1), .val (.int v2), .val (.int v3), .val (.int v4), .val (.ref a5), .val (.ref g), .unset, .unset, .unset] [])) _
        refine g_iconst X14 hx (0 : Int32) (hb hby at_134) rfl ?_
        rw [show v16 = ((0 : Int32)) from by rw [hv16, if_pos c127]] at J
        exact J
      · skip
        show Goes p.tables e below (T14.setTop (mkF m 130 #[.val (.int p0), .val (.int p1), .val (.int p2), .val (.int p3), .val (.int v1), .val (.int v2), .val (.int v3), .val (.int v4), .val (.ref a5), .val (.ref g), .unset, .unset, .unset] [])) _
        refine g_iconst X14 hx (1 : Int32) (hb hby at_130) rfl ?_
        show Goes p.tables e below (T14.setTop (mkF m 131 #[.val (.int p0), .val (.int p1), .val (.int p2), .val (.int p3), .val (.int v1), .val (.int v2), .val (.int v3), .val (.int v4), .val (.ref a5), .val (.ref g), .unset, .unset, .unset] [(.int (1 : Int32))])) _
        refine g_goto X14 hx (hb hby at_131) (by decide) (pc' := 135) (by decide) ?_
        rw [show v16 = ((1 : Int32)) from by rw [hv16, if_neg c127]] at J
        exact J
    show Goes p.tables e below (T14.setTop (mkF m 135 #[.val (.int p0), .val (.int p1), .val (.int p2), .val (.int p3), .val (.int v1), .val (.int v2), .val (.int v3), .val (.int v4), .val (.ref a5), .val (.ref g), .unset, .unset, .unset] [(.int v16)])) _
    refine g_istore X14 hx (hb hby at_135) (l' := #[.val (.int p0), .val (.int p1), .val (.int p2), .val (.int p3), .val (.int v1), .val (.int v2), .val (.int v3), .val (.int v4), .val (.ref a5), .val (.ref g), .val (.int v16), .unset, .unset]) rfl ?_
    show Goes p.tables e below (T14.setTop (mkF m 137 #[.val (.int p0), .val (.int p1), .val (.int p2), .val (.int p3), .val (.int v1), .val (.int v2), .val (.int v3), .val (.int v4), .val (.ref a5), .val (.ref g), .val (.int v16), .unset, .unset] [])) _
    refine g_iload X14 hx (hb hby at_137) rfl ?_
    show Goes p.tables e below (T14.setTop (mkF m 139 #[.val (.int p0), .val (.int p1), .val (.int p2), .val (.int p3), .val (.int v1), .val (.int v2), .val (.int v3), .val (.int v4), .val (.ref a5), .val (.ref g), .val (.int v16), .unset, .unset] [(.int v2)])) _
    obtain ⟨v17, hv17⟩ : ∃ z : Int32, z = (if v2 = 0 then (0 : Int32) else (1 : Int32)) := ⟨_, rfl⟩
    refine Goes.join (S' := T14.setTop (mkF m 147 #[.val (.int p0), .val (.int p1), .val (.int p2), .val (.int p3), .val (.int v1), .val (.int v2), .val (.int v3), .val (.int v4), .val (.ref a5), .val (.ref g), .val (.int v16), .unset, .unset] [(.int v17)])) (fun J => ?_) ?_
    · skip
      refine g_if_eq X14 hx (hb hby at_139) (by decide) (pc' := 146) (by decide) (fun c139 => ?_) (fun c139 => ?_)
      · skip
        show Goes p.tables e below (T14.setTop (mkF m 146 #[.val (.int p0), .val (.int p1), .val (.int p2), .val (.int p3), .val (.int v1), .val (.int v2), .val (.int v3), .val (.int v4), .val (.ref a5), .val (.ref g), .val (.int v16), .unset, .unset] [])) _
        refine g_iconst X14 hx (0 : Int32) (hb hby at_146) rfl ?_
        rw [show v17 = ((0 : Int32)) from by rw [hv17, if_pos c139]] at J
        exact J
      · skip
        show Goes p.tables e below (T14.setTop (mkF m 142 #[.val (.int p0), .val (.int p1), .val (.int p2), .val (.int p3), .val (.int v1), .val (.int v2), .val (.int v3), .val (.int v4), .val (.ref a5), .val (.ref g), .val (.int v16), .unset, .unset] [])) _
        refine g_iconst X14 hx (1 : Int32) (hb hby at_142) rfl ?_
        show Goes p.tables e below (T14.setTop (mkF m 143 #[.val (.int p0), .val (.int p1), .val (.int p2), .val (.int p3), .val (.int v1), .val (.int v2), .val (.int v3), .val (.int v4), .val (.ref a5), .val (.ref g), .val (.int v16), .unset, .unset] [(.int (1 : Int32))])) _
        refine g_goto X14 hx (hb hby at_143) (by decide) (pc' := 147) (by decide) ?_
        rw [show v17 = ((1 : Int32)) from by rw [hv17, if_neg c139]] at J
        exact J
    show Goes p.tables e below (T14.setTop (mkF m 147 #[.val (.int p0), .val (.int p1), .val (.int p2), .val (.int p3), .val (.int v1), .val (.int v2), .val (.int v3), .val (.int v4), .val (.ref a5), .val (.ref g), .val (.int v16), .unset, .unset] [(.int v17)])) _
    refine g_iload X14 hx (hb hby at_147) rfl ?_
    show Goes p.tables e below (T14.setTop (mkF m 149 #[.val (.int p0), .val (.int p1), .val (.int p2), .val (.int p3), .val (.int v1), .val (.int v2), .val (.int v3), .val (.int v4), .val (.ref a5), .val (.ref g), .val (.int v16), .unset, .unset] [(.int v3), (.int v17)])) _
    obtain ⟨v18, hv18⟩ : ∃ z : Int32, z = (if v3 = 0 then (0 : Int32) else (1 : Int32)) := ⟨_, rfl⟩
    refine Goes.join (S' := T14.setTop (mkF m 157 #[.val (.int p0), .val (.int p1), .val (.int p2), .val (.int p3), .val (.int v1), .val (.int v2), .val (.int v3), .val (.int v4), .val (.ref a5), .val (.ref g), .val (.int v16), .unset, .unset] [(.int v18), (.int v17)])) (fun J => ?_) ?_
    · skip
      refine g_if_eq X14 hx (hb hby at_149) (by decide) (pc' := 156) (by decide) (fun c149 => ?_) (fun c149 => ?_)
      · skip
        show Goes p.tables e below (T14.setTop (mkF m 156 #[.val (.int p0), .val (.int p1), .val (.int p2), .val (.int p3), .val (.int v1), .val (.int v2), .val (.int v3), .val (.int v4), .val (.ref a5), .val (.ref g), .val (.int v16), .unset, .unset] [(.int v17)])) _
        refine g_iconst X14 hx (0 : Int32) (hb hby at_156) rfl ?_
        rw [show v18 = ((0 : Int32)) from by rw [hv18, if_pos c149]] at J
        exact J
      · skip
        show Goes p.tables e below (T14.setTop (mkF m 152 #[.val (.int p0), .val (.int p1), .val (.int p2), .val (.int p3), .val (.int v1), .val (.int v2), .val (.int v3), .val (.int v4), .val (.ref a5), .val (.ref g), .val (.int v16), .unset, .unset] [(.int v17)])) _
        refine g_iconst X14 hx (1 : Int32) (hb hby at_152) rfl ?_
        show Goes p.tables e below (T14.setTop (mkF m 153 #[.val (.int p0), .val (.int p1), .val (.int p2), .val (.int p3), .val (.int v1), .val (.int v2), .val (.int v3), .val (.int v4), .val (.ref a5), .val (.ref g), .val (.int v16), .unset, .unset] [(.int (1 : Int32)), (.int v17)])) _
        refine g_goto X14 hx (hb hby at_153) (by decide) (pc' := 157) (by decide) ?_
        rw [show v18 = ((1 : Int32)) from by rw [hv18, if_neg c149]] at J
        exact J
    show Goes p.tables e below (T14.setTop (mkF m 157 #[.val (.int p0), .val (.int p1), .val (.int p2), .val (.int p3), .val (.int v1), .val (.int v2), .val (.int v3), .val (.int v4), .val (.ref a5), .val (.ref g), .val (.int v16), .unset, .unset] [(.int v18), (.int v17)])) _
    refine g_iadd X14 hx (hb hby at_157) ?_
    show Goes p.tables e below (T14.setTop (mkF m 158 #[.val (.int p0), .val (.int p1), .val (.int p2), .val (.int p3), .val (.int v1), .val (.int v2), .val (.int v3), .val (.int v4), .val (.ref a5), .val (.ref g), .val (.int v16), .unset, .unset] [(.int (v17 + v18))])) _
    obtain ⟨v19, hv19⟩ : ∃ z : Int32, z = (v17 + v18) := ⟨_, rfl⟩
    refine g_nameI hv19 ?_
    show Goes p.tables e below (T14.setTop (mkF m 158 #[.val (.int p0), .val (.int p1), .val (.int p2), .val (.int p3), .val (.int v1), .val (.int v2), .val (.int v3), .val (.int v4), .val (.ref a5), .val (.ref g), .val (.int v16), .unset, .unset] [(.int v19)])) _
    refine g_istore X14 hx (hb hby at_158) (l' := #[.val (.int p0), .val (.int p1), .val (.int p2), .val (.int p3), .val (.int v1), .val (.int v2), .val (.int v3), .val (.int v4), .val (.ref a5), .val (.ref g), .val (.int v16), .val (.int v19), .unset]) rfl ?_
    show Goes p.tables e below (T14.setTop (mkF m 160 #[.val (.int p0), .val (.int p1), .val (.int p2), .val (.int p3), .val (.int v1), .val (.int v2), .val (.int v3), .val (.int v4), .val (.ref a5), .val (.ref g), .val (.int v16), .val (.int v19), .unset] [])) _
    refine g_iload X14 hx (hb hby at_160) rfl ?_
    show Goes p.tables e below (T14.setTop (mkF m 162 #[.val (.int p0), .val (.int p1), .val (.int p2), .val (.int p3), .val (.int v1), .val (.int v2), .val (.int v3), .val (.int v4), .val (.ref a5), .val (.ref g), .val (.int v16), .val (.int v19), .unset] [(.int v4)])) _
    obtain ⟨v20, hv20⟩ : ∃ z : Int32, z = (if v4 = 0 then (2 : Int32) else (3 : Int32)) := ⟨_, rfl⟩
    refine Goes.join (S' := T14.setTop (mkF m 170 #[.val (.int p0), .val (.int p1), .val (.int p2), .val (.int p3), .val (.int v1), .val (.int v2), .val (.int v3), .val (.int v4), .val (.ref a5), .val (.ref g), .val (.int v16), .val (.int v19), .unset] [(.int v20)])) (fun J => ?_) ?_
    · skip
      refine g_if_eq X14 hx (hb hby at_162) (by decide) (pc' := 169) (by decide) (fun c162 => ?_) (fun c162 => ?_)
      · skip
        show Goes p.tables e below (T14.setTop (mkF m 169 #[.val (.int p0), .val (.int p1), .val (.int p2), .val (.int p3), .val (.int v1), .val (.int v2), .val (.int v3), .val (.int v4), .val (.ref a5), .val (.ref g), .val (.int v16), .val (.int v19), .unset] [])) _
        refine g_iconst X14 hx (2 : Int32) (hb hby at_169) rfl ?_
        rw [show v20 = ((2 : Int32)) from by rw [hv20, if_pos c162]] at J
        exact J
      · skip
        show Goes p.tables e below (T14.setTop (mkF m 165 #[.val (.int p0), .val (.int p1), .val (.int p2), .val (.int p3), .val (.int v1), .val (.int v2), .val (.int v3), .val (.int v4), .val (.ref a5), .val (.ref g), .val (.int v16), .val (.int v19), .unset] [])) _
        refine g_iconst X14 hx (3 : Int32) (hb hby at_165) rfl ?_
        show Goes p.tables e below (T14.setTop (mkF m 166 #[.val (.int p0), .val (.int p1), .val (.int p2), .val (.int p3), .val (.int v1), .val (.int v2), .val (.int v3), .val (.int v4), .val (.ref a5), .val (.ref g), .val (.int v16), .val (.int v19), .unset] [(.int (3 : Int32))])) _
        refine g_goto X14 hx (hb hby at_166) (by decide) (pc' := 170) (by decide) ?_
        rw [show v20 = ((3 : Int32)) from by rw [hv20, if_neg c162]] at J
        exact J
    show Goes p.tables e below (T14.setTop (mkF m 170 #[.val (.int p0), .val (.int p1), .val (.int p2), .val (.int p3), .val (.int v1), .val (.int v2), .val (.int v3), .val (.int v4), .val (.ref a5), .val (.ref g), .val (.int v16), .val (.int v19), .unset] [(.int v20)])) _
    refine g_istore X14 hx (hb hby at_170) (l' := #[.val (.int p0), .val (.int p1), .val (.int p2), .val (.int p3), .val (.int v1), .val (.int v2), .val (.int v3), .val (.int v4), .val (.ref a5), .val (.ref g), .val (.int v16), .val (.int v19), .val (.int v20)]) rfl ?_
    have he0 : v16 = v1 := by rw [hv16]; exact own_e ov1
    have heE : (v1 + v2 + v3) = v16 + v19 := by rw [hj3, hv19, hv16, hv17, hv18, own_e ov1, own_e ov2, own_e ov3]
    have hvc : (Int32.ofNat (own_k v4 + 1)) - 1 = v20 := by rw [hv20]; unfold own_k; split <;> decide
    show Goes p.tables e below (T14.setTop (mkF m 172 #[.val (.int p0), .val (.int p1), .val (.int p2), .val (.int p3), .val (.int v1), .val (.int v2), .val (.int v3), .val (.int v4), .val (.ref a5), .val (.ref g), .val (.int v16), .val (.int v19), .val (.int v20)] [])) _
    refine g_aload X14 hx (hb hby at_172) rfl rfl ?_
    show Goes p.tables e below (T14.setTop (mkF m 174 #[.val (.int p0), .val (.int p1), .val (.int p2), .val (.int p3), .val (.int v1), .val (.int v2), .val (.int v3), .val (.int v4), .val (.ref a5), .val (.ref g), .val (.int v16), .val (.int v19), .val (.int v20)] [(.ref g)])) _
    refine g_callV X14 hx hZ hown (by rw [hml]; rfl) rfl (K := "com/example/hold/hold/graph/Digraph") (hw _ (List.mem_of_getElem? (i := 65) rfl)) (hw _ (List.mem_of_getElem? (i := 66) rfl)) (hw _ (List.mem_of_getElem? (i := 68) rfl)) (hw _ (List.mem_of_getElem? (i := 67) rfl)) (hw _ (List.mem_of_getElem? (i := 35) rfl)) (hw _ (List.mem_of_getElem? (i := 69) rfl)) Eg (rmVC l Z a0 hw g T14.heap h0.size Zg s2 (List.take (own_k v4 + 1) (own_vs v1 (v1 + v2 + v3) v4)) (Int32.ofNat (own_k v4 + 1)) (by rw [List.length_take, own_vsl, own_of (by omega)]; omega) fg1 Ag1) [] rfl [] rfl (lenOf pd_9 rfl) (hb hby at_174) (by decide) 0 (by decide) (by decide) (by first | decide | exact Nat.le_refl _) (by decide) (by decide) (fun v T21 L21 X21 hQ21 => ?_)
    obtain ⟨rfl, e21, rfl⟩ := hQ21
    have N22 := Fr.app N15 (Fr.nil h0.size)
    show Goes p.tables e below (T21.setTop (mkF m 177 #[.val (.int p0), .val (.int p1), .val (.int p2), .val (.int p3), .val (.int v1), .val (.int v2), .val (.int v3), .val (.int v4), .val (.ref a5), .val (.ref g), .val (.int v16), .val (.int v19), .val (.int v20)] [(.int ((Int32.ofNat (own_k v4 + 1)) - 1))])) _
    refine g_iload X21 hx (hb hby at_177) rfl ?_
    show Goes p.tables e below (T21.setTop (mkF m 179 #[.val (.int p0), .val (.int p1), .val (.int p2), .val (.int p3), .val (.int v1), .val (.int v2), .val (.int v3), .val (.int v4), .val (.ref a5), .val (.ref g), .val (.int v16), .val (.int v19), .val (.int v20)] [(.int v20), (.int ((Int32.ofNat (own_k v4 + 1)) - 1))])) _
    have c179 : ((Int32.ofNat (own_k v4 + 1)) - 1) = v20 := hvc
    refine g_icmp_eq X21 hx (hb hby at_179) (by decide) (pc' := 184) (by decide) (fun _ => ?_) (fun q => absurd c179 q)
    show Goes p.tables e below (T21.setTop (mkF m 184 #[.val (.int p0), .val (.int p1), .val (.int p2), .val (.int p3), .val (.int v1), .val (.int v2), .val (.int v3), .val (.int v4), .val (.ref a5), .val (.ref g), .val (.int v16), .val (.int v19), .val (.int v20)] [])) _
    refine g_aload X21 hx (hb hby at_184) rfl rfl ?_
    show Goes p.tables e below (T21.setTop (mkF m 186 #[.val (.int p0), .val (.int p1), .val (.int p2), .val (.int p3), .val (.int v1), .val (.int v2), .val (.int v3), .val (.int v4), .val (.ref a5), .val (.ref g), .val (.int v16), .val (.int v19), .val (.int v20)] [(.ref g)])) _
    refine g_callV X21 hx hZ hown (by rw [hml]; rfl) e21 (K := "com/example/hold/hold/graph/Digraph") (hw _ (List.mem_of_getElem? (i := 70) rfl)) (hw _ (List.mem_of_getElem? (i := 71) rfl)) (hw _ (List.mem_of_getElem? (i := 73) rfl)) (hw _ (List.mem_of_getElem? (i := 72) rfl)) (hw _ (List.mem_of_getElem? (i := 35) rfl)) (hw _ (List.mem_of_getElem? (i := 74) rfl)) Eg (rmEC l Z a0 hw g T14.heap h0.size Zg t2 tt (v1 + v2 + v3) (by rw [htt, hj1]) fg2 Ag2) [] rfl [] rfl (lenOf pd_10 rfl) (hb hby at_186) (by decide) 0 (by decide) (by decide) (by first | decide | exact Nat.le_refl _) (by decide) (by decide) (fun v T23 L23 X23 hQ23 => ?_)
    obtain ⟨rfl, e23, rfl⟩ := hQ23
    have N24 := Fr.app N22 (Fr.nil h0.size)
    show Goes p.tables e below (T23.setTop (mkF m 189 #[.val (.int p0), .val (.int p1), .val (.int p2), .val (.int p3), .val (.int v1), .val (.int v2), .val (.int v3), .val (.int v4), .val (.ref a5), .val (.ref g), .val (.int v16), .val (.int v19), .val (.int v20)] [(.int (v1 + v2 + v3))])) _
    refine g_iload X23 hx (hb hby at_189) rfl ?_
    show Goes p.tables e below (T23.setTop (mkF m 191 #[.val (.int p0), .val (.int p1), .val (.int p2), .val (.int p3), .val (.int v1), .val (.int v2), .val (.int v3), .val (.int v4), .val (.ref a5), .val (.ref g), .val (.int v16), .val (.int v19), .val (.int v20)] [(.int v16), (.int (v1 + v2 + v3))])) _
    refine g_iload X23 hx (hb hby at_191) rfl ?_
    show Goes p.tables e below (T23.setTop (mkF m 193 #[.val (.int p0), .val (.int p1), .val (.int p2), .val (.int p3), .val (.int v1), .val (.int v2), .val (.int v3), .val (.int v4), .val (.ref a5), .val (.ref g), .val (.int v16), .val (.int v19), .val (.int v20)] [(.int v19), (.int v16), (.int (v1 + v2 + v3))])) _
    refine g_iadd X23 hx (hb hby at_193) ?_
    show Goes p.tables e below (T23.setTop (mkF m 194 #[.val (.int p0), .val (.int p1), .val (.int p2), .val (.int p3), .val (.int v1), .val (.int v2), .val (.int v3), .val (.int v4), .val (.ref a5), .val (.ref g), .val (.int v16), .val (.int v19), .val (.int v20)] [(.int (v16 + v19)), (.int (v1 + v2 + v3))])) _
    have c194 : (v1 + v2 + v3) = (v16 + v19) := heE
    refine g_icmp_eq X23 hx (hb hby at_194) (by decide) (pc' := 199) (by decide) (fun _ => ?_) (fun q => absurd c194 q)
    show Goes p.tables e below (T23.setTop (mkF m 199 #[.val (.int p0), .val (.int p1), .val (.int p2), .val (.int p3), .val (.int v1), .val (.int v2), .val (.int v3), .val (.int v4), .val (.ref a5), .val (.ref g), .val (.int v16), .val (.int v19), .val (.int v20)] [])) _
    refine g_aload X23 hx (hb hby at_199) rfl rfl ?_
    show Goes p.tables e below (T23.setTop (mkF m 201 #[.val (.int p0), .val (.int p1), .val (.int p2), .val (.int p3), .val (.int v1), .val (.int v2), .val (.int v3), .val (.int v4), .val (.ref a5), .val (.ref g), .val (.int v16), .val (.int v19), .val (.int v20)] [(.ref g)])) _
    refine g_iconst X23 hx (0 : Int32) (hb hby at_201) rfl ?_
    show Goes p.tables e below (T23.setTop (mkF m 202 #[.val (.int p0), .val (.int p1), .val (.int p2), .val (.int p3), .val (.int v1), .val (.int v2), .val (.int v3), .val (.int v4), .val (.ref a5), .val (.ref g), .val (.int v16), .val (.int v19), .val (.int v20)] [(.int (0 : Int32)), (.ref g)])) _
    refine g_callV X23 hx hZ hown (by rw [hml]; rfl) e23 (K := "com/example/hold/hold/graph/Digraph") (hw _ (List.mem_of_getElem? (i := 75) rfl)) (hw _ (List.mem_of_getElem? (i := 76) rfl)) (hw _ (List.mem_of_getElem? (i := 78) rfl)) (hw _ (List.mem_of_getElem? (i := 77) rfl)) (hw _ (List.mem_of_getElem? (i := 35) rfl)) (hw _ (List.mem_of_getElem? (i := 79) rfl)) Eg (rmFE l Z a0 hw g (0 : Int32) T14.heap h0.size Zg s2 (List.take (own_k v4 + 1) (own_vs v1 (v1 + v2 + v3) v4)) 0 0 (by decide) (by rw [List.getElem?_take_of_lt (by omega)]; exact own_vs0 _ _ _) fg1 Ag1) [(.int (0 : Int32))] rfl [] rfl (lenOf pd_11 rfl) (hb hby at_202) (by decide) 0 (by decide) (by decide) (by first | decide | exact Nat.le_refl _) (by decide) (by decide) (fun v T25 L25 X25 hQ25 => ?_)
    obtain ⟨rfl, e25, rfl⟩ := hQ25
    have N26 := Fr.app N24 (Fr.nil h0.size)
    show Goes p.tables e below (T25.setTop (mkF m 205 #[.val (.int p0), .val (.int p1), .val (.int p2), .val (.int p3), .val (.int v1), .val (.int v2), .val (.int v3), .val (.int v4), .val (.ref a5), .val (.ref g), .val (.int v16), .val (.int v19), .val (.int v20)] [(.int (0 : Int32))])) _
    refine g_if_eq X25 hx (hb hby at_205) (by decide) (pc' := 210) (by decide) (fun _ => ?_) (fun q => absurd (by decide) q)
    show Goes p.tables e below (T25.setTop (mkF m 210 #[.val (.int p0), .val (.int p1), .val (.int p2), .val (.int p3), .val (.int v1), .val (.int v2), .val (.int v3), .val (.int v4), .val (.ref a5), .val (.ref g), .val (.int v16), .val (.int v19), .val (.int v20)] [])) _
    refine g_aload X25 hx (hb hby at_210) rfl rfl ?_
    show Goes p.tables e below (T25.setTop (mkF m 212 #[.val (.int p0), .val (.int p1), .val (.int p2), .val (.int p3), .val (.int v1), .val (.int v2), .val (.int v3), .val (.int v4), .val (.ref a5), .val (.ref g), .val (.int v16), .val (.int v19), .val (.int v20)] [(.ref g)])) _
    refine g_iconst X25 hx (0 : Int32) (hb hby at_212) rfl ?_
    show Goes p.tables e below (T25.setTop (mkF m 213 #[.val (.int p0), .val (.int p1), .val (.int p2), .val (.int p3), .val (.int v1), .val (.int v2), .val (.int v3), .val (.int v4), .val (.ref a5), .val (.ref g), .val (.int v16), .val (.int v19), .val (.int v20)] [(.int (0 : Int32)), (.ref g)])) _
    refine g_callV X25 hx hZ hown (by rw [hml]; rfl) e25 (K := "com/example/hold/hold/graph/Digraph") (hw _ (List.mem_of_getElem? (i := 80) rfl)) (hw _ (List.mem_of_getElem? (i := 81) rfl)) (hw _ (List.mem_of_getElem? (i := 83) rfl)) (hw _ (List.mem_of_getElem? (i := 82) rfl)) (hw _ (List.mem_of_getElem? (i := 35) rfl)) (hw _ (List.mem_of_getElem? (i := 84) rfl)) Eg (rmEE l Z a0 hw g (0 : Int32) T14.heap h0.size Zg s2 (List.take (own_k v4 + 1) (own_vs v1 (v1 + v2 + v3) v4)) 1 v1 (by decide) (by rw [List.getElem?_take_of_lt (by omega)]; exact own_vs1 _ _ _) fg1 Ag1) [(.int (0 : Int32))] rfl [] rfl (lenOf pd_12 rfl) (hb hby at_213) (by decide) 0 (by decide) (by decide) (by first | decide | exact Nat.le_refl _) (by decide) (by decide) (fun v T27 L27 X27 hQ27 => ?_)
    obtain ⟨rfl, e27, rfl⟩ := hQ27
    have N28 := Fr.app N26 (Fr.nil h0.size)
    show Goes p.tables e below (T27.setTop (mkF m 216 #[.val (.int p0), .val (.int p1), .val (.int p2), .val (.int p3), .val (.int v1), .val (.int v2), .val (.int v3), .val (.int v4), .val (.ref a5), .val (.ref g), .val (.int v16), .val (.int v19), .val (.int v20)] [(.int v1)])) _
    refine g_iload X27 hx (hb hby at_216) rfl ?_
    show Goes p.tables e below (T27.setTop (mkF m 218 #[.val (.int p0), .val (.int p1), .val (.int p2), .val (.int p3), .val (.int v1), .val (.int v2), .val (.int v3), .val (.int v4), .val (.ref a5), .val (.ref g), .val (.int v16), .val (.int v19), .val (.int v20)] [(.int v16), (.int v1)])) _
    have c218 : v1 = v16 := he0.symm
    refine g_icmp_eq X27 hx (hb hby at_218) (by decide) (pc' := 223) (by decide) (fun _ => ?_) (fun q => absurd c218 q)
    show Goes p.tables e below (T27.setTop (mkF m 223 #[.val (.int p0), .val (.int p1), .val (.int p2), .val (.int p3), .val (.int v1), .val (.int v2), .val (.int v3), .val (.int v4), .val (.ref a5), .val (.ref g), .val (.int v16), .val (.int v19), .val (.int v20)] [])) _
    refine g_aload X27 hx (hb hby at_223) rfl rfl ?_
    show Goes p.tables e below (T27.setTop (mkF m 225 #[.val (.int p0), .val (.int p1), .val (.int p2), .val (.int p3), .val (.int v1), .val (.int v2), .val (.int v3), .val (.int v4), .val (.ref a5), .val (.ref g), .val (.int v16), .val (.int v19), .val (.int v20)] [(.ref g)])) _
    refine g_iconst X27 hx (1 : Int32) (hb hby at_225) rfl ?_
    show Goes p.tables e below (T27.setTop (mkF m 226 #[.val (.int p0), .val (.int p1), .val (.int p2), .val (.int p3), .val (.int v1), .val (.int v2), .val (.int v3), .val (.int v4), .val (.ref a5), .val (.ref g), .val (.int v16), .val (.int v19), .val (.int v20)] [(.int (1 : Int32)), (.ref g)])) _
    refine g_callV X27 hx hZ hown (by rw [hml]; rfl) e27 (K := "com/example/hold/hold/graph/Digraph") (hw _ (List.mem_of_getElem? (i := 80) rfl)) (hw _ (List.mem_of_getElem? (i := 81) rfl)) (hw _ (List.mem_of_getElem? (i := 83) rfl)) (hw _ (List.mem_of_getElem? (i := 82) rfl)) (hw _ (List.mem_of_getElem? (i := 35) rfl)) (hw _ (List.mem_of_getElem? (i := 84) rfl)) Eg (rmEE l Z a0 hw g (1 : Int32) T14.heap h0.size Zg s2 (List.take (own_k v4 + 1) (own_vs v1 (v1 + v2 + v3) v4)) 2 (v1 + v2 + v3) (by decide) (by rw [List.getElem?_take_of_lt (by omega)]; exact own_vs2 _ _ _) fg1 Ag1) [(.int (1 : Int32))] rfl [] rfl (lenOf pd_12 rfl) (hb hby at_226) (by decide) 0 (by decide) (by decide) (by first | decide | exact Nat.le_refl _) (by decide) (by decide) (fun v T29 L29 X29 hQ29 => ?_)
    obtain ⟨rfl, e29, rfl⟩ := hQ29
    have N30 := Fr.app N28 (Fr.nil h0.size)
    show Goes p.tables e below (T29.setTop (mkF m 229 #[.val (.int p0), .val (.int p1), .val (.int p2), .val (.int p3), .val (.int v1), .val (.int v2), .val (.int v3), .val (.int v4), .val (.ref a5), .val (.ref g), .val (.int v16), .val (.int v19), .val (.int v20)] [(.int (v1 + v2 + v3))])) _
    refine g_iload X29 hx (hb hby at_229) rfl ?_
    show Goes p.tables e below (T29.setTop (mkF m 231 #[.val (.int p0), .val (.int p1), .val (.int p2), .val (.int p3), .val (.int v1), .val (.int v2), .val (.int v3), .val (.int v4), .val (.ref a5), .val (.ref g), .val (.int v16), .val (.int v19), .val (.int v20)] [(.int v16), (.int (v1 + v2 + v3))])) _
    refine g_iload X29 hx (hb hby at_231) rfl ?_
    show Goes p.tables e below (T29.setTop (mkF m 233 #[.val (.int p0), .val (.int p1), .val (.int p2), .val (.int p3), .val (.int v1), .val (.int v2), .val (.int v3), .val (.int v4), .val (.ref a5), .val (.ref g), .val (.int v16), .val (.int v19), .val (.int v20)] [(.int v19), (.int v16), (.int (v1 + v2 + v3))])) _
    refine g_iadd X29 hx (hb hby at_233) ?_
    show Goes p.tables e below (T29.setTop (mkF m 234 #[.val (.int p0), .val (.int p1), .val (.int p2), .val (.int p3), .val (.int v1), .val (.int v2), .val (.int v3), .val (.int v4), .val (.ref a5), .val (.ref g), .val (.int v16), .val (.int v19), .val (.int v20)] [(.int (v16 + v19)), (.int (v1 + v2 + v3))])) _
    have c234 : (v1 + v2 + v3) = (v16 + v19) := heE
    refine g_icmp_eq X29 hx (hb hby at_234) (by decide) (pc' := 239) (by decide) (fun _ => ?_) (fun q => absurd c234 q)
    show Goes p.tables e below (T29.setTop (mkF m 239 #[.val (.int p0), .val (.int p1), .val (.int p2), .val (.int p3), .val (.int v1), .val (.int v2), .val (.int v3), .val (.int v4), .val (.ref a5), .val (.ref g), .val (.int v16), .val (.int v19), .val (.int v20)] [])) _
    refine g_iload X29 hx (hb hby at_239) rfl ?_
    show Goes p.tables e below (T29.setTop (mkF m 241 #[.val (.int p0), .val (.int p1), .val (.int p2), .val (.int p3), .val (.int v1), .val (.int v2), .val (.int v3), .val (.int v4), .val (.ref a5), .val (.ref g), .val (.int v16), .val (.int v19), .val (.int v20)] [(.int v4)])) _
    refine g_if_eq X29 hx (hb hby at_241) (by decide) (pc' := 260) (by decide) (fun c241 => ?_) (fun c241 => ?_)
    · skip
      show Goes p.tables e below (T29.setTop (mkF m 260 #[.val (.int p0), .val (.int p1), .val (.int p2), .val (.int p3), .val (.int v1), .val (.int v2), .val (.int v3), .val (.int v4), .val (.ref a5), .val (.ref g), .val (.int v16), .val (.int v19), .val (.int v20)] [])) _
      refine g_iconst X29 hx (1 : Int32) (hb hby at_260) rfl ?_
      show Goes p.tables e below (T29.setTop (mkF m 261 #[.val (.int p0), .val (.int p1), .val (.int p2), .val (.int p3), .val (.int v1), .val (.int v2), .val (.int v3), .val (.int v4), .val (.ref a5), .val (.ref g), .val (.int v16), .val (.int v19), .val (.int v20)] [(.int (1 : Int32))])) _
      exact g_retZ X29 hx (hz := (by decide)) hret hlk (hb hby at_261) (by decide) (by decide) ⟨rfl, N30⟩
    · skip
      show Goes p.tables e below (T29.setTop (mkF m 244 #[.val (.int p0), .val (.int p1), .val (.int p2), .val (.int p3), .val (.int v1), .val (.int v2), .val (.int v3), .val (.int v4), .val (.ref a5), .val (.ref g), .val (.int v16), .val (.int v19), .val (.int v20)] [])) _
      refine g_aload X29 hx (hb hby at_244) rfl rfl ?_
      show Goes p.tables e below (T29.setTop (mkF m 246 #[.val (.int p0), .val (.int p1), .val (.int p2), .val (.int p3), .val (.int v1), .val (.int v2), .val (.int v3), .val (.int v4), .val (.ref a5), .val (.ref g), .val (.int v16), .val (.int v19), .val (.int v20)] [(.ref g)])) _
      refine g_iconst X29 hx (2 : Int32) (hb hby at_246) rfl ?_
      show Goes p.tables e below (T29.setTop (mkF m 247 #[.val (.int p0), .val (.int p1), .val (.int p2), .val (.int p3), .val (.int v1), .val (.int v2), .val (.int v3), .val (.int v4), .val (.ref a5), .val (.ref g), .val (.int v16), .val (.int v19), .val (.int v20)] [(.int (2 : Int32)), (.ref g)])) _
      refine g_callV X29 hx hZ hown (by rw [hml]; rfl) e29 (K := "com/example/hold/hold/graph/Digraph") (hw _ (List.mem_of_getElem? (i := 80) rfl)) (hw _ (List.mem_of_getElem? (i := 81) rfl)) (hw _ (List.mem_of_getElem? (i := 83) rfl)) (hw _ (List.mem_of_getElem? (i := 82) rfl)) (hw _ (List.mem_of_getElem? (i := 35) rfl)) (hw _ (List.mem_of_getElem? (i := 84) rfl)) Eg (rmEE l Z a0 hw g (2 : Int32) T14.heap h0.size Zg s2 (List.take (own_k v4 + 1) (own_vs v1 (v1 + v2 + v3) v4)) 3 (v1 + v2 + v3) (by decide) (by rw [List.getElem?_take_of_lt (by rw [own_k, if_neg c241]; decide)]; have q := own_vsk v1 (v1 + v2 + v3) v4; rw [own_k, if_neg c241] at q; exact q) fg1 Ag1) [(.int (2 : Int32))] rfl [] rfl (lenOf pd_12 rfl) (hb hby at_247) (by decide) 0 (by decide) (by decide) (by first | decide | exact Nat.le_refl _) (by decide) (by decide) (fun v T31 L31 X31 hQ31 => ?_)
      obtain ⟨rfl, e31, rfl⟩ := hQ31
      have N32 := Fr.app N30 (Fr.nil h0.size)
      show Goes p.tables e below (T31.setTop (mkF m 250 #[.val (.int p0), .val (.int p1), .val (.int p2), .val (.int p3), .val (.int v1), .val (.int v2), .val (.int v3), .val (.int v4), .val (.ref a5), .val (.ref g), .val (.int v16), .val (.int v19), .val (.int v20)] [(.int (v1 + v2 + v3))])) _
      refine g_iload X31 hx (hb hby at_250) rfl ?_
      show Goes p.tables e below (T31.setTop (mkF m 252 #[.val (.int p0), .val (.int p1), .val (.int p2), .val (.int p3), .val (.int v1), .val (.int v2), .val (.int v3), .val (.int v4), .val (.ref a5), .val (.ref g), .val (.int v16), .val (.int v19), .val (.int v20)] [(.int v16), (.int (v1 + v2 + v3))])) _
      refine g_iload X31 hx (hb hby at_252) rfl ?_
      show Goes p.tables e below (T31.setTop (mkF m 254 #[.val (.int p0), .val (.int p1), .val (.int p2), .val (.int p3), .val (.int v1), .val (.int v2), .val (.int v3), .val (.int v4), .val (.ref a5), .val (.ref g), .val (.int v16), .val (.int v19), .val (.int v20)] [(.int v19), (.int v16), (.int (v1 + v2 + v3))])) _
      refine g_iadd X31 hx (hb hby at_254) ?_
      show Goes p.tables e below (T31.setTop (mkF m 255 #[.val (.int p0), .val (.int p1), .val (.int p2), .val (.int p3), .val (.int v1), .val (.int v2), .val (.int v3), .val (.int v4), .val (.ref a5), .val (.ref g), .val (.int v16), .val (.int v19), .val (.int v20)] [(.int (v16 + v19)), (.int (v1 + v2 + v3))])) _
      have c255 : (v1 + v2 + v3) = (v16 + v19) := heE
      refine g_icmp_eq X31 hx (hb hby at_255) (by decide) (pc' := 260) (by decide) (fun _ => ?_) (fun q => absurd c255 q)
      show Goes p.tables e below (T31.setTop (mkF m 260 #[.val (.int p0), .val (.int p1), .val (.int p2), .val (.int p3), .val (.int v1), .val (.int v2), .val (.int v3), .val (.int v4), .val (.ref a5), .val (.ref g), .val (.int v16), .val (.int v19), .val (.int v20)] [])) _
      refine g_iconst X31 hx (1 : Int32) (hb hby at_260) rfl ?_
      show Goes p.tables e below (T31.setTop (mkF m 261 #[.val (.int p0), .val (.int p1), .val (.int p2), .val (.int p3), .val (.int v1), .val (.int v2), .val (.int v3), .val (.int v4), .val (.ref a5), .val (.ref g), .val (.int v16), .val (.int v19), .val (.int v20)] [(.int (1 : Int32))])) _
      exact g_retZ X31 hx (hz := (by decide)) hret hlk (hb hby at_261) (by decide) (by decide) ⟨rfl, N32⟩
  have J103 : ∀ (T : State) (locs : List Loc), Stand p l e room_1 s m #[(.int p0), (.int p1), (.int p2), (.int p3)] below meth c T locs (0 + 1 + 2) (0 + 4 + 33) → Fr h0.size locs → h0.size ≤ T.heap.size → Bd Z T.heap a5 sa ta (([(.int (0 : Int32)), (.int (0 : Int32)), (.int (0 : Int32)), (.int (0 : Int32)), (.int (0 : Int32)), (.int (0 : Int32)), (.int (0 : Int32)), (.int (0 : Int32)), (.int (0 : Int32)), (.int (0 : Int32)), (.int (0 : Int32)), (.int (0 : Int32)), (.int (0 : Int32)), (.int (0 : Int32)), (.int (0 : Int32)), (.int (0 : Int32)), (.int (0 : Int32))] : List Value).set 1 (.int v1)) (0 + 1) (v1 + v2 + v3) → Goes p.tables e below (T.setTop (mkF m 103 #[.val (.int p0), .val (.int p1), .val (.int p2), .val (.int p3), .val (.int v1), .val (.int v2), .val (.int v3), .val (.int v4), .val (.ref a5), .unset, .unset, .unset, .unset] [])) (Fin s 24 192 (fun v h L => v = some (.int 1) ∧ Fr h0.size L)) := by
    intro T locs X9 N9 Z9 hB9
    show Goes p.tables e below (T.setTop (mkF m 103 #[.val (.int p0), .val (.int p1), .val (.int p2), .val (.int p3), .val (.int v1), .val (.int v2), .val (.int v3), .val (.int v4), .val (.ref a5), .unset, .unset, .unset, .unset] [])) _
    refine g_aload X9 hx (hb hby at_103) rfl rfl ?_
    show Goes p.tables e below (T.setTop (mkF m 105 #[.val (.int p0), .val (.int p1), .val (.int p2), .val (.int p3), .val (.int v1), .val (.int v2), .val (.int v3), .val (.int v4), .val (.ref a5), .unset, .unset, .unset, .unset] [(.ref a5)])) _
    refine g_callV X9 hx hZ hown (by rw [hml]; rfl) rfl (K := "com/example/hold/hold/graph/Digraph$Builder") (hw _ (List.mem_of_getElem? (i := 21) rfl)) (hw _ (List.mem_of_getElem? (i := 22) rfl)) (hw _ (List.mem_of_getElem? (i := 24) rfl)) (hw _ (List.mem_of_getElem? (i := 23) rfl)) (hw _ (List.mem_of_getElem? (i := 2) rfl)) (hw _ (List.mem_of_getElem? (i := 25) rfl)) hB9.1 (rmEV l Z a0 hw a5 T.heap h0.size Z9 sa ta (([(.int (0 : Int32)), (.int (0 : Int32)), (.int (0 : Int32)), (.int (0 : Int32)), (.int (0 : Int32)), (.int (0 : Int32)), (.int (0 : Int32)), (.int (0 : Int32)), (.int (0 : Int32)), (.int (0 : Int32)), (.int (0 : Int32)), (.int (0 : Int32)), (.int (0 : Int32)), (.int (0 : Int32)), (.int (0 : Int32)), (.int (0 : Int32)), (.int (0 : Int32))] : List Value).set 1 (.int v1)) (0 + 1) (v1 + v2 + v3) hB9 ge6 gs gt ns nt nst 1 (by decide) (by decide) rfl) [] rfl [] rfl (lenOf pd_4 rfl) (hb hby at_105) (by decide) 0 (by decide) (by decide) (by first | decide | exact Nat.le_refl _) (by decide) (by decide) (fun v T33 L33 X33 hQ33 => ?_)
    obtain ⟨rfl, Nc33, hB33⟩ := hQ33
    have N34 := Fr.app N9 Nc33
    have Zb33 : h0.size ≤ T33.heap.size := Nat.le_trans ge6 (Nat.le_of_lt hB33.1.lt)
    show Goes p.tables e below (T33.setTop (mkF m 108 #[.val (.int p0), .val (.int p1), .val (.int p2), .val (.int p3), .val (.int v1), .val (.int v2), .val (.int v3), .val (.int v4), .val (.ref a5), .unset, .unset, .unset, .unset] [])) _
    refine g_iload X33 hx (hb hby at_108) rfl ?_
    refine g_if_eq X33 hx (hb hby at_110) (by decide) (pc' := 118) (by decide) (fun c110 => ?_) (fun c110 => ?_)
    · skip
      have hC : Bd Z T33.heap a5 sa ta (own_vs v1 (v1 + v2 + v3) v4) (Int32.ofNat (own_k v4)) (v1 + v2 + v3) := by rw [own_vs, if_pos c110, own_k, if_pos c110]; exact hB33
      exact J118 _ _ X33 N34 Zb33 hC
    · skip
      show Goes p.tables e below (T33.setTop (mkF m 113 #[.val (.int p0), .val (.int p1), .val (.int p2), .val (.int p3), .val (.int v1), .val (.int v2), .val (.int v3), .val (.int v4), .val (.ref a5), .unset, .unset, .unset, .unset] [])) _
      refine g_aload X33 hx (hb hby at_113) rfl rfl ?_
      show Goes p.tables e below (T33.setTop (mkF m 115 #[.val (.int p0), .val (.int p1), .val (.int p2), .val (.int p3), .val (.int v1), .val (.int v2), .val (.int v3), .val (.int v4), .val (.ref a5), .unset, .unset, .unset, .unset] [(.ref a5)])) _
      refine g_callV X33 hx hZ hown (by rw [hml]; rfl) rfl (K := "com/example/hold/hold/graph/Digraph$Builder") (hw _ (List.mem_of_getElem? (i := 21) rfl)) (hw _ (List.mem_of_getElem? (i := 22) rfl)) (hw _ (List.mem_of_getElem? (i := 24) rfl)) (hw _ (List.mem_of_getElem? (i := 23) rfl)) (hw _ (List.mem_of_getElem? (i := 2) rfl)) (hw _ (List.mem_of_getElem? (i := 25) rfl)) hB33.1 (rmEV l Z a0 hw a5 T33.heap h0.size Zb33 sa ta ((([(.int (0 : Int32)), (.int (0 : Int32)), (.int (0 : Int32)), (.int (0 : Int32)), (.int (0 : Int32)), (.int (0 : Int32)), (.int (0 : Int32)), (.int (0 : Int32)), (.int (0 : Int32)), (.int (0 : Int32)), (.int (0 : Int32)), (.int (0 : Int32)), (.int (0 : Int32)), (.int (0 : Int32)), (.int (0 : Int32)), (.int (0 : Int32)), (.int (0 : Int32))] : List Value).set 1 (.int v1)).set 2 (.int (v1 + v2 + v3))) (0 + 1 + 1) (v1 + v2 + v3) hB33 ge6 gs gt ns nt nst 2 (by decide) (by decide) rfl) [] rfl [] rfl (lenOf pd_4 rfl) (hb hby at_115) (by decide) 0 (by decide) (by decide) (by first | decide | exact Nat.le_refl _) (by decide) (by decide) (fun v T35 L35 X35 hQ35 => ?_)
      obtain ⟨rfl, Nc35, hB35⟩ := hQ35
      have N36 := Fr.app N34 Nc35
      have Zb35 : h0.size ≤ T35.heap.size := Nat.le_trans ge6 (Nat.le_of_lt hB35.1.lt)
      have hC : Bd Z T35.heap a5 sa ta (own_vs v1 (v1 + v2 + v3) v4) (Int32.ofNat (own_k v4)) (v1 + v2 + v3) := by rw [own_vs, if_neg c110, own_k, if_neg c110]; exact hB35
      exact J118 _ _ X35 N36 Zb35 hC
  have J91 : ∀ (T : State) (locs : List Loc), Stand p l e room_1 s m #[(.int p0), (.int p1), (.int p2), (.int p3)] below meth c T locs (0 + 1 + 2) (0 + 4 + 33) → Fr h0.size locs → h0.size ≤ T.heap.size → Bd Z T.heap a5 sa ta (([(.int (0 : Int32)), (.int (0 : Int32)), (.int (0 : Int32)), (.int (0 : Int32)), (.int (0 : Int32)), (.int (0 : Int32)), (.int (0 : Int32)), (.int (0 : Int32)), (.int (0 : Int32)), (.int (0 : Int32)), (.int (0 : Int32)), (.int (0 : Int32)), (.int (0 : Int32)), (.int (0 : Int32)), (.int (0 : Int32)), (.int (0 : Int32)), (.int (0 : Int32))] : List Value).set 1 (.int v1)) (0 + 1) (v1 + v2) → Goes p.tables e below (T.setTop (mkF m 91 #[.val (.int p0), .val (.int p1), .val (.int p2), .val (.int p3), .val (.int v1), .val (.int v2), .val (.int v3), .val (.int v4), .val (.ref a5), .unset, .unset, .unset, .unset] [])) (Fin s 24 192 (fun v h L => v = some (.int 1) ∧ Fr h0.size L)) := by
    intro T locs X9 N9 Z9 hB9
    show Goes p.tables e below (T.setTop (mkF m 91 #[.val (.int p0), .val (.int p1), .val (.int p2), .val (.int p3), .val (.int v1), .val (.int v2), .val (.int v3), .val (.int v4), .val (.ref a5), .unset, .unset, .unset, .unset] [])) _
    refine g_iload X9 hx (hb hby at_91) rfl ?_
    refine g_if_eq X9 hx (hb hby at_93) (by decide) (pc' := 103) (by decide) (fun c93 => ?_) (fun c93 => ?_)
    · skip
      have hC : Bd Z T.heap a5 sa ta (([(.int (0 : Int32)), (.int (0 : Int32)), (.int (0 : Int32)), (.int (0 : Int32)), (.int (0 : Int32)), (.int (0 : Int32)), (.int (0 : Int32)), (.int (0 : Int32)), (.int (0 : Int32)), (.int (0 : Int32)), (.int (0 : Int32)), (.int (0 : Int32)), (.int (0 : Int32)), (.int (0 : Int32)), (.int (0 : Int32)), (.int (0 : Int32)), (.int (0 : Int32))] : List Value).set 1 (.int v1)) (0 + 1) (v1 + v2 + v3) := by have z : (v1 + v2) = (v1 + v2 + v3) := (by rw [c93, Int32.add_zero]); rw [← z]; exact hB9
      exact J103 _ _ X9 N9 Z9 hC
    · skip
      show Goes p.tables e below (T.setTop (mkF m 96 #[.val (.int p0), .val (.int p1), .val (.int p2), .val (.int p3), .val (.int v1), .val (.int v2), .val (.int v3), .val (.int v4), .val (.ref a5), .unset, .unset, .unset, .unset] [])) _
      obtain ⟨j9, hj9, hj8⟩ := own_sum1 ov1 ov2
      refine g_aload X9 hx (hb hby at_96) rfl rfl ?_
      show Goes p.tables e below (T.setTop (mkF m 98 #[.val (.int p0), .val (.int p1), .val (.int p2), .val (.int p3), .val (.int v1), .val (.int v2), .val (.int v3), .val (.int v4), .val (.ref a5), .unset, .unset, .unset, .unset] [(.ref a5)])) _
      refine g_iloadN X9 hx (hb hby at_98) rfl ?_
      show Goes p.tables e below (T.setTop (mkF m 99 #[.val (.int p0), .val (.int p1), .val (.int p2), .val (.int p3), .val (.int v1), .val (.int v2), .val (.int v3), .val (.int v4), .val (.ref a5), .unset, .unset, .unset, .unset] [(.int p2), (.ref a5)])) _
      refine g_callV X9 hx hZ hown (by rw [hml]; rfl) rfl (K := "com/example/hold/hold/graph/Digraph$Builder") (hw _ (List.mem_of_getElem? (i := 14) rfl)) (hw _ (List.mem_of_getElem? (i := 15) rfl)) (hw _ (List.mem_of_getElem? (i := 17) rfl)) (hw _ (List.mem_of_getElem? (i := 16) rfl)) (hw _ (List.mem_of_getElem? (i := 2) rfl)) (hw _ (List.mem_of_getElem? (i := 18) rfl)) hB9.1 (rmAE l Z a0 hw a5 p2 T.heap h0.size Z9 sa ta (([(.int (0 : Int32)), (.int (0 : Int32)), (.int (0 : Int32)), (.int (0 : Int32)), (.int (0 : Int32)), (.int (0 : Int32)), (.int (0 : Int32)), (.int (0 : Int32)), (.int (0 : Int32)), (.int (0 : Int32)), (.int (0 : Int32)), (.int (0 : Int32)), (.int (0 : Int32)), (.int (0 : Int32)), (.int (0 : Int32)), (.int (0 : Int32)), (.int (0 : Int32))] : List Value).set 1 (.int v1)) (0 + 1) (v1 + v2) hB9 ge6 gs gt ns nt nst j9 hj9 hj8) [(.int p2)] rfl [] rfl (lenOf pd_3 rfl) (hb hby at_99) (by decide) 0 (by decide) (by decide) (by first | decide | exact Nat.le_refl _) (by decide) (by decide) (fun v T37 L37 X37 hQ37 => ?_)
      obtain ⟨rfl, Nc37, hB37⟩ := hQ37
      have N38 := Fr.app N9 Nc37
      have Zb37 : h0.size ≤ T37.heap.size := Nat.le_trans ge6 (Nat.le_of_lt hB37.1.lt)
      show Goes p.tables e below (T37.setTop (mkF m 102 #[.val (.int p0), .val (.int p1), .val (.int p2), .val (.int p3), .val (.int v1), .val (.int v2), .val (.int v3), .val (.int v4), .val (.ref a5), .unset, .unset, .unset, .unset] [(.int (v1 + v2))])) _
      refine g_pop X37 hx (hb hby at_102) rfl ?_
      have hC : Bd Z T37.heap a5 sa ta (([(.int (0 : Int32)), (.int (0 : Int32)), (.int (0 : Int32)), (.int (0 : Int32)), (.int (0 : Int32)), (.int (0 : Int32)), (.int (0 : Int32)), (.int (0 : Int32)), (.int (0 : Int32)), (.int (0 : Int32)), (.int (0 : Int32)), (.int (0 : Int32)), (.int (0 : Int32)), (.int (0 : Int32)), (.int (0 : Int32)), (.int (0 : Int32)), (.int (0 : Int32))] : List Value).set 1 (.int v1)) (0 + 1) (v1 + v2 + v3) := by rw [own_nn ov3 c93]; exact hB37
      exact J103 _ _ X37 N38 Zb37 hC
  have J74 : ∀ (T : State) (locs : List Loc), Stand p l e room_1 s m #[(.int p0), (.int p1), (.int p2), (.int p3)] below meth c T locs (0 + 1 + 2) (0 + 4 + 33) → Fr h0.size locs → h0.size ≤ T.heap.size → Bd Z T.heap a5 sa ta [(.int (0 : Int32)), (.int (0 : Int32)), (.int (0 : Int32)), (.int (0 : Int32)), (.int (0 : Int32)), (.int (0 : Int32)), (.int (0 : Int32)), (.int (0 : Int32)), (.int (0 : Int32)), (.int (0 : Int32)), (.int (0 : Int32)), (.int (0 : Int32)), (.int (0 : Int32)), (.int (0 : Int32)), (.int (0 : Int32)), (.int (0 : Int32)), (.int (0 : Int32))] 0 v1 → Goes p.tables e below (T.setTop (mkF m 74 #[.val (.int p0), .val (.int p1), .val (.int p2), .val (.int p3), .val (.int v1), .val (.int v2), .val (.int v3), .val (.int v4), .val (.ref a5), .unset, .unset, .unset, .unset] [])) (Fin s 24 192 (fun v h L => v = some (.int 1) ∧ Fr h0.size L)) := by
    intro T locs X9 N9 Z9 hB9
    show Goes p.tables e below (T.setTop (mkF m 74 #[.val (.int p0), .val (.int p1), .val (.int p2), .val (.int p3), .val (.int v1), .val (.int v2), .val (.int v3), .val (.int v4), .val (.ref a5), .unset, .unset, .unset, .unset] [])) _
    refine g_aload X9 hx (hb hby at_74) rfl rfl ?_
    show Goes p.tables e below (T.setTop (mkF m 76 #[.val (.int p0), .val (.int p1), .val (.int p2), .val (.int p3), .val (.int v1), .val (.int v2), .val (.int v3), .val (.int v4), .val (.ref a5), .unset, .unset, .unset, .unset] [(.ref a5)])) _
    refine g_callV X9 hx hZ hown (by rw [hml]; rfl) rfl (K := "com/example/hold/hold/graph/Digraph$Builder") (hw _ (List.mem_of_getElem? (i := 21) rfl)) (hw _ (List.mem_of_getElem? (i := 22) rfl)) (hw _ (List.mem_of_getElem? (i := 24) rfl)) (hw _ (List.mem_of_getElem? (i := 23) rfl)) (hw _ (List.mem_of_getElem? (i := 2) rfl)) (hw _ (List.mem_of_getElem? (i := 25) rfl)) hB9.1 (rmEV l Z a0 hw a5 T.heap h0.size Z9 sa ta [(.int (0 : Int32)), (.int (0 : Int32)), (.int (0 : Int32)), (.int (0 : Int32)), (.int (0 : Int32)), (.int (0 : Int32)), (.int (0 : Int32)), (.int (0 : Int32)), (.int (0 : Int32)), (.int (0 : Int32)), (.int (0 : Int32)), (.int (0 : Int32)), (.int (0 : Int32)), (.int (0 : Int32)), (.int (0 : Int32)), (.int (0 : Int32)), (.int (0 : Int32))] 0 v1 hB9 ge6 gs gt ns nt nst 0 (by decide) (by decide) rfl) [] rfl [] rfl (lenOf pd_4 rfl) (hb hby at_76) (by decide) 0 (by decide) (by decide) (by first | decide | exact Nat.le_refl _) (by decide) (by decide) (fun v T39 L39 X39 hQ39 => ?_)
    obtain ⟨rfl, Nc39, hB39⟩ := hQ39
    have N40 := Fr.app N9 Nc39
    have Zb39 : h0.size ≤ T39.heap.size := Nat.le_trans ge6 (Nat.le_of_lt hB39.1.lt)
    show Goes p.tables e below (T39.setTop (mkF m 79 #[.val (.int p0), .val (.int p1), .val (.int p2), .val (.int p3), .val (.int v1), .val (.int v2), .val (.int v3), .val (.int v4), .val (.ref a5), .unset, .unset, .unset, .unset] [])) _
    refine g_iload X39 hx (hb hby at_79) rfl ?_
    refine g_if_eq X39 hx (hb hby at_81) (by decide) (pc' := 91) (by decide) (fun c81 => ?_) (fun c81 => ?_)
    · skip
      have hC : Bd Z T39.heap a5 sa ta (([(.int (0 : Int32)), (.int (0 : Int32)), (.int (0 : Int32)), (.int (0 : Int32)), (.int (0 : Int32)), (.int (0 : Int32)), (.int (0 : Int32)), (.int (0 : Int32)), (.int (0 : Int32)), (.int (0 : Int32)), (.int (0 : Int32)), (.int (0 : Int32)), (.int (0 : Int32)), (.int (0 : Int32)), (.int (0 : Int32)), (.int (0 : Int32)), (.int (0 : Int32))] : List Value).set 1 (.int v1)) (0 + 1) (v1 + v2) := by have z : v1 = (v1 + v2) := (by rw [c81, Int32.add_zero]); rw [← z]; exact hB39
      exact J91 _ _ X39 N40 Zb39 hC
    · skip
      show Goes p.tables e below (T39.setTop (mkF m 84 #[.val (.int p0), .val (.int p1), .val (.int p2), .val (.int p3), .val (.int v1), .val (.int v2), .val (.int v3), .val (.int v4), .val (.ref a5), .unset, .unset, .unset, .unset] [])) _
      obtain ⟨j9, hj9, hj8⟩ := own_sum0 ov1
      refine g_aload X39 hx (hb hby at_84) rfl rfl ?_
      show Goes p.tables e below (T39.setTop (mkF m 86 #[.val (.int p0), .val (.int p1), .val (.int p2), .val (.int p3), .val (.int v1), .val (.int v2), .val (.int v3), .val (.int v4), .val (.ref a5), .unset, .unset, .unset, .unset] [(.ref a5)])) _
      refine g_iloadN X39 hx (hb hby at_86) rfl ?_
      show Goes p.tables e below (T39.setTop (mkF m 87 #[.val (.int p0), .val (.int p1), .val (.int p2), .val (.int p3), .val (.int v1), .val (.int v2), .val (.int v3), .val (.int v4), .val (.ref a5), .unset, .unset, .unset, .unset] [(.int p1), (.ref a5)])) _
      refine g_callV X39 hx hZ hown (by rw [hml]; rfl) rfl (K := "com/example/hold/hold/graph/Digraph$Builder") (hw _ (List.mem_of_getElem? (i := 14) rfl)) (hw _ (List.mem_of_getElem? (i := 15) rfl)) (hw _ (List.mem_of_getElem? (i := 17) rfl)) (hw _ (List.mem_of_getElem? (i := 16) rfl)) (hw _ (List.mem_of_getElem? (i := 2) rfl)) (hw _ (List.mem_of_getElem? (i := 18) rfl)) hB39.1 (rmAE l Z a0 hw a5 p1 T39.heap h0.size Zb39 sa ta (([(.int (0 : Int32)), (.int (0 : Int32)), (.int (0 : Int32)), (.int (0 : Int32)), (.int (0 : Int32)), (.int (0 : Int32)), (.int (0 : Int32)), (.int (0 : Int32)), (.int (0 : Int32)), (.int (0 : Int32)), (.int (0 : Int32)), (.int (0 : Int32)), (.int (0 : Int32)), (.int (0 : Int32)), (.int (0 : Int32)), (.int (0 : Int32)), (.int (0 : Int32))] : List Value).set 1 (.int v1)) (0 + 1) v1 hB39 ge6 gs gt ns nt nst j9 hj9 hj8) [(.int p1)] rfl [] rfl (lenOf pd_3 rfl) (hb hby at_87) (by decide) 0 (by decide) (by decide) (by first | decide | exact Nat.le_refl _) (by decide) (by decide) (fun v T41 L41 X41 hQ41 => ?_)
      obtain ⟨rfl, Nc41, hB41⟩ := hQ41
      have N42 := Fr.app N40 Nc41
      have Zb41 : h0.size ≤ T41.heap.size := Nat.le_trans ge6 (Nat.le_of_lt hB41.1.lt)
      show Goes p.tables e below (T41.setTop (mkF m 90 #[.val (.int p0), .val (.int p1), .val (.int p2), .val (.int p3), .val (.int v1), .val (.int v2), .val (.int v3), .val (.int v4), .val (.ref a5), .unset, .unset, .unset, .unset] [(.int v1)])) _
      refine g_pop X41 hx (hb hby at_90) rfl ?_
      have hC : Bd Z T41.heap a5 sa ta (([(.int (0 : Int32)), (.int (0 : Int32)), (.int (0 : Int32)), (.int (0 : Int32)), (.int (0 : Int32)), (.int (0 : Int32)), (.int (0 : Int32)), (.int (0 : Int32)), (.int (0 : Int32)), (.int (0 : Int32)), (.int (0 : Int32)), (.int (0 : Int32)), (.int (0 : Int32)), (.int (0 : Int32)), (.int (0 : Int32)), (.int (0 : Int32)), (.int (0 : Int32))] : List Value).set 1 (.int v1)) (0 + 1) (v1 + v2) := by rw [own_nn ov2 c81]; exact hB41
      exact J91 _ _ X41 N42 Zb41 hC
  show Goes p.tables e below (T12.setTop (mkF m 62 #[.val (.int p0), .val (.int p1), .val (.int p2), .val (.int p3), .val (.int v1), .val (.int v2), .val (.int v3), .val (.int v4), .val (.ref a5), .unset, .unset, .unset, .unset] [])) _
  refine g_iload X12 hx (hb hby at_62) rfl ?_
  refine g_if_eq X12 hx (hb hby at_64) (by decide) (pc' := 74) (by decide) (fun c64 => ?_) (fun c64 => ?_)
  · skip
    have hC : Bd Z T12.heap a5 sa ta [(.int (0 : Int32)), (.int (0 : Int32)), (.int (0 : Int32)), (.int (0 : Int32)), (.int (0 : Int32)), (.int (0 : Int32)), (.int (0 : Int32)), (.int (0 : Int32)), (.int (0 : Int32)), (.int (0 : Int32)), (.int (0 : Int32)), (.int (0 : Int32)), (.int (0 : Int32)), (.int (0 : Int32)), (.int (0 : Int32)), (.int (0 : Int32)), (.int (0 : Int32))] 0 v1 := by have z : 0 = v1 := (by rw [c64]); rw [← z]; exact hB12
    exact J74 _ _ X12 N13 Zb12 hC
  · skip
    show Goes p.tables e below (T12.setTop (mkF m 67 #[.val (.int p0), .val (.int p1), .val (.int p2), .val (.int p3), .val (.int v1), .val (.int v2), .val (.int v3), .val (.int v4), .val (.ref a5), .unset, .unset, .unset, .unset] [])) _
    obtain ⟨j9, hj9, hj8⟩ := (⟨0, rfl, by decide⟩ : ∃ j : Nat, (0 : Int32).toInt = j ∧ j < 16)
    refine g_aload X12 hx (hb hby at_67) rfl rfl ?_
    show Goes p.tables e below (T12.setTop (mkF m 69 #[.val (.int p0), .val (.int p1), .val (.int p2), .val (.int p3), .val (.int v1), .val (.int v2), .val (.int v3), .val (.int v4), .val (.ref a5), .unset, .unset, .unset, .unset] [(.ref a5)])) _
    refine g_iloadN X12 hx (hb hby at_69) rfl ?_
    show Goes p.tables e below (T12.setTop (mkF m 70 #[.val (.int p0), .val (.int p1), .val (.int p2), .val (.int p3), .val (.int v1), .val (.int v2), .val (.int v3), .val (.int v4), .val (.ref a5), .unset, .unset, .unset, .unset] [(.int p0), (.ref a5)])) _
    refine g_callV X12 hx hZ hown (by rw [hml]; rfl) rfl (K := "com/example/hold/hold/graph/Digraph$Builder") (hw _ (List.mem_of_getElem? (i := 14) rfl)) (hw _ (List.mem_of_getElem? (i := 15) rfl)) (hw _ (List.mem_of_getElem? (i := 17) rfl)) (hw _ (List.mem_of_getElem? (i := 16) rfl)) (hw _ (List.mem_of_getElem? (i := 2) rfl)) (hw _ (List.mem_of_getElem? (i := 18) rfl)) hB12.1 (rmAE l Z a0 hw a5 p0 T12.heap h0.size Zb12 sa ta [(.int (0 : Int32)), (.int (0 : Int32)), (.int (0 : Int32)), (.int (0 : Int32)), (.int (0 : Int32)), (.int (0 : Int32)), (.int (0 : Int32)), (.int (0 : Int32)), (.int (0 : Int32)), (.int (0 : Int32)), (.int (0 : Int32)), (.int (0 : Int32)), (.int (0 : Int32)), (.int (0 : Int32)), (.int (0 : Int32)), (.int (0 : Int32)), (.int (0 : Int32))] 0 0 hB12 ge6 gs gt ns nt nst j9 hj9 hj8) [(.int p0)] rfl [] rfl (lenOf pd_3 rfl) (hb hby at_70) (by decide) 0 (by decide) (by decide) (by first | decide | exact Nat.le_refl _) (by decide) (by decide) (fun v T43 L43 X43 hQ43 => ?_)
    obtain ⟨rfl, Nc43, hB43⟩ := hQ43
    have N44 := Fr.app N13 Nc43
    have Zb43 : h0.size ≤ T43.heap.size := Nat.le_trans ge6 (Nat.le_of_lt hB43.1.lt)
    show Goes p.tables e below (T43.setTop (mkF m 73 #[.val (.int p0), .val (.int p1), .val (.int p2), .val (.int p3), .val (.int v1), .val (.int v2), .val (.int v3), .val (.int v4), .val (.ref a5), .unset, .unset, .unset, .unset] [(.int 0)])) _
    refine g_pop X43 hx (hb hby at_73) rfl ?_
    have hC : Bd Z T43.heap a5 sa ta [(.int (0 : Int32)), (.int (0 : Int32)), (.int (0 : Int32)), (.int (0 : Int32)), (.int (0 : Int32)), (.int (0 : Int32)), (.int (0 : Int32)), (.int (0 : Int32)), (.int (0 : Int32)), (.int (0 : Int32)), (.int (0 : Int32)), (.int (0 : Int32)), (.int (0 : Int32)), (.int (0 : Int32)), (.int (0 : Int32)), (.int (0 : Int32)), (.int (0 : Int32))] 0 v1 := by rw [own_nn ov1 c64]; exact hB43
    exact J74 _ _ X43 N44 Zb43 hC
set_option maxRecDepth 65536 in
set_option maxHeartbeats 40000000 in
theorem comes_1 {Post : Tables → Env → Array Value → State → Outcome → State → Prop} (hpost : ∀ tb e args s v u, (limb_1_1.after args s (.returned v) u = true ∧ limb_1_2.after args s (.returned v) u = true ∧ True) → FrameEnd s (.returned v) u (Jvm.fieldLocs frame_1_writes args s ++ Jvm.arrayLocs frame_1_arrays args s ++ Jvm.staticLocs frame_1_statics s) 24 192 → Post tb e args s (.returned v) u) :
    ArmFor flags0 classFile x code maxLocals ret World_1 tables_1 room_1 Calls_1 rest_1 Pre_1 Post := by
  intro l hfl _ _ p e ha hc hk s m args below hf hA hF happ hP
  obtain ⟨hcalls, hrest, hpre⟩ := hP
  obtain ⟨-, -, -, hnamed, -, -, -, hat⟩ := (Spec.applies_iff hf).mp happ
  obtain ⟨hg, hn⟩ := and_e (Cond.before_iff.mp (show (Jvm.Cond.and given_1 narrow_1).before args s = true from hpre))
  obtain ⟨h1, hg1⟩ := and_e hg
  obtain ⟨w0, w1, w2, w3, rfl⟩ : ∃ w0 w1 w2 w3 : Value, args = #[w0, w1, w2, w3] := by
    have hs : args.size = 4 := by simpa [Cond.value, given_1] using h1
    obtain ⟨L⟩ := args
    match L, hs with
    | [w0, w1, w2, w3], _ => exact ⟨w0, w1, w2, w3, rfl⟩
  have hw := fun d (hd : d ∈ tables_1) => atoms_spec (ws := Jvm.Cond.code x code maxLocals ret :: tables_1) hat d (List.mem_cons_of_mem _ hd)
  obtain ⟨ha0, hg2⟩ := and_e hg1
  obtain ⟨i0, ei0⟩ := is_v ha0
  obtain rfl : w0 = (.int i0) := Option.some.inj ei0
  obtain ⟨ha1, hg3⟩ := and_e hg2
  obtain ⟨i1, ei1⟩ := is_v ha1
  obtain rfl : w1 = (.int i1) := Option.some.inj ei1
  obtain ⟨ha2, hg4⟩ := and_e hg3
  obtain ⟨i2, ei2⟩ := is_v ha2
  obtain rfl : w2 = (.int i2) := Option.some.inj ei2
  obtain ⟨i3, ei3⟩ := is_v hg4
  obtain rfl : w3 = (.int i3) := Option.some.inj ei3
  obtain ⟨n, o, h1, h2, h3, _, L, rfl, ⟨rfl, N⟩, hq⟩ := law l s _ hw tables_1 i0 i1 i2 i3 s.heap  p e ha hc hk s m _ below hf ((Spec.applies_iff_loose hf).mp happ).1 ⟨rfl, State.Warmed39.refl s, rfl⟩ trivial
  refine ⟨n, _, h1, h2, h3, hpost _ _ _ _ _ _ ⟨Cond.after_iff.mpr rfl, Cond.after_iff.mpr (eq_i res_at (Term.int_eval (1)) rfl), trivial⟩ ⟨hq.1, hq.2.1, (hq.2.2.sift fun y hy => Or.inr (N y hy)).mono (by decide) (by decide)⟩⟩
theorem main_1_1 : Claimed_1_1 := comes_1 fun _ _ _ _ _ _ h hF => ⟨h.1, hF⟩
theorem main_1_2 : Claimed_1_2 := comes_1 fun _ _ _ _ _ _ h hF => ⟨h.2.1, hF⟩
end Jvm.Pilot.@@N@@
namespace Jvm.Pilot.@@N@@
open Jvm Jvm.ClassFile Sem Op Lib Jvm.Free Jvm.Stand Jvm.Pilot.@@N@@.Jvm.D
/-! MADE BY PROGRAM (witnessworld.py) out of the Statement's table words and the real class files: 13 classes; the members and pool entries that the words name. The judged class is class 1, her method 1. -/
namespace start1
open Jvm.ClassFile
def u (s : String) : CpInfo := .utf8 (stringToUtf16 s)
/-- a pool by its gaps: so many unusable entries, then the entry; so many at the end -/
def gap : Nat → List CpInfo → List CpInfo
  | 0, r => r
  | n + 1, r => .unusable :: gap n r
def poolList (es : List (Nat × CpInfo)) (last : Nat) : List CpInfo := es.foldr (fun e r => gap e.1 (e.2 :: r)) (gap last [])
def pool (es : List (Nat × CpInfo)) (last : Nat) : Array CpInfo := ⟨poolList es last⟩
def fileOf (pool : Array CpInfo) (this : Nat) (attrs : Array Attribute := #[]) (ms : Array MethodInfo := #[]) (fl : Nat := 33) (sup : Nat := 0) (ifs : Array Nat := #[]) (fds : Array FieldInfo := #[]) : ClassFile where
  minorVersion := 0
  majorVersion := 65
  constantPool := pool
  accessFlags := fl
  thisClass := this
  superClass := sup
  interfaces := ifs
  fields := fds
  methods := ms
  attributes := attrs
def plain (name : String) (sup : Option ClassId) : Class where
  name := name
  kind := .ordinary
  loader := none
  accessFlags := 33
  super := sup
  interfaces := #[]
  cf := none
  fields := #[]
  methods := #[]
  instanceTypes := #[]
  staticTypes := #[]
  resolved := #[]
  callSites := []
  init := .initialized
  statics := none
  mirror := none

def pool0 : Array CpInfo := pool [(5, u "<init>"), (0, u "()V"), (1, .class_ 10), (1, u "java/lang/Object"), (85, u "clone"), (0, u "()Ljava/lang/Object;")] 26

def k0c0 : Code := { maxStack := 0, maxLocals := 1, code := object_method_1_code, exceptionTable := #[], attributes := #[] }
def k0m0 : Method := { name := "<init>", desc := "()V", sig := { parameters := [], returnType := none }, accessFlags := 1, code := some k0c0 }
def k0m1 : Method := { name := "clone", desc := "()Ljava/lang/Object;", sig := { parameters := [], returnType := some (.object "java/lang/Object") }, accessFlags := 260, code := none }
/-- java/lang/Object -/
def k0 : Class := { plain "java/lang/Object" none with
  accessFlags := 33
  interfaces := #[]
  cf := some (fileOf pool0 8 #[] #[{ accessFlags := 1, nameIndex := 5, descriptorIndex := 6, attributes := #[] }, { accessFlags := 260, nameIndex := 96, descriptorIndex := 97, attributes := #[] }] 33 0 #[] #[])
  fields := #[]
  methods := #[k0m0, k0m1]
  instanceTypes := #[]
  staticTypes := #[]
  resolved := Array.replicate 124 none
  statics := none }

def pool1 : Array CpInfo := pool [(2, .class_ 4), (0, .nameAndType 5 6), (0, u "java/lang/Object"), (0, u "<init>"), (0, u "()V"), (0, .class_ 8), (0, u "com/example/hold/hold/graph/Digraph$Builder"), (0, .methodref 7 3), (0, .methodref 7 11), (0, .nameAndType 12 13), (0, u "addEdge"), (0, u "(I)I"), (0, .methodref 7 15), (0, .nameAndType 16 6), (0, u "endVertex"), (0, .methodref 7 18), (0, .nameAndType 19 20), (0, u "build"), (0, u "()Lcom/example/hold/hold/graph/Digraph;"), (0, .methodref 22 23), (0, .class_ 24), (0, .nameAndType 25 26), (0, u "com/example/hold/hold/graph/Digraph"), (0, u "vertexCount"), (0, u "()I"), (0, .methodref 22 28), (0, .nameAndType 29 26), (0, u "edgeCount"), (0, .methodref 22 31), (0, .nameAndType 32 13), (0, u "firstEdge"), (0, .methodref 22 34), (0, .nameAndType 35 13), (0, u "endEdge"), (0, .class_ 37), (0, u "com/example/hold/hold/graph/BuilderEndVertexPinLaw"), (2, u "law"), (0, u "(IIII)Z")] 5

def k1m0 : Method := { name := "<init>", desc := "()V", sig := { parameters := [], returnType := none }, accessFlags := 1, code := none }
def k1c1 : Code := { maxStack := 3, maxLocals := 13, code := code, exceptionTable := #[], attributes := #[] }
def k1m1 : Method := { name := "law", desc := "(IIII)Z", sig := { parameters := [.int, .int, .int, .int], returnType := some .boolean }, accessFlags := 9, code := some k1c1 }
/-- com/example/hold/hold/graph/BuilderEndVertexPinLaw -/
def k1 : Class := { plain "com/example/hold/hold/graph/BuilderEndVertexPinLaw" (some 0) with
  accessFlags := 49
  interfaces := #[]
  cf := some (fileOf pool1 36 #[] #[{ accessFlags := 1, nameIndex := 5, descriptorIndex := 6, attributes := #[] }, { accessFlags := 9, nameIndex := 40, descriptorIndex := 41, attributes := #[] }] 49 2 #[] #[])
  fields := #[]
  methods := #[k1m0, k1m1]
  instanceTypes := #[]
  staticTypes := #[]
  resolved := Array.replicate 47 none
  statics := none }

def pool2 : Array CpInfo := pool [(1, .methodref 2 3), (0, .class_ 4), (0, .nameAndType 5 6), (0, u "java/lang/Object"), (0, u "<init>"), (0, u "()V"), (0, .fieldref 8 9), (0, .class_ 10), (0, .nameAndType 11 12), (0, u "com/example/hold/hold/graph/Digraph$Builder"), (0, u "start"), (0, u "[I"), (0, .fieldref 8 14), (0, .nameAndType 15 12), (0, u "target"), (0, .fieldref 8 17), (0, .nameAndType 18 19), (0, u "edgeCount"), (0, u "I"), (0, .methodref 21 22), (0, .class_ 23), (0, .nameAndType 24 25), (0, u "java/util/Arrays"), (0, u "copyOf"), (0, u "([II)[I"), (0, .fieldref 8 27), (0, .nameAndType 28 19), (0, u "vertexCount"), (0, .class_ 30), (0, u "com/example/hold/hold/graph/Digraph"), (0, .methodref 29 32), (0, .nameAndType 5 33), (0, u "([I[I)V"), (2, u "addEdge"), (0, u "(I)I"), (1, u "endVertex"), (0, u "build"), (0, u "()Lcom/example/hold/hold/graph/Digraph;")] 5

def k2c0 : Code := { maxStack := 2, maxLocals := 1, code := prog_63_method_1_code, exceptionTable := #[], attributes := #[] }
def k2m0 : Method := { name := "<init>", desc := "()V", sig := { parameters := [], returnType := none }, accessFlags := 1, code := some k2c0 }
def k2c1 : Code := { maxStack := 4, maxLocals := 2, code := prog_63_method_2_code, exceptionTable := #[], attributes := #[] }
def k2m1 : Method := { name := "addEdge", desc := "(I)I", sig := { parameters := [.int], returnType := some .int }, accessFlags := 1, code := some k2c1 }
def k2c2 : Code := { maxStack := 4, maxLocals := 1, code := prog_63_method_3_code, exceptionTable := #[], attributes := #[] }
def k2m2 : Method := { name := "endVertex", desc := "()V", sig := { parameters := [], returnType := none }, accessFlags := 1, code := some k2c2 }
def k2c3 : Code := { maxStack := 5, maxLocals := 1, code := prog_63_method_4_code, exceptionTable := #[], attributes := #[] }
def k2m3 : Method := { name := "build", desc := "()Lcom/example/hold/hold/graph/Digraph;", sig := { parameters := [], returnType := some (.object "com/example/hold/hold/graph/Digraph") }, accessFlags := 1, code := some k2c3 }
/-- com/example/hold/hold/graph/Digraph$Builder -/
def k2 : Class := { plain "com/example/hold/hold/graph/Digraph$Builder" (some 0) with
  accessFlags := 33
  interfaces := #[]
  cf := some (fileOf pool2 8 #[.nestHost 29] #[{ accessFlags := 1, nameIndex := 5, descriptorIndex := 6, attributes := #[] }, { accessFlags := 1, nameIndex := 36, descriptorIndex := 37, attributes := #[] }, { accessFlags := 1, nameIndex := 39, descriptorIndex := 6, attributes := #[] }, { accessFlags := 1, nameIndex := 40, descriptorIndex := 41, attributes := #[] }] 33 2 #[] #[{ accessFlags := 2, nameIndex := 11, descriptorIndex := 12, attributes := #[] }, { accessFlags := 2, nameIndex := 15, descriptorIndex := 12, attributes := #[] }, { accessFlags := 2, nameIndex := 28, descriptorIndex := 19, attributes := #[] }, { accessFlags := 2, nameIndex := 18, descriptorIndex := 19, attributes := #[] }])
  fields := #[{ name := "start", type := (.array .int), accessFlags := 2, slot := 0, constantValue := 0 }, { name := "target", type := (.array .int), accessFlags := 2, slot := 1, constantValue := 0 }, { name := "vertexCount", type := .int, accessFlags := 2, slot := 2, constantValue := 0 }, { name := "edgeCount", type := .int, accessFlags := 2, slot := 3, constantValue := 0 }]
  methods := #[k2m0, k2m1, k2m2, k2m3]
  instanceTypes := #[(.array .int), (.array .int), .int, .int]
  staticTypes := #[]
  resolved := Array.replicate 47 none
  statics := none }

def pool3 : Array CpInfo := pool [(1, .methodref 2 3), (0, .class_ 4), (0, .nameAndType 5 6), (0, u "java/lang/Object"), (0, u "<init>"), (0, u "()V"), (7, .methodref 15 16), (0, .class_ 17), (0, .nameAndType 18 19), (0, u "[I"), (0, u "clone"), (0, u "()Ljava/lang/Object;"), (0, .fieldref 21 22), (0, .class_ 23), (0, .nameAndType 24 17), (0, u "com/example/hold/hold/graph/Digraph"), (0, u "start"), (0, .fieldref 21 26), (0, .nameAndType 27 17), (0, u "target"), (0, .class_ 29), (0, u "com/example/hold/hold/graph/Digraph$Builder"), (20, u "(I)I"), (3, .class_ 55), (0, u "com/example/hold/hold/graph/Digraph$Subgraph"), (9, u "vertexCount"), (0, u "()I"), (2, u "([I[I)V"), (34, .class_ 105), (0, u "com/example/hold/hold/graph/Digraph$Components"), (11, u "edgeCount"), (0, u "firstEdge"), (0, u "endEdge")] 14

def k3c0 : Code := { maxStack := 3, maxLocals := 3, code := prog_62_method_1_code, exceptionTable := #[], attributes := #[] }
def k3m0 : Method := { name := "<init>", desc := "([I[I)V", sig := { parameters := [(.array .int), (.array .int)], returnType := none }, accessFlags := 1, code := some k3c0 }
def k3c1 : Code := { maxStack := 2, maxLocals := 1, code := prog_62_method_2_code, exceptionTable := #[], attributes := #[] }
def k3m1 : Method := { name := "vertexCount", desc := "()I", sig := { parameters := [], returnType := some .int }, accessFlags := 1, code := some k3c1 }
def k3c2 : Code := { maxStack := 1, maxLocals := 1, code := prog_62_method_3_code, exceptionTable := #[], attributes := #[] }
def k3m2 : Method := { name := "edgeCount", desc := "()I", sig := { parameters := [], returnType := some .int }, accessFlags := 1, code := some k3c2 }
def k3c3 : Code := { maxStack := 2, maxLocals := 2, code := prog_62_method_4_code, exceptionTable := #[], attributes := #[] }
def k3m3 : Method := { name := "firstEdge", desc := "(I)I", sig := { parameters := [.int], returnType := some .int }, accessFlags := 1, code := some k3c3 }
def k3c4 : Code := { maxStack := 3, maxLocals := 2, code := prog_62_method_5_code, exceptionTable := #[], attributes := #[] }
def k3m4 : Method := { name := "endEdge", desc := "(I)I", sig := { parameters := [.int], returnType := some .int }, accessFlags := 1, code := some k3c4 }
/-- com/example/hold/hold/graph/Digraph -/
def k3 : Class := { plain "com/example/hold/hold/graph/Digraph" (some 0) with
  accessFlags := 33
  interfaces := #[]
  cf := some (fileOf pool3 21 #[.nestMembers #[28, 54, 104]] #[{ accessFlags := 1, nameIndex := 5, descriptorIndex := 69, attributes := #[] }, { accessFlags := 1, nameIndex := 65, descriptorIndex := 66, attributes := #[] }, { accessFlags := 1, nameIndex := 117, descriptorIndex := 66, attributes := #[] }, { accessFlags := 1, nameIndex := 118, descriptorIndex := 50, attributes := #[] }, { accessFlags := 1, nameIndex := 119, descriptorIndex := 50, attributes := #[] }] 33 2 #[] #[{ accessFlags := 18, nameIndex := 24, descriptorIndex := 17, attributes := #[] }, { accessFlags := 18, nameIndex := 27, descriptorIndex := 17, attributes := #[] }])
  fields := #[{ name := "start", type := (.array .int), accessFlags := 18, slot := 0, constantValue := 0 }, { name := "target", type := (.array .int), accessFlags := 18, slot := 1, constantValue := 0 }]
  methods := #[k3m0, k3m1, k3m2, k3m3, k3m4]
  instanceTypes := #[(.array .int), (.array .int)]
  staticTypes := #[]
  resolved := Array.replicate 134 none
  statics := none }

def pool4 : Array CpInfo := pool [(2, .class_ 4), (1, u "java/lang/Object"), (0, u "<init>"), (0, u "()V"), (7, .class_ 16), (1, u "java/util/Arrays"), (57, .class_ 76), (1, u "java/util/Arrays$NaturalOrder"), (36, .class_ 115), (1, u "java/util/Arrays$LegacyMergeSort"), (1, u "Z"), (32, .methodref 151 152), (0, .class_ 153), (0, .nameAndType 154 155), (0, u "java/lang/System"), (0, u "arraycopy"), (0, u "(Ljava/lang/Object;ILjava/lang/Object;II)V"), (146, u "copyOf"), (1, .methodref 305 306), (0, .class_ 307), (0, .nameAndType 308 309), (0, u "java/lang/Math"), (0, u "min"), (0, u "(II)I"), (65, .class_ 376), (0, u "java/util/Arrays$ArrayList"), (68, u "$assertionsDisabled"), (269, u "MIN_ARRAY_SORT_GRAN"), (0, u "I"), (2, u "INSERTIONSORT_THRESHOLD"), (151, u "([II)[I"), (103, .class_ 976), (0, u "java/util/Arrays$ArrayItr")] 52

def k4m0 : Method := { name := "<init>", desc := "()V", sig := { parameters := [], returnType := none }, accessFlags := 2, code := none }
def k4c1 : Code := { maxStack := 6, maxLocals := 3, code := jdk_65_method_123_code, exceptionTable := #[], attributes := #[] }
def k4m1 : Method := { name := "copyOf", desc := "([II)[I", sig := { parameters := [(.array .int), .int], returnType := some (.array .int) }, accessFlags := 9, code := some k4c1 }
/-- java/util/Arrays -/
def k4 : Class := { plain "java/util/Arrays" (some 0) with
  accessFlags := 49
  interfaces := #[]
  cf := some (fileOf pool4 14 #[.nestMembers #[975, 375, 113, 74]] #[{ accessFlags := 2, nameIndex := 5, descriptorIndex := 6, attributes := #[] }, { accessFlags := 9, nameIndex := 302, descriptorIndex := 871, attributes := #[] }] 49 2 #[] #[{ accessFlags := 26, nameIndex := 715, descriptorIndex := 716, attributes := #[] }, { accessFlags := 26, nameIndex := 719, descriptorIndex := 716, attributes := #[] }, { accessFlags := 4120, nameIndex := 445, descriptorIndex := 117, attributes := #[] }])
  fields := #[{ name := "MIN_ARRAY_SORT_GRAN", type := .int, accessFlags := 26, slot := 0, constantValue := 0 }, { name := "INSERTIONSORT_THRESHOLD", type := .int, accessFlags := 26, slot := 1, constantValue := 0 }, { name := "$assertionsDisabled", type := .boolean, accessFlags := 4120, slot := 2, constantValue := 0 }]
  methods := #[k4m0, k4m1]
  instanceTypes := #[]
  staticTypes := #[.int, .int, .boolean]
  resolved := Array.replicate 1029 none
  statics := none }

def pool5 : Array CpInfo := pool [(1, .class_ 2), (0, u "java/lang/Math"), (1, .class_ 6), (1, u "java/lang/Object"), (0, u "<init>"), (0, u "()V"), (89, .class_ 100), (1, u "java/lang/Math$RandomNumberGeneratorHolder"), (71, u "negativeZeroFloatBits"), (0, u "J"), (2, u "negativeZeroDoubleBits"), (24, u "min"), (43, u "$assertionsDisabled"), (0, u "Z"), (88, u "(II)I"), (2, u "twoToTheDoubleScaleDown"), (0, u "D"), (4, u "twoToTheDoubleScaleUp"), (9, u "E"), (3, u "PI"), (2, u "TAU"), (2, u "DEGREES_TO_RADIANS"), (0, u "RADIANS_TO_DEGREES")] 94

def k5m0 : Method := { name := "<init>", desc := "()V", sig := { parameters := [], returnType := none }, accessFlags := 2, code := none }
def k5c1 : Code := { maxStack := 2, maxLocals := 2, code := jdk_29_method_69_code, exceptionTable := #[], attributes := #[] }
def k5m1 : Method := { name := "min", desc := "(II)I", sig := { parameters := [.int, .int], returnType := some .int }, accessFlags := 9, code := some k5c1 }
/-- java/lang/Math -/
def k5 : Class := { plain "java/lang/Math" (some 0) with
  accessFlags := 49
  interfaces := #[]
  cf := some (fileOf pool5 1 #[.nestMembers #[98]] #[{ accessFlags := 2, nameIndex := 7, descriptorIndex := 8, attributes := #[] }, { accessFlags := 9, nameIndex := 201, descriptorIndex := 335, attributes := #[] }] 49 4 #[] #[{ accessFlags := 25, nameIndex := 354, descriptorIndex := 339, attributes := #[] }, { accessFlags := 25, nameIndex := 358, descriptorIndex := 339, attributes := #[] }, { accessFlags := 25, nameIndex := 361, descriptorIndex := 339, attributes := #[] }, { accessFlags := 26, nameIndex := 364, descriptorIndex := 339, attributes := #[] }, { accessFlags := 26, nameIndex := 365, descriptorIndex := 339, attributes := #[] }, { accessFlags := 26, nameIndex := 172, descriptorIndex := 173, attributes := #[] }, { accessFlags := 26, nameIndex := 176, descriptorIndex := 173, attributes := #[] }, { accessFlags := 8, nameIndex := 344, descriptorIndex := 339, attributes := #[] }, { accessFlags := 8, nameIndex := 338, descriptorIndex := 339, attributes := #[] }, { accessFlags := 4120, nameIndex := 245, descriptorIndex := 246, attributes := #[] }])
  fields := #[{ name := "E", type := .double, accessFlags := 25, slot := 0, constantValue := 0 }, { name := "PI", type := .double, accessFlags := 25, slot := 1, constantValue := 0 }, { name := "TAU", type := .double, accessFlags := 25, slot := 2, constantValue := 0 }, { name := "DEGREES_TO_RADIANS", type := .double, accessFlags := 26, slot := 3, constantValue := 0 }, { name := "RADIANS_TO_DEGREES", type := .double, accessFlags := 26, slot := 4, constantValue := 0 }, { name := "negativeZeroFloatBits", type := .long, accessFlags := 26, slot := 5, constantValue := 0 }, { name := "negativeZeroDoubleBits", type := .long, accessFlags := 26, slot := 6, constantValue := 0 }, { name := "twoToTheDoubleScaleUp", type := .double, accessFlags := 8, slot := 7, constantValue := 0 }, { name := "twoToTheDoubleScaleDown", type := .double, accessFlags := 8, slot := 8, constantValue := 0 }, { name := "$assertionsDisabled", type := .boolean, accessFlags := 4120, slot := 9, constantValue := 0 }]
  methods := #[k5m0, k5m1]
  instanceTypes := #[]
  staticTypes := #[.double, .double, .double, .double, .double, .long, .long, .double, .double, .boolean]
  resolved := Array.replicate 460 none
  statics := none }

def pool6 : Array CpInfo := pool [(2, .class_ 4), (1, u "java/lang/Object"), (0, u "<init>"), (0, u "()V"), (1, .class_ 10), (1, u "java/lang/System"), (0, u "allowSecurityManager"), (0, u "I"), (16, u "cons"), (0, u "Ljava/io/Console;"), (77, .class_ 110), (1, u "java/lang/System$CallersHolder"), (43, u "initialErrStream"), (0, u "Ljava/io/PrintStream;"), (19, u "security"), (0, u "Ljava/lang/SecurityManager;"), (31, .class_ 209), (0, u "java/lang/System$1"), (7, u "props"), (0, u "Ljava/util/Properties;"), (2, u "lineSeparator"), (0, u "Ljava/lang/String;"), (96, .class_ 321), (1, u "java/lang/System$LoggerFinder"), (5, .class_ 328), (0, u "java/lang/System$Logger"), (67, u "err"), (2, u "out"), (91, u "notSupportedJnuEncoding"), (15, u "in"), (17, u "initialIn"), (0, u "Ljava/io/InputStream;"), (35, u "bootLayer"), (0, u "Ljava/lang/ModuleLayer;"), (99, .class_ 664), (0, u "java/lang/System$2"), (9, u "NEVER"), (2, u "MAYBE"), (49, u "arraycopy"), (0, u "(Ljava/lang/Object;ILjava/lang/Object;II)V"), (72, .class_ 802), (0, u "java/lang/System$Logger$Level")] 31

def k6m0 : Method := { name := "<init>", desc := "()V", sig := { parameters := [], returnType := none }, accessFlags := 2, code := none }
def k6m1 : Method := { name := "arraycopy", desc := "(Ljava/lang/Object;ILjava/lang/Object;II)V", sig := { parameters := [(.object "java/lang/Object"), .int, (.object "java/lang/Object"), .int, .int], returnType := none }, accessFlags := 265, code := none }
/-- java/lang/System -/
def k6 : Class := { plain "java/lang/System" (some 0) with
  accessFlags := 49
  interfaces := #[]
  cf := some (fileOf pool6 8 #[.nestMembers #[319, 327, 801, 108, 663, 208]] #[{ accessFlags := 2, nameIndex := 5, descriptorIndex := 6, attributes := #[] }, { accessFlags := 265, nameIndex := 727, descriptorIndex := 728, attributes := #[] }] 49 2 #[] #[{ accessFlags := 25, nameIndex := 507, descriptorIndex := 526, attributes := #[] }, { accessFlags := 25, nameIndex := 399, descriptorIndex := 155, attributes := #[] }, { accessFlags := 25, nameIndex := 396, descriptorIndex := 155, attributes := #[] }, { accessFlags := 10, nameIndex := 525, descriptorIndex := 526, attributes := #[] }, { accessFlags := 26, nameIndex := 674, descriptorIndex := 12, attributes := #[] }, { accessFlags := 26, nameIndex := 677, descriptorIndex := 12, attributes := #[] }, { accessFlags := 10, nameIndex := 11, descriptorIndex := 12, attributes := #[] }, { accessFlags := 74, nameIndex := 175, descriptorIndex := 176, attributes := #[] }, { accessFlags := 10, nameIndex := 491, descriptorIndex := 222, attributes := #[] }, { accessFlags := 74, nameIndex := 29, descriptorIndex := 30, attributes := #[] }, { accessFlags := 74, nameIndex := 154, descriptorIndex := 155, attributes := #[] }, { accessFlags := 10, nameIndex := 217, descriptorIndex := 218, attributes := #[] }, { accessFlags := 10, nameIndex := 221, descriptorIndex := 222, attributes := #[] }, { accessFlags := 8, nameIndex := 562, descriptorIndex := 563, attributes := #[] }])
  fields := #[{ name := "in", type := (.object "java/io/InputStream"), accessFlags := 25, slot := 0, constantValue := 0 }, { name := "out", type := (.object "java/io/PrintStream"), accessFlags := 25, slot := 1, constantValue := 0 }, { name := "err", type := (.object "java/io/PrintStream"), accessFlags := 25, slot := 2, constantValue := 0 }, { name := "initialIn", type := (.object "java/io/InputStream"), accessFlags := 10, slot := 3, constantValue := 0 }, { name := "NEVER", type := .int, accessFlags := 26, slot := 4, constantValue := 0 }, { name := "MAYBE", type := .int, accessFlags := 26, slot := 5, constantValue := 0 }, { name := "allowSecurityManager", type := .int, accessFlags := 10, slot := 6, constantValue := 0 }, { name := "security", type := (.object "java/lang/SecurityManager"), accessFlags := 74, slot := 7, constantValue := 0 }, { name := "notSupportedJnuEncoding", type := (.object "java/lang/String"), accessFlags := 10, slot := 8, constantValue := 0 }, { name := "cons", type := (.object "java/io/Console"), accessFlags := 74, slot := 9, constantValue := 0 }, { name := "initialErrStream", type := (.object "java/io/PrintStream"), accessFlags := 74, slot := 10, constantValue := 0 }, { name := "props", type := (.object "java/util/Properties"), accessFlags := 10, slot := 11, constantValue := 0 }, { name := "lineSeparator", type := (.object "java/lang/String"), accessFlags := 10, slot := 12, constantValue := 0 }, { name := "bootLayer", type := (.object "java/lang/ModuleLayer"), accessFlags := 8, slot := 13, constantValue := 0 }]
  methods := #[k6m0, k6m1]
  instanceTypes := #[]
  staticTypes := #[(.object "java/io/InputStream"), (.object "java/io/PrintStream"), (.object "java/io/PrintStream"), (.object "java/io/InputStream"), .int, .int, .int, (.object "java/lang/SecurityManager"), (.object "java/lang/String"), (.object "java/io/Console"), (.object "java/io/PrintStream"), (.object "java/util/Properties"), (.object "java/lang/String"), (.object "java/lang/ModuleLayer")]
  resolved := Array.replicate 834 none
  statics := none }

def pool7 : Array CpInfo := pool [(1, .class_ 2), (0, u "java/lang/Cloneable"), (0, .class_ 4), (0, u "java/lang/Object")] 2

/-- java/lang/Cloneable -/
def k7 : Class := { plain "java/lang/Cloneable" (some 0) with
  accessFlags := 1537
  interfaces := #[]
  cf := some (fileOf pool7 1 #[] #[] 1537 3 #[] #[])
  fields := #[]
  methods := #[]
  instanceTypes := #[]
  staticTypes := #[]
  resolved := Array.replicate 7 none
  statics := none }

def pool8 : Array CpInfo := pool [(1, u "java/io/Serializable"), (0, .class_ 1), (0, u "java/lang/Object"), (0, .class_ 3)] 3

/-- java/io/Serializable -/
def k8 : Class := { plain "java/io/Serializable" (some 0) with
  accessFlags := 1537
  interfaces := #[]
  cf := some (fileOf pool8 2 #[] #[] 1537 4 #[] #[])
  fields := #[]
  methods := #[]
  instanceTypes := #[]
  staticTypes := #[]
  resolved := Array.replicate 8 none
  statics := none }

/-- the primitive byte -/
def k9 : Class := { plain "byte" none with kind := .primitive 'B', accessFlags := 0x411 }
/-- [B -/
def k10 : Class := { plain "[B" (some 0) with kind := .array 9 .byte, interfaces := #[7, 8], accessFlags := 1041 }

/-- the primitive int -/
def k11 : Class := { plain "int" none with kind := .primitive 'I', accessFlags := 0x411 }
/-- [I -/
def k12 : Class := { plain "[I" (some 0) with kind := .array 11 .int, interfaces := #[7, 8], accessFlags := 1041 }

def heap : Heap := #[]
def classes : Array Class := #[k0, k1, k2, k3, k4, k5, k6, k7, k8, k9, k10, k11, k12]
def interned : List (Array UInt16 × Addr) := []
def slotsUsed : Nat := 0
def theMethod : MethodId := ⟨1, 1⟩
def args0 : Array Value := #[.int 5, .int 7, .int 3, .int 4]
def aboutOver (below : List Frame) : State where
  vm := { classes := classes, interned := interned.toArray }
  heap := heap
  slotsUsed := slotsUsed
  threads := #[{ frames := .invoking theMethod args0 :: below }]
def below0 : List Frame := [.native { method := ⟨0, 0⟩, args := #[] }]
def about1 : State := aboutOver below0
def p0 : Program := .bare "" "" ""
def e0 : Env := launch0.env 0 0 0
theorem w_frames : about1.frames = Frame.invoking theMethod args0 :: below0 := rfl
set_option maxRecDepth 65536 in
theorem w_args : argsFit about1.vm theMethod args0 = true := by decide +kernel
set_option maxRecDepth 65536 in
theorem w_heap : heapFits about1 = true := by decide +kernel
set_option maxRecDepth 65536 in
theorem w_runnable : about1.curStatus? = some .runnable := by decide +kernel
set_option maxRecDepth 65536 in
theorem w_alone : about1.alone = true := by decide +kernel
set_option maxRecDepth 65536 in
theorem w_named : about1.methodNamed? x = some theMethod := by decide +kernel
set_option maxRecDepth 65536 in
theorem w_hears : about1.hears theMethod below0 = true := by decide +kernel
set_option maxRecDepth 65536 in
theorem w_ripe : about1.ripe theMethod args0 below0 = true := by decide +kernel
theorem w_running : about1.status = .running := rfl
set_option maxRecDepth 65536 in
theorem w_room : about1.hasRoom e0.platform room_1 = true :=
  launch0.hasRoom_least _ room_1 (by decide +kernel) (by decide +kernel) (by decide +kernel) (by decide +kernel) (by decide +kernel) (by decide +kernel)
theorem allAtoms_all (ts : List Jvm.Cond) (a : Array Jvm.Value) (st : Jvm.State) : (allAtoms ts).before a st = ts.all (fun c => c.before a st) := by
  induction ts with
  | nil => rfl
  | cons c t ih =>
    show (Jvm.Cond.and c (allAtoms t)).before a st = _
    rw [Jvm.Cond.before_and, ih, List.all_cons]
def words1 : List Jvm.Cond := Jvm.Cond.code x code maxLocals ret :: tables_1
/-- a 'code' word, met by the world's own term for the bytes: nothing is compared byte by byte -/
theorem code_word {y : MethodName} {bytes : ByteArray} {mx : Nat} {rt : Option FieldType} {a : Array Value} {s : State} {m : MethodId} {meth : Method} {c : Code} (h1 : s.methodNamed? y = some m) (h2 : s.vm.method? m = some meth) (h3 : meth.code = some c) (h4 : c.code = bytes)
    (h5 : (c.maxLocals == mx && c.exceptionTable.isEmpty && decide (c.maxStack ≤ mostOperands) && decide (meth.sig.returnType = rt) && !meth.locks && decide (parseMethodDescriptor y.desc = some meth.sig)) = true) : (Jvm.Cond.code y bytes mx rt).before a s = true := by
  simp only [Bool.and_eq_true, beq_iff_eq, Bool.not_eq_true', decide_eq_true_eq] at h5
  obtain ⟨⟨⟨⟨⟨g1, g2⟩, g3⟩, g4⟩, g5⟩, g6⟩ := h5
  simp [Cond.before, Cond.holds, Cond.value, h1, h2, h3, h4, g1, g2, g3, g4, g5, g6]
def isCode : Jvm.Cond → Bool
  | .code _ _ _ _ => true
  | _ => false
theorem all_split {L : List Jvm.Cond} {P : Jvm.Cond → Bool} (h1 : L.all (fun c => isCode c || P c) = true) (h2 : ∀ c ∈ L.filter isCode, P c = true) : L.all P = true := by
  refine List.all_eq_true.mpr fun c hc => ?_
  have h := List.all_eq_true.mp h1 c hc
  rcases Bool.eq_false_or_eq_true (isCode c) with hi | hi
  · exact h2 c (List.mem_filter.mpr ⟨hc, hi⟩)
  · simpa [hi] using h
set_option maxRecDepth 65536 in
theorem w_c0 : (Jvm.Cond.code x code maxLocals ret).before args0 about1 = true := code_word (m := ⟨1, 1⟩) (meth := k1m1) (c := k1c1) (by decide +kernel) rfl rfl rfl (by decide +kernel)
set_option maxRecDepth 65536 in
theorem w_c1 : (Jvm.Cond.code ({ cls := "com/example/hold/hold/graph/Digraph$Builder", name := "<init>", desc := "()V" } : Jvm.MethodName) prog_63_method_1_code (1 : Nat) (Option.none : Option Jvm.ClassFile.FieldType)).before args0 about1 = true := code_word (m := ⟨2, 0⟩) (meth := k2m0) (c := k2c0) (by decide +kernel) rfl rfl rfl (by decide +kernel)
set_option maxRecDepth 65536 in
theorem w_c2 : (Jvm.Cond.code ({ cls := "java/lang/Object", name := "<init>", desc := "()V" } : Jvm.MethodName) object_method_1_code (1 : Nat) (Option.none : Option Jvm.ClassFile.FieldType)).before args0 about1 = true := code_word (m := ⟨0, 0⟩) (meth := k0m0) (c := k0c0) (by decide +kernel) rfl rfl rfl (by decide +kernel)
set_option maxRecDepth 65536 in
theorem w_c3 : (Jvm.Cond.code ({ cls := "com/example/hold/hold/graph/Digraph$Builder", name := "addEdge", desc := "(I)I" } : Jvm.MethodName) prog_63_method_2_code (2 : Nat) (Option.some Jvm.ClassFile.FieldType.int)).before args0 about1 = true := code_word (m := ⟨2, 1⟩) (meth := k2m1) (c := k2c1) (by decide +kernel) rfl rfl rfl (by decide +kernel)
set_option maxRecDepth 65536 in
theorem w_c4 : (Jvm.Cond.code ({ cls := "com/example/hold/hold/graph/Digraph$Builder", name := "endVertex", desc := "()V" } : Jvm.MethodName) prog_63_method_3_code (1 : Nat) (Option.none : Option Jvm.ClassFile.FieldType)).before args0 about1 = true := code_word (m := ⟨2, 2⟩) (meth := k2m2) (c := k2c2) (by decide +kernel) rfl rfl rfl (by decide +kernel)
set_option maxRecDepth 65536 in
theorem w_c5 : (Jvm.Cond.code ({ cls := "com/example/hold/hold/graph/Digraph$Builder", name := "build", desc := "()Lcom/example/hold/hold/graph/Digraph;" } : Jvm.MethodName) prog_63_method_4_code (1 : Nat) (Option.some (Jvm.ClassFile.FieldType.object "com/example/hold/hold/graph/Digraph"))).before args0 about1 = true := code_word (m := ⟨2, 3⟩) (meth := k2m3) (c := k2c3) (by decide +kernel) rfl rfl rfl (by decide +kernel)
set_option maxRecDepth 65536 in
theorem w_c6 : (Jvm.Cond.code ({ cls := "java/util/Arrays", name := "copyOf", desc := "([II)[I" } : Jvm.MethodName) jdk_65_method_123_code (3 : Nat) (Option.some (Jvm.ClassFile.FieldType.array Jvm.ClassFile.FieldType.int))).before args0 about1 = true := code_word (m := ⟨4, 1⟩) (meth := k4m1) (c := k4c1) (by decide +kernel) rfl rfl rfl (by decide +kernel)
set_option maxRecDepth 65536 in
theorem w_c7 : (Jvm.Cond.code ({ cls := "java/lang/Math", name := "min", desc := "(II)I" } : Jvm.MethodName) jdk_29_method_69_code (2 : Nat) (Option.some Jvm.ClassFile.FieldType.int)).before args0 about1 = true := code_word (m := ⟨5, 1⟩) (meth := k5m1) (c := k5c1) (by decide +kernel) rfl rfl rfl (by decide +kernel)
set_option maxRecDepth 65536 in
theorem w_c8 : (Jvm.Cond.code ({ cls := "com/example/hold/hold/graph/Digraph", name := "<init>", desc := "([I[I)V" } : Jvm.MethodName) prog_62_method_1_code (3 : Nat) (Option.none : Option Jvm.ClassFile.FieldType)).before args0 about1 = true := code_word (m := ⟨3, 0⟩) (meth := k3m0) (c := k3c0) (by decide +kernel) rfl rfl rfl (by decide +kernel)
set_option maxRecDepth 65536 in
theorem w_c9 : (Jvm.Cond.code ({ cls := "com/example/hold/hold/graph/Digraph", name := "vertexCount", desc := "()I" } : Jvm.MethodName) prog_62_method_2_code (1 : Nat) (Option.some Jvm.ClassFile.FieldType.int)).before args0 about1 = true := code_word (m := ⟨3, 1⟩) (meth := k3m1) (c := k3c1) (by decide +kernel) rfl rfl rfl (by decide +kernel)
set_option maxRecDepth 65536 in
theorem w_c10 : (Jvm.Cond.code ({ cls := "com/example/hold/hold/graph/Digraph", name := "edgeCount", desc := "()I" } : Jvm.MethodName) prog_62_method_3_code (1 : Nat) (Option.some Jvm.ClassFile.FieldType.int)).before args0 about1 = true := code_word (m := ⟨3, 2⟩) (meth := k3m2) (c := k3c2) (by decide +kernel) rfl rfl rfl (by decide +kernel)
set_option maxRecDepth 65536 in
theorem w_c11 : (Jvm.Cond.code ({ cls := "com/example/hold/hold/graph/Digraph", name := "firstEdge", desc := "(I)I" } : Jvm.MethodName) prog_62_method_4_code (2 : Nat) (Option.some Jvm.ClassFile.FieldType.int)).before args0 about1 = true := code_word (m := ⟨3, 3⟩) (meth := k3m3) (c := k3c3) (by decide +kernel) rfl rfl rfl (by decide +kernel)
set_option maxRecDepth 65536 in
theorem w_c12 : (Jvm.Cond.code ({ cls := "com/example/hold/hold/graph/Digraph", name := "endEdge", desc := "(I)I" } : Jvm.MethodName) prog_62_method_5_code (2 : Nat) (Option.some Jvm.ClassFile.FieldType.int)).before args0 about1 = true := code_word (m := ⟨3, 4⟩) (meth := k3m4) (c := k3c4) (by decide +kernel) rfl rfl rfl (by decide +kernel)
def codes1 : List Jvm.Cond := [Jvm.Cond.code x code maxLocals ret, Jvm.Cond.code ({ cls := "com/example/hold/hold/graph/Digraph$Builder", name := "<init>", desc := "()V" } : Jvm.MethodName) prog_63_method_1_code (1 : Nat) (Option.none : Option Jvm.ClassFile.FieldType), Jvm.Cond.code ({ cls := "java/lang/Object", name := "<init>", desc := "()V" } : Jvm.MethodName) object_method_1_code (1 : Nat) (Option.none : Option Jvm.ClassFile.FieldType), Jvm.Cond.code ({ cls := "com/example/hold/hold/graph/Digraph$Builder", name := "addEdge", desc := "(I)I" } : Jvm.MethodName) prog_63_method_2_code (2 : Nat) (Option.some Jvm.ClassFile.FieldType.int), Jvm.Cond.code ({ cls := "com/example/hold/hold/graph/Digraph$Builder", name := "endVertex", desc := "()V" } : Jvm.MethodName) prog_63_method_3_code (1 : Nat) (Option.none : Option Jvm.ClassFile.FieldType), Jvm.Cond.code ({ cls := "com/example/hold/hold/graph/Digraph$Builder", name := "build", desc := "()Lcom/example/hold/hold/graph/Digraph;" } : Jvm.MethodName) prog_63_method_4_code (1 : Nat) (Option.some (Jvm.ClassFile.FieldType.object "com/example/hold/hold/graph/Digraph")), Jvm.Cond.code ({ cls := "java/util/Arrays", name := "copyOf", desc := "([II)[I" } : Jvm.MethodName) jdk_65_method_123_code (3 : Nat) (Option.some (Jvm.ClassFile.FieldType.array Jvm.ClassFile.FieldType.int)), Jvm.Cond.code ({ cls := "java/lang/Math", name := "min", desc := "(II)I" } : Jvm.MethodName) jdk_29_method_69_code (2 : Nat) (Option.some Jvm.ClassFile.FieldType.int), Jvm.Cond.code ({ cls := "com/example/hold/hold/graph/Digraph", name := "<init>", desc := "([I[I)V" } : Jvm.MethodName) prog_62_method_1_code (3 : Nat) (Option.none : Option Jvm.ClassFile.FieldType), Jvm.Cond.code ({ cls := "com/example/hold/hold/graph/Digraph", name := "vertexCount", desc := "()I" } : Jvm.MethodName) prog_62_method_2_code (1 : Nat) (Option.some Jvm.ClassFile.FieldType.int), Jvm.Cond.code ({ cls := "com/example/hold/hold/graph/Digraph", name := "edgeCount", desc := "()I" } : Jvm.MethodName) prog_62_method_3_code (1 : Nat) (Option.some Jvm.ClassFile.FieldType.int), Jvm.Cond.code ({ cls := "com/example/hold/hold/graph/Digraph", name := "firstEdge", desc := "(I)I" } : Jvm.MethodName) prog_62_method_4_code (2 : Nat) (Option.some Jvm.ClassFile.FieldType.int), Jvm.Cond.code ({ cls := "com/example/hold/hold/graph/Digraph", name := "endEdge", desc := "(I)I" } : Jvm.MethodName) prog_62_method_5_code (2 : Nat) (Option.some Jvm.ClassFile.FieldType.int)]
set_option maxRecDepth 65536 in
theorem codes_eq : words1.filter isCode = codes1 := rfl
theorem w_codes : ∀ c ∈ words1.filter isCode, c.before args0 about1 = true := by
  rw [codes_eq]
  intro c hc
  simp only [codes1, List.mem_cons, List.not_mem_nil, or_false] at hc
  rcases hc with rfl | rfl | rfl | rfl | rfl | rfl | rfl | rfl | rfl | rfl | rfl | rfl | rfl
  · exact w_c0
  · exact w_c1
  · exact w_c2
  · exact w_c3
  · exact w_c4
  · exact w_c5
  · exact w_c6
  · exact w_c7
  · exact w_c8
  · exact w_c9
  · exact w_c10
  · exact w_c11
  · exact w_c12
set_option maxRecDepth 65536 in
theorem w_t1 : (words1.take 24).all (fun c => isCode c || c.before args0 about1) = true := by decide +kernel
set_option maxRecDepth 65536 in
theorem w_t2 : ((words1.drop 24).take 24).all (fun c => isCode c || c.before args0 about1) = true := by decide +kernel
set_option maxRecDepth 65536 in
theorem w_t3 : (((words1.drop 24).drop 24).take 24).all (fun c => isCode c || c.before args0 about1) = true := by decide +kernel
set_option maxRecDepth 65536 in
theorem w_t4 : (((words1.drop 24).drop 24).drop 24).all (fun c => isCode c || c.before args0 about1) = true := by decide +kernel
theorem w_tables : (allAtoms (Jvm.Cond.code x code maxLocals ret :: tables_1)).before args0 about1 = true := by
  rw [allAtoms_all]
  show words1.all (fun c => c.before args0 about1) = true
  refine all_split ?_ w_codes
  rw [← List.take_append_drop 24 words1, List.all_append, w_t1, ← List.take_append_drop 24 (words1.drop 24), List.all_append, w_t2, ← List.take_append_drop 24 ((words1.drop 24).drop 24), List.all_append, w_t3, w_t4]
  rfl
set_option maxRecDepth 65536 in
theorem w_case : (Jvm.Cond.and given_1 narrow_1).before args0 about1 = true := by decide +kernel
theorem w_applies : (headSpec (Jvm.Cond.code x code maxLocals ret :: tables_1) room_1).applies x e0.platform about1 = true :=
  (Spec.applies_iff w_frames).mpr ⟨w_running, w_runnable, w_alone, w_named, w_hears, w_ripe, w_room, w_tables⟩
theorem atStart : AtStart classFile x code maxLocals ret World_1 tables_1 room_1 Calls_1 rest_1 Pre_1 launch0 p0 e0 about1 theMethod args0 below0 :=
  ⟨lists_1, trivial, launch0.admits_env _ _ _, launch0.least_env, fairChoices_fair.cas, fairChoices_fair.clock, w_frames, w_args, w_heap, w_applies, trivial, trivial, w_case⟩
end start1
theorem witness_1 : WitnessClaimed_1 := ⟨start1.p0, start1.e0, start1.about1, start1.theMethod, start1.args0, start1.below0, start1.atStart⟩
end Jvm.Pilot.@@N@@
