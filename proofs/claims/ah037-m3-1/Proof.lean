import JvmDerived
import JvmDerived.Pilot.@@N@@Statement
import JvmDerived.Pilot.@@N@@Code
set_option linter.unusedVariables false
set_option linter.unusedSimpArgs false
namespace Jvm.OwnW
open Sem ClassFile Op Lib Jvm.Stand Jvm.Free Jvm.LawKit Jvm.RoadKit
/-- from the state S the walk over 'below' comes to an end of which P holds -/
def Goes (tb : Tables) (e : Env) (below : List Frame) (S : State) (P : State → Outcome → Prop) : Prop :=
  ∃ s₂ o, Steps tb e below S s₂ ∧ s₂.status = .running ∧ Ended s₂ below o ∧ P s₂ o
section Walk
variable {p : Program} {l : Launch} {e : Env} {R : Room} {s : State} {m : MethodId} {args : Array Value} {below : List Frame} {meth : Method} {c : Code} {T : State} {locs : List Loc} {cells slots : Nat} {P : State → Outcome → Prop} {pc : Nat} {Ls : Array Slot} {st : List Value} {Z : State} {a0 : Array Value} {h : Heap}
theorem Goes.of {tb : Tables} {S S' : State} (k : Goes tb e below S' P) (h : ∀ t, Steps tb e below S' t → Steps tb e below S t) : Goes tb e below S P := by
  obtain ⟨s₂, o, h1, h2⟩ := k
  exact ⟨s₂, o, h _ h1, h2⟩
theorem Goes.tr {tb : Tables} {S S' : State} (k : Goes tb e below S' P) (h : Steps tb e below S S') : Goes tb e below S P := by
  obtain ⟨s₂, o, h1, h2⟩ := k
  exact ⟨s₂, o, h.trans h1, h2⟩
theorem Goes.join {tb : Tables} {S S' : State} (h1 : Goes tb e below S' P → Goes tb e below S P) (h2 : Goes tb e below S' P) : Goes tb e below S P := h1 h2
theorem Goes.cast {tb : Tables} {g g' : JFrame} (q : g = g') (k : Goes tb e below (T.setTop g') P) : Goes tb e below (T.setTop g) P := q ▸ k
theorem g_nameI {x v : Int32} (q : v = x) (k : Goes p.tables e below (T.setTop (mkF m pc Ls (.int v :: st))) P) : Goes p.tables e below (T.setTop (mkF m pc Ls (.int x :: st))) P := q ▸ k
theorem g_nameL {x v : Int64} (q : v = x) (k : Goes p.tables e below (T.setTop (mkF m pc Ls (.long v :: st))) P) : Goes p.tables e below (T.setTop (mkF m pc Ls (.long x :: st))) P := q ▸ k
theorem g_iloadN (X : Stand p l e R s m args below meth c T locs cells slots) (hx : p.tables.exec = Jvm.exec) {k : Fin 4} {v : Int32} (hd : decode c.code pc = .ok (.iload_n k, 1)) (hl : Ls[k.val]? = some (.val (.int v))) (hr : Goes p.tables e below (T.setTop (mkF m (pc + 1) Ls (.int v :: st))) P) : Goes p.tables e below (T.setTop (mkF m pc Ls st)) P := hr.of fun _ k => XS.iloadN X.here hx rfl hd hl k
theorem g_iload (X : Stand p l e R s m args below meth c T locs cells slots) (hx : p.tables.exec = Jvm.exec) {k : Nat} {v : Int32} (hd : decode c.code pc = .ok (.iload k, 2)) (hl : Ls[k]? = some (.val (.int v))) (hr : Goes p.tables e below (T.setTop (mkF m (pc + 2) Ls (.int v :: st))) P) : Goes p.tables e below (T.setTop (mkF m pc Ls st)) P := hr.of fun _ k => XS.iload X.here hx rfl hd hl k
theorem g_lloadN (X : Stand p l e R s m args below meth c T locs cells slots) (hx : p.tables.exec = Jvm.exec) {k : Fin 4} {v : Int64} (hd : decode c.code pc = .ok (.lload_n k, 1)) (hl : Ls[k.val]? = some (.val (.long v))) (hr : Goes p.tables e below (T.setTop (mkF m (pc + 1) Ls (.long v :: st))) P) : Goes p.tables e below (T.setTop (mkF m pc Ls st)) P := hr.of fun _ k => XT.lloadN X.here hx rfl hd hl k
theorem g_lload (X : Stand p l e R s m args below meth c T locs cells slots) (hx : p.tables.exec = Jvm.exec) {k : Nat} {v : Int64} (hd : decode c.code pc = .ok (.lload k, 2)) (hl : Ls[k]? = some (.val (.long v))) (hr : Goes p.tables e below (T.setTop (mkF m (pc + 2) Ls (.long v :: st))) P) : Goes p.tables e below (T.setTop (mkF m pc Ls st)) P := hr.of fun _ k => XT.lload X.here hx rfl hd hl k
theorem g_aloadN (X : Stand p l e R s m args below meth c T locs cells slots) (hx : p.tables.exec = Jvm.exec) {k : Fin 4} {v : Value} (hd : decode c.code pc = .ok (.aload_n k, 1)) (hl : Ls[k.val]? = some (.val v)) (hv : v.isRef = true) (hr : Goes p.tables e below (T.setTop (mkF m (pc + 1) Ls (v :: st))) P) : Goes p.tables e below (T.setTop (mkF m pc Ls st)) P := hr.of fun _ k => XS.aloadN X.here hx rfl hd hl hv k
theorem g_aload (X : Stand p l e R s m args below meth c T locs cells slots) (hx : p.tables.exec = Jvm.exec) {k : Nat} {v : Value} (hd : decode c.code pc = .ok (.aload k, 2)) (hl : Ls[k]? = some (.val v)) (hv : v.isRef = true) (hr : Goes p.tables e below (T.setTop (mkF m (pc + 2) Ls (v :: st))) P) : Goes p.tables e below (T.setTop (mkF m pc Ls st)) P := hr.of fun _ k => XS.aload X.here hx rfl hd hl hv k
theorem g_istoreN (X : Stand p l e R s m args below meth c T locs cells slots) (hx : p.tables.exec = Jvm.exec) {k : Fin 4} {x : Int32} {l' : Array Slot} (hd : decode c.code pc = .ok (.istore_n k, 1)) (hl : storeLocals Ls k.val (.int x) = some l') (hr : Goes p.tables e below (T.setTop (mkF m (pc + 1) l' st)) P) : Goes p.tables e below (T.setTop (mkF m pc Ls (.int x :: st))) P := hr.of fun _ k => XS.istoreN X.here hx rfl hd rfl hl k
theorem g_istore (X : Stand p l e R s m args below meth c T locs cells slots) (hx : p.tables.exec = Jvm.exec) {k : Nat} {x : Int32} {l' : Array Slot} (hd : decode c.code pc = .ok (.istore k, 2)) (hl : storeLocals Ls k (.int x) = some l') (hr : Goes p.tables e below (T.setTop (mkF m (pc + 2) l' st)) P) : Goes p.tables e below (T.setTop (mkF m pc Ls (.int x :: st))) P := hr.of fun _ k => XS.istore X.here hx rfl hd rfl hl k
theorem g_lstoreN (X : Stand p l e R s m args below meth c T locs cells slots) (hx : p.tables.exec = Jvm.exec) {k : Fin 4} {x : Int64} {l' : Array Slot} (hd : decode c.code pc = .ok (.lstore_n k, 1)) (hl : storeLocals Ls k.val (.long x) = some l') (hr : Goes p.tables e below (T.setTop (mkF m (pc + 1) l' st)) P) : Goes p.tables e below (T.setTop (mkF m pc Ls (.long x :: st))) P := hr.of fun _ k => XT.lstoreN X.here hx rfl hd rfl hl k
theorem g_lstore (X : Stand p l e R s m args below meth c T locs cells slots) (hx : p.tables.exec = Jvm.exec) {k : Nat} {x : Int64} {l' : Array Slot} (hd : decode c.code pc = .ok (.lstore k, 2)) (hl : storeLocals Ls k (.long x) = some l') (hr : Goes p.tables e below (T.setTop (mkF m (pc + 2) l' st)) P) : Goes p.tables e below (T.setTop (mkF m pc Ls (.long x :: st))) P := hr.of fun _ k => XT.lstore X.here hx rfl hd rfl hl k
theorem g_astoreN (X : Stand p l e R s m args below meth c T locs cells slots) (hx : p.tables.exec = Jvm.exec) {k : Fin 4} {x : Value} {l' : Array Slot} (hd : decode c.code pc = .ok (.astore_n k, 1)) (hv : x.isRef = true) (hl : storeLocals Ls k.val x = some l') (hr : Goes p.tables e below (T.setTop (mkF m (pc + 1) l' st)) P) : Goes p.tables e below (T.setTop (mkF m pc Ls (x :: st))) P := hr.of fun _ k => XS.astoreN X.here hx rfl hd rfl hv hl k
theorem g_astore (X : Stand p l e R s m args below meth c T locs cells slots) (hx : p.tables.exec = Jvm.exec) {k : Nat} {x : Value} {l' : Array Slot} (hd : decode c.code pc = .ok (.astore k, 2)) (hv : x.isRef = true) (hl : storeLocals Ls k x = some l') (hr : Goes p.tables e below (T.setTop (mkF m (pc + 2) l' st)) P) : Goes p.tables e below (T.setTop (mkF m pc Ls (x :: st))) P := hr.of fun _ k => XS.astore X.here hx rfl hd rfl hv hl k
theorem g_istoreS (X : Stand p l e R s m args below meth c T locs cells slots) (hx : p.tables.exec = Jvm.exec) {k : Nat} {x : Int32} {o : Slot} (hd : decode c.code pc = .ok (.istore k, 2)) (hold : Ls[k]? = some o) (ho : One o) (hr : Goes p.tables e below (T.setTop (mkF m (pc + 2) (Ls.setIfInBounds k (.val (.int x))) st)) P) : Goes p.tables e below (T.setTop (mkF m pc Ls (.int x :: st))) P := hr.of fun _ k => XS.istoreS X.here hx rfl hd rfl hold ho k
theorem g_istoreNS (X : Stand p l e R s m args below meth c T locs cells slots) (hx : p.tables.exec = Jvm.exec) {k : Fin 4} {x : Int32} {o : Slot} (hd : decode c.code pc = .ok (.istore_n k, 1)) (hold : Ls[k.val]? = some o) (ho : One o) (hr : Goes p.tables e below (T.setTop (mkF m (pc + 1) (Ls.setIfInBounds k.val (.val (.int x))) st)) P) : Goes p.tables e below (T.setTop (mkF m pc Ls (.int x :: st))) P := hr.of fun _ k => XS.istoreNS X.here hx rfl hd rfl hold ho k
theorem g_iconst (X : Stand p l e R s m args below meth c T locs cells slots) (hx : p.tables.exec = Jvm.exec) {i : Int} (v : Int32) (hd : decode c.code pc = .ok (.iconst i, 1)) (hv : Int32.ofInt i = v) (hr : Goes p.tables e below (T.setTop (mkF m (pc + 1) Ls (.int v :: st))) P) : Goes p.tables e below (T.setTop (mkF m pc Ls st)) P := hr.of fun _ k => XT.iconstV X.here hx rfl v hd hv k
theorem g_bipush (X : Stand p l e R s m args below meth c T locs cells slots) (hx : p.tables.exec = Jvm.exec) {i : Int} (v : Int32) (hd : decode c.code pc = .ok (.bipush i, 2)) (hv : (Int8.ofInt i).toInt32 = v) (hr : Goes p.tables e below (T.setTop (mkF m (pc + 2) Ls (.int v :: st))) P) : Goes p.tables e below (T.setTop (mkF m pc Ls st)) P := hr.of fun _ k => XT.bipushV X.here hx rfl v hd hv k
theorem g_sipush (X : Stand p l e R s m args below meth c T locs cells slots) (hx : p.tables.exec = Jvm.exec) {i : Int} (v : Int32) (hd : decode c.code pc = .ok (.sipush i, 3)) (hv : (Int16.ofInt i).toInt32 = v) (hr : Goes p.tables e below (T.setTop (mkF m (pc + 3) Ls (.int v :: st))) P) : Goes p.tables e below (T.setTop (mkF m pc Ls st)) P := hr.of fun _ k => XT.sipushV X.here hx rfl v hd hv k
theorem g_lconst (X : Stand p l e R s m args below meth c T locs cells slots) (hx : p.tables.exec = Jvm.exec) {i : Fin 2} (v : Int64) (hd : decode c.code pc = .ok (.lconst i, 1)) (hv : Int64.ofNat i = v) (hr : Goes p.tables e below (T.setTop (mkF m (pc + 1) Ls (.long v :: st))) P) : Goes p.tables e below (T.setTop (mkF m pc Ls st)) P := hr.of fun _ k => XT.lconstV X.here hx rfl v hd hv k
theorem g_null (X : Stand p l e R s m args below meth c T locs cells slots) (hx : p.tables.exec = Jvm.exec)  (hd : decode c.code pc = .ok (.aconst_null, 1)) (hr : Goes p.tables e below (T.setTop (mkF m (pc + 1) Ls (.null :: st))) P) : Goes p.tables e below (T.setTop (mkF m pc Ls st)) P := hr.of fun _ k => XS.aconstNull X.here hx rfl hd k
theorem g_ldc (X : Stand p l e R s m args below meth c T locs cells slots) (hx : p.tables.exec = Jvm.exec) {own : String} {index : Nat} {v : Int32} (hZ : Z.Warmed39 s.vm) (hown : s.vm.findClass own = some m.cls) (wk : (Jvm.Cond.constant own index v).before a0 Z = true) (hd : decode c.code pc = .ok (.ldc index, 2)) (hr : Goes p.tables e below (T.setTop (mkF m (pc + 2) Ls (.int v :: st))) P) : Goes p.tables e below (T.setTop (mkF m pc Ls st)) P := hr.of fun _ k => X.ldcI hx hown (mvT hZ wk) rfl hd k
theorem g_ldcw (X : Stand p l e R s m args below meth c T locs cells slots) (hx : p.tables.exec = Jvm.exec) {own : String} {index : Nat} {v : Int32} (hZ : Z.Warmed39 s.vm) (hown : s.vm.findClass own = some m.cls) (wk : (Jvm.Cond.constant own index v).before a0 Z = true) (hd : decode c.code pc = .ok (.ldc_w index, 3)) (hr : Goes p.tables e below (T.setTop (mkF m (pc + 3) Ls (.int v :: st))) P) : Goes p.tables e below (T.setTop (mkF m pc Ls st)) P := hr.of fun _ k => X.ldcWI hx hown (mvT hZ wk) rfl hd k
theorem g_ldc2 (X : Stand p l e R s m args below meth c T locs cells slots) (hx : p.tables.exec = Jvm.exec) {own : String} {index : Nat} {v : Int64} (hZ : Z.Warmed39 s.vm) (hown : s.vm.findClass own = some m.cls) (wk : (Jvm.Cond.constantLong own index v).before a0 Z = true) (hd : decode c.code pc = .ok (.ldc2_w index, 3)) (hr : Goes p.tables e below (T.setTop (mkF m (pc + 3) Ls (.long v :: st))) P) : Goes p.tables e below (T.setTop (mkF m pc Ls st)) P := hr.of fun _ k => X.ldc2J hx hown (mvT hZ wk) rfl hd k
theorem g_iadd (X : Stand p l e R s m args below meth c T locs cells slots) (hx : p.tables.exec = Jvm.exec) {x y : Int32} (hd : decode c.code pc = .ok (.iadd, 1)) (hr : Goes p.tables e below (T.setTop (mkF m (pc + 1) Ls (.int (x + y) :: st))) P) : Goes p.tables e below (T.setTop (mkF m pc Ls (.int y :: .int x :: st))) P := hr.of fun _ k => XS.iadd X.here hx rfl hd rfl k
theorem g_isub (X : Stand p l e R s m args below meth c T locs cells slots) (hx : p.tables.exec = Jvm.exec) {x y : Int32} (hd : decode c.code pc = .ok (.isub, 1)) (hr : Goes p.tables e below (T.setTop (mkF m (pc + 1) Ls (.int (x - y) :: st))) P) : Goes p.tables e below (T.setTop (mkF m pc Ls (.int y :: .int x :: st))) P := hr.of fun _ k => XS.isub X.here hx rfl hd rfl k
theorem g_imul (X : Stand p l e R s m args below meth c T locs cells slots) (hx : p.tables.exec = Jvm.exec) {x y : Int32} (hd : decode c.code pc = .ok (.imul, 1)) (hr : Goes p.tables e below (T.setTop (mkF m (pc + 1) Ls (.int (x * y) :: st))) P) : Goes p.tables e below (T.setTop (mkF m pc Ls (.int y :: .int x :: st))) P := hr.of fun _ k => XS.imul X.here hx rfl hd rfl k
theorem g_iand (X : Stand p l e R s m args below meth c T locs cells slots) (hx : p.tables.exec = Jvm.exec) {x y : Int32} (hd : decode c.code pc = .ok (.iand, 1)) (hr : Goes p.tables e below (T.setTop (mkF m (pc + 1) Ls (.int (x &&& y) :: st))) P) : Goes p.tables e below (T.setTop (mkF m pc Ls (.int y :: .int x :: st))) P := hr.of fun _ k => XS.iand X.here hx rfl hd rfl k
theorem g_ior (X : Stand p l e R s m args below meth c T locs cells slots) (hx : p.tables.exec = Jvm.exec) {x y : Int32} (hd : decode c.code pc = .ok (.ior, 1)) (hr : Goes p.tables e below (T.setTop (mkF m (pc + 1) Ls (.int (x ||| y) :: st))) P) : Goes p.tables e below (T.setTop (mkF m pc Ls (.int y :: .int x :: st))) P := hr.of fun _ k => XT.ior X.here hx rfl hd rfl k
theorem g_ixor (X : Stand p l e R s m args below meth c T locs cells slots) (hx : p.tables.exec = Jvm.exec) {x y : Int32} (hd : decode c.code pc = .ok (.ixor, 1)) (hr : Goes p.tables e below (T.setTop (mkF m (pc + 1) Ls (.int (x ^^^ y) :: st))) P) : Goes p.tables e below (T.setTop (mkF m pc Ls (.int y :: .int x :: st))) P := hr.of fun _ k => XT.ixor X.here hx rfl hd rfl k
theorem g_ishl (X : Stand p l e R s m args below meth c T locs cells slots) (hx : p.tables.exec = Jvm.exec) {x y : Int32} (hd : decode c.code pc = .ok (.ishl, 1)) (hr : Goes p.tables e below (T.setTop (mkF m (pc + 1) Ls (.int (x <<< (y &&& 31)) :: st))) P) : Goes p.tables e below (T.setTop (mkF m pc Ls (.int y :: .int x :: st))) P := hr.of fun _ k => XT.ishl X.here hx rfl hd rfl k
theorem g_ishr (X : Stand p l e R s m args below meth c T locs cells slots) (hx : p.tables.exec = Jvm.exec) {x y : Int32} (hd : decode c.code pc = .ok (.ishr, 1)) (hr : Goes p.tables e below (T.setTop (mkF m (pc + 1) Ls (.int (x >>> (y &&& 31)) :: st))) P) : Goes p.tables e below (T.setTop (mkF m pc Ls (.int y :: .int x :: st))) P := hr.of fun _ k => XT.ishr X.here hx rfl hd rfl k
theorem g_iushr (X : Stand p l e R s m args below meth c T locs cells slots) (hx : p.tables.exec = Jvm.exec) {x y : Int32} (hd : decode c.code pc = .ok (.iushr, 1)) (hr : Goes p.tables e below (T.setTop (mkF m (pc + 1) Ls (.int (XT.ushr x y) :: st))) P) : Goes p.tables e below (T.setTop (mkF m pc Ls (.int y :: .int x :: st))) P := hr.of fun _ k => XT.iushr X.here hx rfl hd rfl k
theorem g_ladd (X : Stand p l e R s m args below meth c T locs cells slots) (hx : p.tables.exec = Jvm.exec) {x y : Int64} (hd : decode c.code pc = .ok (.ladd, 1)) (hr : Goes p.tables e below (T.setTop (mkF m (pc + 1) Ls (.long (x + y) :: st))) P) : Goes p.tables e below (T.setTop (mkF m pc Ls (.long y :: .long x :: st))) P := hr.of fun _ k => XT.ladd X.here hx rfl hd rfl k
theorem g_lsub (X : Stand p l e R s m args below meth c T locs cells slots) (hx : p.tables.exec = Jvm.exec) {x y : Int64} (hd : decode c.code pc = .ok (.lsub, 1)) (hr : Goes p.tables e below (T.setTop (mkF m (pc + 1) Ls (.long (x - y) :: st))) P) : Goes p.tables e below (T.setTop (mkF m pc Ls (.long y :: .long x :: st))) P := hr.of fun _ k => XT.lsub X.here hx rfl hd rfl k
theorem g_lmul (X : Stand p l e R s m args below meth c T locs cells slots) (hx : p.tables.exec = Jvm.exec) {x y : Int64} (hd : decode c.code pc = .ok (.lmul, 1)) (hr : Goes p.tables e below (T.setTop (mkF m (pc + 1) Ls (.long (x * y) :: st))) P) : Goes p.tables e below (T.setTop (mkF m pc Ls (.long y :: .long x :: st))) P := hr.of fun _ k => XT.lmul X.here hx rfl hd rfl k
theorem g_land (X : Stand p l e R s m args below meth c T locs cells slots) (hx : p.tables.exec = Jvm.exec) {x y : Int64} (hd : decode c.code pc = .ok (.land, 1)) (hr : Goes p.tables e below (T.setTop (mkF m (pc + 1) Ls (.long (x &&& y) :: st))) P) : Goes p.tables e below (T.setTop (mkF m pc Ls (.long y :: .long x :: st))) P := hr.of fun _ k => XT.land X.here hx rfl hd rfl k
theorem g_lor (X : Stand p l e R s m args below meth c T locs cells slots) (hx : p.tables.exec = Jvm.exec) {x y : Int64} (hd : decode c.code pc = .ok (.lor, 1)) (hr : Goes p.tables e below (T.setTop (mkF m (pc + 1) Ls (.long (x ||| y) :: st))) P) : Goes p.tables e below (T.setTop (mkF m pc Ls (.long y :: .long x :: st))) P := hr.of fun _ k => XT.lor X.here hx rfl hd rfl k
theorem g_lxor (X : Stand p l e R s m args below meth c T locs cells slots) (hx : p.tables.exec = Jvm.exec) {x y : Int64} (hd : decode c.code pc = .ok (.lxor, 1)) (hr : Goes p.tables e below (T.setTop (mkF m (pc + 1) Ls (.long (x ^^^ y) :: st))) P) : Goes p.tables e below (T.setTop (mkF m pc Ls (.long y :: .long x :: st))) P := hr.of fun _ k => XT.lxor X.here hx rfl hd rfl k
theorem g_lshl (X : Stand p l e R s m args below meth c T locs cells slots) (hx : p.tables.exec = Jvm.exec) {x : Int64} {y : Int32} (hd : decode c.code pc = .ok (.lshl, 1)) (hr : Goes p.tables e below (T.setTop (mkF m (pc + 1) Ls (.long (x <<< (y.toInt64 &&& 63)) :: st))) P) : Goes p.tables e below (T.setTop (mkF m pc Ls (.int y :: .long x :: st))) P := hr.of fun _ k => XT.lshl X.here hx rfl hd rfl k
theorem g_lshr (X : Stand p l e R s m args below meth c T locs cells slots) (hx : p.tables.exec = Jvm.exec) {x : Int64} {y : Int32} (hd : decode c.code pc = .ok (.lshr, 1)) (hr : Goes p.tables e below (T.setTop (mkF m (pc + 1) Ls (.long (x >>> (y.toInt64 &&& 63)) :: st))) P) : Goes p.tables e below (T.setTop (mkF m pc Ls (.int y :: .long x :: st))) P := hr.of fun _ k => XT.lshr X.here hx rfl hd rfl k
theorem g_lushr (X : Stand p l e R s m args below meth c T locs cells slots) (hx : p.tables.exec = Jvm.exec) {x : Int64} {y : Int32} (hd : decode c.code pc = .ok (.lushr, 1)) (hr : Goes p.tables e below (T.setTop (mkF m (pc + 1) Ls (.long (XT.ushrL x y) :: st))) P) : Goes p.tables e below (T.setTop (mkF m pc Ls (.int y :: .long x :: st))) P := hr.of fun _ k => XT.lushr X.here hx rfl hd rfl k
theorem g_idiv (X : Stand p l e R s m args below meth c T locs cells slots) (hx : p.tables.exec = Jvm.exec) {x y : Int32} (hd : decode c.code pc = .ok (.idiv, 1)) (hy : y ≠ 0) (hr : Goes p.tables e below (T.setTop (mkF m (pc + 1) Ls (.int (x / y) :: st))) P) : Goes p.tables e below (T.setTop (mkF m pc Ls (.int y :: .int x :: st))) P := hr.of fun _ k => XS.idiv X.here hx rfl hd rfl hy k
theorem g_irem (X : Stand p l e R s m args below meth c T locs cells slots) (hx : p.tables.exec = Jvm.exec) {x y : Int32} (hd : decode c.code pc = .ok (.irem, 1)) (hy : y ≠ 0) (hr : Goes p.tables e below (T.setTop (mkF m (pc + 1) Ls (.int (x % y) :: st))) P) : Goes p.tables e below (T.setTop (mkF m pc Ls (.int y :: .int x :: st))) P := hr.of fun _ k => iremM X hx rfl hd rfl hy k
theorem g_ldiv (X : Stand p l e R s m args below meth c T locs cells slots) (hx : p.tables.exec = Jvm.exec) {x y : Int64} (hd : decode c.code pc = .ok (.ldiv, 1)) (hy : y ≠ 0) (hr : Goes p.tables e below (T.setTop (mkF m (pc + 1) Ls (.long (x / y) :: st))) P) : Goes p.tables e below (T.setTop (mkF m pc Ls (.long y :: .long x :: st))) P := hr.of fun _ k => XT.ldiv X.here hx rfl hd rfl hy k
theorem g_lrem (X : Stand p l e R s m args below meth c T locs cells slots) (hx : p.tables.exec = Jvm.exec) {x y : Int64} (hd : decode c.code pc = .ok (.lrem, 1)) (hy : y ≠ 0) (hr : Goes p.tables e below (T.setTop (mkF m (pc + 1) Ls (.long (x % y) :: st))) P) : Goes p.tables e below (T.setTop (mkF m pc Ls (.long y :: .long x :: st))) P := hr.of fun _ k => XT.lrem X.here hx rfl hd rfl hy (by rw [lrem_mod]; exact k)
theorem g_ineg (X : Stand p l e R s m args below meth c T locs cells slots) (hx : p.tables.exec = Jvm.exec) {x : Int32} (hd : decode c.code pc = .ok (.ineg, 1)) (hr : Goes p.tables e below (T.setTop (mkF m (pc + 1) Ls (.int (-x) :: st))) P) : Goes p.tables e below (T.setTop (mkF m pc Ls (.int x :: st))) P := hr.of fun _ k => XS.ineg X.here hx rfl hd rfl k
theorem g_lneg (X : Stand p l e R s m args below meth c T locs cells slots) (hx : p.tables.exec = Jvm.exec) {x : Int64} (hd : decode c.code pc = .ok (.lneg, 1)) (hr : Goes p.tables e below (T.setTop (mkF m (pc + 1) Ls (.long (-x) :: st))) P) : Goes p.tables e below (T.setTop (mkF m pc Ls (.long x :: st))) P := hr.of fun _ k => XT.lneg X.here hx rfl hd rfl k
theorem g_i2l (X : Stand p l e R s m args below meth c T locs cells slots) (hx : p.tables.exec = Jvm.exec) {x : Int32} (hd : decode c.code pc = .ok (.i2l, 1)) (hr : Goes p.tables e below (T.setTop (mkF m (pc + 1) Ls (.long (x.toInt64) :: st))) P) : Goes p.tables e below (T.setTop (mkF m pc Ls (.int x :: st))) P := hr.of fun _ k => XT.i2l X.here hx rfl hd rfl k
theorem g_l2i (X : Stand p l e R s m args below meth c T locs cells slots) (hx : p.tables.exec = Jvm.exec) {x : Int64} (hd : decode c.code pc = .ok (.l2i, 1)) (hr : Goes p.tables e below (T.setTop (mkF m (pc + 1) Ls (.int (x.toInt32) :: st))) P) : Goes p.tables e below (T.setTop (mkF m pc Ls (.long x :: st))) P := hr.of fun _ k => XT.l2i X.here hx rfl hd rfl k
theorem g_i2b (X : Stand p l e R s m args below meth c T locs cells slots) (hx : p.tables.exec = Jvm.exec) {x : Int32} (hd : decode c.code pc = .ok (.i2b, 1)) (hr : Goes p.tables e below (T.setTop (mkF m (pc + 1) Ls (.int (x.toInt8.toInt32) :: st))) P) : Goes p.tables e below (T.setTop (mkF m pc Ls (.int x :: st))) P := hr.of fun _ k => XT.i2b X.here hx rfl hd rfl k
theorem g_i2c (X : Stand p l e R s m args below meth c T locs cells slots) (hx : p.tables.exec = Jvm.exec) {x : Int32} (hd : decode c.code pc = .ok (.i2c, 1)) (hr : Goes p.tables e below (T.setTop (mkF m (pc + 1) Ls (.int (x.toUInt32.toUInt16.toUInt32.toInt32) :: st))) P) : Goes p.tables e below (T.setTop (mkF m pc Ls (.int x :: st))) P := hr.of fun _ k => XT.i2c X.here hx rfl hd rfl k
theorem g_i2s (X : Stand p l e R s m args below meth c T locs cells slots) (hx : p.tables.exec = Jvm.exec) {x : Int32} (hd : decode c.code pc = .ok (.i2s, 1)) (hr : Goes p.tables e below (T.setTop (mkF m (pc + 1) Ls (.int (x.toInt16.toInt32) :: st))) P) : Goes p.tables e below (T.setTop (mkF m pc Ls (.int x :: st))) P := hr.of fun _ k => XT.i2s X.here hx rfl hd rfl k
theorem g_lcmp (X : Stand p l e R s m args below meth c T locs cells slots) (hx : p.tables.exec = Jvm.exec) {x y : Int64} (hd : decode c.code pc = .ok (.lcmp, 1)) (hr : Goes p.tables e below (T.setTop (mkF m (pc + 1) Ls (.int (XT.cmpL x y) :: st))) P) : Goes p.tables e below (T.setTop (mkF m pc Ls (.long y :: .long x :: st))) P := hr.of fun _ k => XT.lcmp X.here hx rfl hd rfl k
theorem g_dup (X : Stand p l e R s m args below meth c T locs cells slots) (hx : p.tables.exec = Jvm.exec) {x : Value} (hd : decode c.code pc = .ok (.dup, 1)) (hc : x.category = 1) (hr : Goes p.tables e below (T.setTop (mkF m (pc + 1) Ls (x :: x :: st))) P) : Goes p.tables e below (T.setTop (mkF m pc Ls (x :: st))) P := hr.of fun _ k => XS.dup X.here hx rfl hd rfl hc k
theorem g_pop (X : Stand p l e R s m args below meth c T locs cells slots) (hx : p.tables.exec = Jvm.exec) {x : Value} (hd : decode c.code pc = .ok (.pop, 1)) (hc : x.category = 1) (hr : Goes p.tables e below (T.setTop (mkF m (pc + 1) Ls st)) P) : Goes p.tables e below (T.setTop (mkF m pc Ls (x :: st))) P := hr.of fun _ k => XT.pop X.here hx rfl hd rfl hc k
theorem g_dupX1 (X : Stand p l e R s m args below meth c T locs cells slots) (hx : p.tables.exec = Jvm.exec) {x y : Value} (hd : decode c.code pc = .ok (.dup_x1, 1)) (hc : x.category = 1) (hc' : y.category = 1) (hr : Goes p.tables e below (T.setTop (mkF m (pc + 1) Ls (x :: y :: x :: st))) P) : Goes p.tables e below (T.setTop (mkF m pc Ls (x :: y :: st))) P := hr.of fun _ k => XT.dupX1 X.here hx rfl hd rfl hc hc' k
theorem g_dup2 (X : Stand p l e R s m args below meth c T locs cells slots) (hx : p.tables.exec = Jvm.exec) {x y : Value} (hd : decode c.code pc = .ok (.dup2, 1)) (hc : x.category = 1) (hc' : y.category = 1) (hr : Goes p.tables e below (T.setTop (mkF m (pc + 1) Ls (x :: y :: x :: y :: st))) P) : Goes p.tables e below (T.setTop (mkF m pc Ls (x :: y :: st))) P := hr.of fun _ k => XT.dup2 X.here hx rfl hd rfl hc hc' k
theorem g_dup2L (X : Stand p l e R s m args below meth c T locs cells slots) (hx : p.tables.exec = Jvm.exec) {x : Int64} (hd : decode c.code pc = .ok (.dup2, 1)) (hr : Goes p.tables e below (T.setTop (mkF m (pc + 1) Ls (.long x :: .long x :: st))) P) : Goes p.tables e below (T.setTop (mkF m pc Ls (.long x :: st))) P := hr.of fun _ k => XT.dup2L X.here hx rfl hd rfl k
theorem g_iinc (X : Stand p l e R s m args below meth c T locs cells slots) (hx : p.tables.exec = Jvm.exec) {k : Nat} {cst : Int} {x : Int32} {l' : Array Slot} (v : Int32) (hd : decode c.code pc = .ok (.iinc k cst, 3)) (hv : Int32.ofInt cst = v) (hl : Ls[k]? = some (.val (.int x))) (hl' : storeLocals Ls k (.int (x + v)) = some l') (hr : Goes p.tables e below (T.setTop (mkF m (pc + 3) l' st)) P) : Goes p.tables e below (T.setTop (mkF m pc Ls st)) P := hr.of fun _ k => XT.iincV X.here hx rfl v hd hv hl hl' k
theorem g_goto (X : Stand p l e R s m args below meth c T locs cells slots) (hx : p.tables.exec = Jvm.exec) {o : Int} {pc' : Nat} (hd : decode c.code pc = .ok (.goto o, 3)) (ho : 0 ≤ (pc : Int) + o) (hp : ((pc : Int) + o).toNat = pc') (hr : Goes p.tables e below (T.setTop (mkF m pc' Ls st)) P) : Goes p.tables e below (T.setTop (mkF m pc Ls st)) P := hr.of fun _ k => XS.goto X.here hx rfl rfl hd ho hp k
theorem g_icmp_eq (X : Stand p l e R s m args below meth c T locs cells slots) (hx : p.tables.exec = Jvm.exec) {x y : Int32} {o : Int} {pc' : Nat} (hd : decode c.code pc = .ok (.if_icmp .eq o, 3)) (ho : 0 ≤ (pc : Int) + o) (hp : ((pc : Int) + o).toNat = pc') (hT : (x = y) → Goes p.tables e below (T.setTop (mkF m pc' Ls st)) P) (hF : (¬ x = y) → Goes p.tables e below (T.setTop (mkF m (pc + 3) Ls st)) P) : Goes p.tables e below (T.setTop (mkF m pc Ls (.int y :: .int x :: st))) P := by
  by_cases q : x = y
  · exact (hT q).of fun _ k => XS.icmpYes X.here hx rfl rfl hd rfl (XT.ii_eq_t q) ho hp k
  · exact (hF q).of fun _ k => XS.icmpNo X.here hx rfl hd rfl (XT.ii_eq_f q) k
theorem g_if_eq (X : Stand p l e R s m args below meth c T locs cells slots) (hx : p.tables.exec = Jvm.exec) {x : Int32} {o : Int} {pc' : Nat} (hd : decode c.code pc = .ok (.ifCond .eq o, 3)) (ho : 0 ≤ (pc : Int) + o) (hp : ((pc : Int) + o).toNat = pc') (hT : (x = 0) → Goes p.tables e below (T.setTop (mkF m pc' Ls st)) P) (hF : (¬ x = 0) → Goes p.tables e below (T.setTop (mkF m (pc + 3) Ls st)) P) : Goes p.tables e below (T.setTop (mkF m pc Ls (.int x :: st))) P := by
  by_cases q : x = 0
  · exact (hT q).of fun _ k => XS.ifYes X.here hx rfl rfl hd rfl (XT.i0_eq_t q) ho hp k
  · exact (hF q).of fun _ k => XS.ifNo X.here hx rfl hd rfl (XT.i0_eq_f q) k
theorem g_lif_eq (X : Stand p l e R s m args below meth c T locs cells slots) (hx : p.tables.exec = Jvm.exec) {x y : Int64} {o : Int} {pc' : Nat} (hd : decode c.code pc = .ok (.ifCond .eq o, 3)) (ho : 0 ≤ (pc : Int) + o) (hp : ((pc : Int) + o).toNat = pc') (hT : (x = y) → Goes p.tables e below (T.setTop (mkF m pc' Ls st)) P) (hF : (¬ x = y) → Goes p.tables e below (T.setTop (mkF m (pc + 3) Ls st)) P) : Goes p.tables e below (T.setTop (mkF m pc Ls (.int (XT.cmpL x y) :: st))) P := by
  by_cases q : x = y
  · exact (hT q).of fun _ k => XS.ifYes X.here hx rfl rfl hd rfl (XT.ll_eq_t q) ho hp k
  · exact (hF q).of fun _ k => XS.ifNo X.here hx rfl hd rfl (XT.ll_eq_f q) k
theorem g_icmp_ne (X : Stand p l e R s m args below meth c T locs cells slots) (hx : p.tables.exec = Jvm.exec) {x y : Int32} {o : Int} {pc' : Nat} (hd : decode c.code pc = .ok (.if_icmp .ne o, 3)) (ho : 0 ≤ (pc : Int) + o) (hp : ((pc : Int) + o).toNat = pc') (hT : (¬ x = y) → Goes p.tables e below (T.setTop (mkF m pc' Ls st)) P) (hF : (x = y) → Goes p.tables e below (T.setTop (mkF m (pc + 3) Ls st)) P) : Goes p.tables e below (T.setTop (mkF m pc Ls (.int y :: .int x :: st))) P := by
  by_cases q : x = y
  · exact (hF q).of fun _ k => XS.icmpNo X.here hx rfl hd rfl (XT.ii_ne_f q) k
  · exact (hT q).of fun _ k => XS.icmpYes X.here hx rfl rfl hd rfl (XT.ii_ne_t q) ho hp k
theorem g_if_ne (X : Stand p l e R s m args below meth c T locs cells slots) (hx : p.tables.exec = Jvm.exec) {x : Int32} {o : Int} {pc' : Nat} (hd : decode c.code pc = .ok (.ifCond .ne o, 3)) (ho : 0 ≤ (pc : Int) + o) (hp : ((pc : Int) + o).toNat = pc') (hT : (¬ x = 0) → Goes p.tables e below (T.setTop (mkF m pc' Ls st)) P) (hF : (x = 0) → Goes p.tables e below (T.setTop (mkF m (pc + 3) Ls st)) P) : Goes p.tables e below (T.setTop (mkF m pc Ls (.int x :: st))) P := by
  by_cases q : x = 0
  · exact (hF q).of fun _ k => XS.ifNo X.here hx rfl hd rfl (XT.i0_ne_f q) k
  · exact (hT q).of fun _ k => XS.ifYes X.here hx rfl rfl hd rfl (XT.i0_ne_t q) ho hp k
theorem g_lif_ne (X : Stand p l e R s m args below meth c T locs cells slots) (hx : p.tables.exec = Jvm.exec) {x y : Int64} {o : Int} {pc' : Nat} (hd : decode c.code pc = .ok (.ifCond .ne o, 3)) (ho : 0 ≤ (pc : Int) + o) (hp : ((pc : Int) + o).toNat = pc') (hT : (¬ x = y) → Goes p.tables e below (T.setTop (mkF m pc' Ls st)) P) (hF : (x = y) → Goes p.tables e below (T.setTop (mkF m (pc + 3) Ls st)) P) : Goes p.tables e below (T.setTop (mkF m pc Ls (.int (XT.cmpL x y) :: st))) P := by
  by_cases q : x = y
  · exact (hF q).of fun _ k => XS.ifNo X.here hx rfl hd rfl (XT.ll_ne_f q) k
  · exact (hT q).of fun _ k => XS.ifYes X.here hx rfl rfl hd rfl (XT.ll_ne_t q) ho hp k
theorem g_icmp_lt (X : Stand p l e R s m args below meth c T locs cells slots) (hx : p.tables.exec = Jvm.exec) {x y : Int32} {o : Int} {pc' : Nat} (hd : decode c.code pc = .ok (.if_icmp .lt o, 3)) (ho : 0 ≤ (pc : Int) + o) (hp : ((pc : Int) + o).toNat = pc') (hT : (x < y) → Goes p.tables e below (T.setTop (mkF m pc' Ls st)) P) (hF : (¬ x < y) → Goes p.tables e below (T.setTop (mkF m (pc + 3) Ls st)) P) : Goes p.tables e below (T.setTop (mkF m pc Ls (.int y :: .int x :: st))) P := by
  by_cases q : x < y
  · exact (hT q).of fun _ k => XS.icmpYes X.here hx rfl rfl hd rfl (XT.ii_lt_t q) ho hp k
  · exact (hF q).of fun _ k => XS.icmpNo X.here hx rfl hd rfl (XT.ii_lt_f q) k
theorem g_if_lt (X : Stand p l e R s m args below meth c T locs cells slots) (hx : p.tables.exec = Jvm.exec) {x : Int32} {o : Int} {pc' : Nat} (hd : decode c.code pc = .ok (.ifCond .lt o, 3)) (ho : 0 ≤ (pc : Int) + o) (hp : ((pc : Int) + o).toNat = pc') (hT : (x < 0) → Goes p.tables e below (T.setTop (mkF m pc' Ls st)) P) (hF : (¬ x < 0) → Goes p.tables e below (T.setTop (mkF m (pc + 3) Ls st)) P) : Goes p.tables e below (T.setTop (mkF m pc Ls (.int x :: st))) P := by
  by_cases q : x < 0
  · exact (hT q).of fun _ k => XS.ifYes X.here hx rfl rfl hd rfl (XT.i0_lt_t q) ho hp k
  · exact (hF q).of fun _ k => XS.ifNo X.here hx rfl hd rfl (XT.i0_lt_f q) k
theorem g_lif_lt (X : Stand p l e R s m args below meth c T locs cells slots) (hx : p.tables.exec = Jvm.exec) {x y : Int64} {o : Int} {pc' : Nat} (hd : decode c.code pc = .ok (.ifCond .lt o, 3)) (ho : 0 ≤ (pc : Int) + o) (hp : ((pc : Int) + o).toNat = pc') (hT : (x < y) → Goes p.tables e below (T.setTop (mkF m pc' Ls st)) P) (hF : (¬ x < y) → Goes p.tables e below (T.setTop (mkF m (pc + 3) Ls st)) P) : Goes p.tables e below (T.setTop (mkF m pc Ls (.int (XT.cmpL x y) :: st))) P := by
  by_cases q : x < y
  · exact (hT q).of fun _ k => XS.ifYes X.here hx rfl rfl hd rfl (XT.ll_lt_t q) ho hp k
  · exact (hF q).of fun _ k => XS.ifNo X.here hx rfl hd rfl (XT.ll_lt_f q) k
theorem g_icmp_ge (X : Stand p l e R s m args below meth c T locs cells slots) (hx : p.tables.exec = Jvm.exec) {x y : Int32} {o : Int} {pc' : Nat} (hd : decode c.code pc = .ok (.if_icmp .ge o, 3)) (ho : 0 ≤ (pc : Int) + o) (hp : ((pc : Int) + o).toNat = pc') (hT : (¬ x < y) → Goes p.tables e below (T.setTop (mkF m pc' Ls st)) P) (hF : (x < y) → Goes p.tables e below (T.setTop (mkF m (pc + 3) Ls st)) P) : Goes p.tables e below (T.setTop (mkF m pc Ls (.int y :: .int x :: st))) P := by
  by_cases q : x < y
  · exact (hF q).of fun _ k => XS.icmpNo X.here hx rfl hd rfl (XT.ii_ge_f q) k
  · exact (hT q).of fun _ k => XS.icmpYes X.here hx rfl rfl hd rfl (XT.ii_ge_t q) ho hp k
theorem g_if_ge (X : Stand p l e R s m args below meth c T locs cells slots) (hx : p.tables.exec = Jvm.exec) {x : Int32} {o : Int} {pc' : Nat} (hd : decode c.code pc = .ok (.ifCond .ge o, 3)) (ho : 0 ≤ (pc : Int) + o) (hp : ((pc : Int) + o).toNat = pc') (hT : (¬ x < 0) → Goes p.tables e below (T.setTop (mkF m pc' Ls st)) P) (hF : (x < 0) → Goes p.tables e below (T.setTop (mkF m (pc + 3) Ls st)) P) : Goes p.tables e below (T.setTop (mkF m pc Ls (.int x :: st))) P := by
  by_cases q : x < 0
  · exact (hF q).of fun _ k => XS.ifNo X.here hx rfl hd rfl (XT.i0_ge_f q) k
  · exact (hT q).of fun _ k => XS.ifYes X.here hx rfl rfl hd rfl (XT.i0_ge_t q) ho hp k
theorem g_lif_ge (X : Stand p l e R s m args below meth c T locs cells slots) (hx : p.tables.exec = Jvm.exec) {x y : Int64} {o : Int} {pc' : Nat} (hd : decode c.code pc = .ok (.ifCond .ge o, 3)) (ho : 0 ≤ (pc : Int) + o) (hp : ((pc : Int) + o).toNat = pc') (hT : (¬ x < y) → Goes p.tables e below (T.setTop (mkF m pc' Ls st)) P) (hF : (x < y) → Goes p.tables e below (T.setTop (mkF m (pc + 3) Ls st)) P) : Goes p.tables e below (T.setTop (mkF m pc Ls (.int (XT.cmpL x y) :: st))) P := by
  by_cases q : x < y
  · exact (hF q).of fun _ k => XS.ifNo X.here hx rfl hd rfl (XT.ll_ge_f q) k
  · exact (hT q).of fun _ k => XS.ifYes X.here hx rfl rfl hd rfl (XT.ll_ge_t q) ho hp k
theorem g_icmp_gt (X : Stand p l e R s m args below meth c T locs cells slots) (hx : p.tables.exec = Jvm.exec) {x y : Int32} {o : Int} {pc' : Nat} (hd : decode c.code pc = .ok (.if_icmp .gt o, 3)) (ho : 0 ≤ (pc : Int) + o) (hp : ((pc : Int) + o).toNat = pc') (hT : (y < x) → Goes p.tables e below (T.setTop (mkF m pc' Ls st)) P) (hF : (¬ y < x) → Goes p.tables e below (T.setTop (mkF m (pc + 3) Ls st)) P) : Goes p.tables e below (T.setTop (mkF m pc Ls (.int y :: .int x :: st))) P := by
  by_cases q : y < x
  · exact (hT q).of fun _ k => XS.icmpYes X.here hx rfl rfl hd rfl (XT.ii_gt_t q) ho hp k
  · exact (hF q).of fun _ k => XS.icmpNo X.here hx rfl hd rfl (XT.ii_gt_f q) k
theorem g_if_gt (X : Stand p l e R s m args below meth c T locs cells slots) (hx : p.tables.exec = Jvm.exec) {x : Int32} {o : Int} {pc' : Nat} (hd : decode c.code pc = .ok (.ifCond .gt o, 3)) (ho : 0 ≤ (pc : Int) + o) (hp : ((pc : Int) + o).toNat = pc') (hT : (0 < x) → Goes p.tables e below (T.setTop (mkF m pc' Ls st)) P) (hF : (¬ 0 < x) → Goes p.tables e below (T.setTop (mkF m (pc + 3) Ls st)) P) : Goes p.tables e below (T.setTop (mkF m pc Ls (.int x :: st))) P := by
  by_cases q : 0 < x
  · exact (hT q).of fun _ k => XS.ifYes X.here hx rfl rfl hd rfl (XT.i0_gt_t q) ho hp k
  · exact (hF q).of fun _ k => XS.ifNo X.here hx rfl hd rfl (XT.i0_gt_f q) k
theorem g_lif_gt (X : Stand p l e R s m args below meth c T locs cells slots) (hx : p.tables.exec = Jvm.exec) {x y : Int64} {o : Int} {pc' : Nat} (hd : decode c.code pc = .ok (.ifCond .gt o, 3)) (ho : 0 ≤ (pc : Int) + o) (hp : ((pc : Int) + o).toNat = pc') (hT : (y < x) → Goes p.tables e below (T.setTop (mkF m pc' Ls st)) P) (hF : (¬ y < x) → Goes p.tables e below (T.setTop (mkF m (pc + 3) Ls st)) P) : Goes p.tables e below (T.setTop (mkF m pc Ls (.int (XT.cmpL x y) :: st))) P := by
  by_cases q : y < x
  · exact (hT q).of fun _ k => XS.ifYes X.here hx rfl rfl hd rfl (XT.ll_gt_t q) ho hp k
  · exact (hF q).of fun _ k => XS.ifNo X.here hx rfl hd rfl (XT.ll_gt_f q) k
theorem g_icmp_le (X : Stand p l e R s m args below meth c T locs cells slots) (hx : p.tables.exec = Jvm.exec) {x y : Int32} {o : Int} {pc' : Nat} (hd : decode c.code pc = .ok (.if_icmp .le o, 3)) (ho : 0 ≤ (pc : Int) + o) (hp : ((pc : Int) + o).toNat = pc') (hT : (¬ y < x) → Goes p.tables e below (T.setTop (mkF m pc' Ls st)) P) (hF : (y < x) → Goes p.tables e below (T.setTop (mkF m (pc + 3) Ls st)) P) : Goes p.tables e below (T.setTop (mkF m pc Ls (.int y :: .int x :: st))) P := by
  by_cases q : y < x
  · exact (hF q).of fun _ k => XS.icmpNo X.here hx rfl hd rfl (XT.ii_le_f q) k
  · exact (hT q).of fun _ k => XS.icmpYes X.here hx rfl rfl hd rfl (XT.ii_le_t q) ho hp k
theorem g_if_le (X : Stand p l e R s m args below meth c T locs cells slots) (hx : p.tables.exec = Jvm.exec) {x : Int32} {o : Int} {pc' : Nat} (hd : decode c.code pc = .ok (.ifCond .le o, 3)) (ho : 0 ≤ (pc : Int) + o) (hp : ((pc : Int) + o).toNat = pc') (hT : (¬ 0 < x) → Goes p.tables e below (T.setTop (mkF m pc' Ls st)) P) (hF : (0 < x) → Goes p.tables e below (T.setTop (mkF m (pc + 3) Ls st)) P) : Goes p.tables e below (T.setTop (mkF m pc Ls (.int x :: st))) P := by
  by_cases q : 0 < x
  · exact (hF q).of fun _ k => XS.ifNo X.here hx rfl hd rfl (XT.i0_le_f q) k
  · exact (hT q).of fun _ k => XS.ifYes X.here hx rfl rfl hd rfl (XT.i0_le_t q) ho hp k
theorem g_lif_le (X : Stand p l e R s m args below meth c T locs cells slots) (hx : p.tables.exec = Jvm.exec) {x y : Int64} {o : Int} {pc' : Nat} (hd : decode c.code pc = .ok (.ifCond .le o, 3)) (ho : 0 ≤ (pc : Int) + o) (hp : ((pc : Int) + o).toNat = pc') (hT : (¬ y < x) → Goes p.tables e below (T.setTop (mkF m pc' Ls st)) P) (hF : (y < x) → Goes p.tables e below (T.setTop (mkF m (pc + 3) Ls st)) P) : Goes p.tables e below (T.setTop (mkF m pc Ls (.int (XT.cmpL x y) :: st))) P := by
  by_cases q : y < x
  · exact (hF q).of fun _ k => XS.ifNo X.here hx rfl hd rfl (XT.ll_le_f q) k
  · exact (hT q).of fun _ k => XS.ifYes X.here hx rfl rfl hd rfl (XT.ll_le_t q) ho hp k
theorem g_ifnull_ref (X : Stand p l e R s m args below meth c T locs cells slots) (hx : p.tables.exec = Jvm.exec) {b : Addr} {o : Int} (hd : decode c.code pc = .ok (.ifnull o, 3)) (hr : Goes p.tables e below (T.setTop (mkF m (pc + 3) Ls st)) P) : Goes p.tables e below (T.setTop (mkF m pc Ls (.ref b :: st))) P := hr.of fun _ k => XS.ifnullNo X.here hx rfl hd rfl k
theorem g_ifnull_null (X : Stand p l e R s m args below meth c T locs cells slots) (hx : p.tables.exec = Jvm.exec)  {o : Int} {pc' : Nat} (hd : decode c.code pc = .ok (.ifnull o, 3)) (ho : 0 ≤ (pc : Int) + o) (hp : ((pc : Int) + o).toNat = pc') (hr : Goes p.tables e below (T.setTop (mkF m pc' Ls st)) P) : Goes p.tables e below (T.setTop (mkF m pc Ls (.null :: st))) P := hr.of fun _ k => XS.ifnullYes X.here hx rfl rfl hd rfl ho hp k
theorem g_ifnonnull_ref (X : Stand p l e R s m args below meth c T locs cells slots) (hx : p.tables.exec = Jvm.exec) {b : Addr} {o : Int} {pc' : Nat} (hd : decode c.code pc = .ok (.ifnonnull o, 3)) (ho : 0 ≤ (pc : Int) + o) (hp : ((pc : Int) + o).toNat = pc') (hr : Goes p.tables e below (T.setTop (mkF m pc' Ls st)) P) : Goes p.tables e below (T.setTop (mkF m pc Ls (.ref b :: st))) P := hr.of fun _ k => XT.ifnonnullYes X.here hx rfl rfl hd rfl ho hp k
theorem g_ifnonnull_null (X : Stand p l e R s m args below meth c T locs cells slots) (hx : p.tables.exec = Jvm.exec)  {o : Int} (hd : decode c.code pc = .ok (.ifnonnull o, 3)) (hr : Goes p.tables e below (T.setTop (mkF m (pc + 3) Ls st)) P) : Goes p.tables e below (T.setTop (mkF m pc Ls (.null :: st))) P := hr.of fun _ k => XT.ifnonnullNo X.here hx rfl hd rfl k
theorem g_acmp_eq (X : Stand p l e R s m args below meth c T locs cells slots) (hx : p.tables.exec = Jvm.exec) {x y : Value} (hx' : x.isRef = true) (hy' : y.isRef = true) {o : Int} {pc' : Nat} (hd : decode c.code pc = .ok (.if_acmp .eq o, 3)) (ho : 0 ≤ (pc : Int) + o) (hp : ((pc : Int) + o).toNat = pc') (hT : (x = y) → Goes p.tables e below (T.setTop (mkF m pc' Ls st)) P) (hF : (¬ x = y) → Goes p.tables e below (T.setTop (mkF m (pc + 3) Ls st)) P) : Goes p.tables e below (T.setTop (mkF m pc Ls (y :: x :: st))) P := by
  by_cases q : x = y
  · exact (hT q).of fun _ k => XT.acmpYes X.here hx rfl rfl hd rfl hx' hy' (by simp [XT.acmp, q]) ho hp k
  · exact (hF q).of fun _ k => XT.acmpNo X.here hx rfl hd rfl hx' hy' (by simp [XT.acmp, q]) k
theorem g_acmp_ne (X : Stand p l e R s m args below meth c T locs cells slots) (hx : p.tables.exec = Jvm.exec) {x y : Value} (hx' : x.isRef = true) (hy' : y.isRef = true) {o : Int} {pc' : Nat} (hd : decode c.code pc = .ok (.if_acmp .ne o, 3)) (ho : 0 ≤ (pc : Int) + o) (hp : ((pc : Int) + o).toNat = pc') (hT : (¬ x = y) → Goes p.tables e below (T.setTop (mkF m pc' Ls st)) P) (hF : (x = y) → Goes p.tables e below (T.setTop (mkF m (pc + 3) Ls st)) P) : Goes p.tables e below (T.setTop (mkF m pc Ls (y :: x :: st))) P := by
  by_cases q : x = y
  · exact (hF q).of fun _ k => XT.acmpNo X.here hx rfl hd rfl hx' hy' (by simp [XT.acmp, q]) k
  · exact (hT q).of fun _ k => XT.acmpYes X.here hx rfl rfl hd rfl hx' hy' (by simp [XT.acmp, q]) ho hp k
/-- what a body owes at its end: it returned v, Q holds of it, the heap and the places written, within C cells and N slots -/
abbrev Fin (s : State) (C N : Nat) (Q : Option Value → Heap → List Loc → Prop) : State → Outcome → Prop := fun s₂ o => ∃ v L, o = .returned v ∧ Q v s₂.heap L ∧ FrameEnd s o s₂ L C N
variable {C N : Nat} {Q : Option Value → Heap → List Loc → Prop}
theorem g_ret (X : Stand p l e R s m args below meth c T locs cells slots) (hx : p.tables.exec = Jvm.exec) {w : Value} {t : FieldType} {i : Instr} (hret : meth.sig.returnType = some t) (hk : meth.locks = false) (hn : narrow t w = w)
    (hi : (i = .ireturn ∧ (t = .int ∨ t = .boolean ∨ t = .byte ∨ t = .char ∨ t = .short) ∧ ∃ z, w = .int z) ∨ (i = .lreturn ∧ t = .long ∧ ∃ z, w = .long z) ∨ (i = .dreturn ∧ t = .double ∧ ∃ z, w = .double z) ∨ (i = .freturn ∧ t = .float ∧ ∃ z, w = .float z) ∨ (i = .areturn ∧ t.isReference = true ∧ w.isRef = true))
    (hd : decode c.code pc = .ok (i, 1)) (hc : cells ≤ C) (hs : slots ≤ N) (hQ : Q (some w) T.heap locs) : Goes p.tables e below (T.setTop (mkF m pc Ls (w :: st))) (Fin s C N Q) := by
  obtain ⟨fs, hr, hrun, hended, hW, hsame⟩ := X.leave (v := some w) (fun h => by rw [hret] at h; cases h) hk
  exact ⟨_, _, retOut X hx hret hn hi hd hr, hrun, hended, _, _, rfl, hQ, ⟨_, rfl⟩, hW, hsame.mono hc hs⟩
theorem g_retI (X : Stand p l e R s m args below meth c T locs cells slots) (hx : p.tables.exec = Jvm.exec) {z : Int32} (hret : meth.sig.returnType = some .int) (hk : meth.locks = false) (hd : decode c.code pc = .ok (.ireturn, 1)) (hc : cells ≤ C) (hs : slots ≤ N) (hQ : Q (some (.int z)) T.heap locs) :
    Goes p.tables e below (T.setTop (mkF m pc Ls (.int z :: st))) (Fin s C N Q) := g_ret X hx hret hk rfl (Or.inl ⟨rfl, Or.inl rfl, _, rfl⟩) hd hc hs hQ
theorem g_retL (X : Stand p l e R s m args below meth c T locs cells slots) (hx : p.tables.exec = Jvm.exec) {z : Int64} (hret : meth.sig.returnType = some .long) (hk : meth.locks = false) (hd : decode c.code pc = .ok (.lreturn, 1)) (hc : cells ≤ C) (hs : slots ≤ N) (hQ : Q (some (.long z)) T.heap locs) :
    Goes p.tables e below (T.setTop (mkF m pc Ls (.long z :: st))) (Fin s C N Q) := g_ret X hx hret hk rfl (Or.inr (Or.inl ⟨rfl, rfl, _, rfl⟩)) hd hc hs hQ
theorem g_retA (X : Stand p l e R s m args below meth c T locs cells slots) (hx : p.tables.exec = Jvm.exec) {w : Value} {t : FieldType} (hret : meth.sig.returnType = some t) (hk : meth.locks = false) (ht : t.isReference = true) (hw : w.isRef = true) (hd : decode c.code pc = .ok (.areturn, 1)) (hc : cells ≤ C) (hs : slots ≤ N) (hQ : Q (some w) T.heap locs) :
    Goes p.tables e below (T.setTop (mkF m pc Ls (w :: st))) (Fin s C N Q) := g_ret X hx hret hk (by cases t <;> simp [FieldType.isReference] at ht <;> cases w <;> simp [Value.isRef] at hw <;> rfl) (Or.inr (Or.inr (Or.inr (Or.inr ⟨rfl, ht, hw⟩)))) hd hc hs hQ
theorem g_retZ (X : Stand p l e R s m args below meth c T locs cells slots) (hx : p.tables.exec = Jvm.exec) {z : Int32} (hz : z = 0 ∨ z = 1) (hret : meth.sig.returnType = some .boolean) (hk : meth.locks = false) (hd : decode c.code pc = .ok (.ireturn, 1)) (hc : cells ≤ C) (hs : slots ≤ N) (hQ : Q (some (.int z)) T.heap locs) :
    Goes p.tables e below (T.setTop (mkF m pc Ls (.int z :: st))) (Fin s C N Q) := g_ret X hx hret hk (by rcases hz with rfl | rfl <;> rfl) (Or.inl ⟨rfl, Or.inr (Or.inl rfl), _, rfl⟩) hd hc hs hQ
theorem g_retB (X : Stand p l e R s m args below meth c T locs cells slots) (hx : p.tables.exec = Jvm.exec) {z : Int32} (hz : z.toInt8.toInt32 = z) (hret : meth.sig.returnType = some .byte) (hk : meth.locks = false) (hd : decode c.code pc = .ok (.ireturn, 1)) (hc : cells ≤ C) (hs : slots ≤ N) (hQ : Q (some (.int z)) T.heap locs) :
    Goes p.tables e below (T.setTop (mkF m pc Ls (.int z :: st))) (Fin s C N Q) := g_ret X hx hret hk (by show Value.int z.toInt8.toInt32 = _; rw [hz]) (Or.inl ⟨rfl, Or.inr (Or.inr (Or.inl rfl)), _, rfl⟩) hd hc hs hQ
theorem g_ret0 (X : Stand p l e R s m args below meth c T locs cells slots) (hx : p.tables.exec = Jvm.exec) (hret : meth.sig.returnType = none) (hk : meth.locks = false) (hd : decode c.code pc = .ok (.return_, 1)) (hc : cells ≤ C) (hs : slots ≤ N) (hQ : Q none T.heap locs) :
    Goes p.tables e below (T.setTop (mkF m pc Ls [])) (Fin s C N Q) := by
  obtain ⟨fs, hr, hrun, hended, hW, hsame⟩ := X.leave (v := none) (fun _ => rfl) hk
  exact ⟨_, _, X.returnOut hx hret hd hr, hrun, hended, _, _, rfl, hQ, ⟨_, rfl⟩, hW, hsame.mono hc hs⟩
/-- the contract of a body, at these arguments and this heap -/
def Con (l : Launch) (Z : State) (y : MethodName) (bytes : ByteArray) (maxL : Nat) (ret : Option FieldType) (ws : List Jvm.Cond) (rm : Room) (C N : Nat) (as' : Array Value) (h : Heap) (Q : Option Value → Heap → List Loc → Prop) : Prop :=
  MetFree l y (head1 (Jvm.Cond.code y bytes maxL ret :: ws) rm) (fun a U => a = as' ∧ Z.Warmed39 U.vm ∧ U.heap = h) (fun _ _ _ _ _ => True) (fun _ U o U' => ∃ v L, o = .returned v ∧ Q v U'.heap L ∧ FrameEnd U o U' L C N)
theorem Con.body {y : MethodName} {bytes : ByteArray} {maxL : Nat} {ret : Option FieldType} {ws : List Jvm.Cond} {rm : Room} {as' : Array Value} (hp : plainFor y = true)
    (body : ∀ (p : Program) (e : Env) (s : State) (m : MethodId) (below : List Frame) (meth : Method) (c : Code) (T : State), p.tables.exec = Jvm.exec → c.code = bytes → c.maxLocals = maxL → s.vm.findClass y.cls = some m.cls → meth.name = y.name → Z.Warmed39 s.vm → meth.sig.returnType = ret → meth.locks = false →
      Stand p l e rm s m as' below meth c T [] 0 0 → T.heap = h → Goes p.tables e below (T.setTop (entryFrame m as' maxL)) (Fin s C N Q)) : Con l Z y bytes maxL ret ws rm C N as' h Q := by
  refine MetFree.of_bodySF hp hisR ?_
  intro p e s m args below meth c s₁ Bd hml hP hK
  obtain ⟨rfl, hZ, hh⟩ := hP
  exact body p e s m below meth c s₁ Bd.exec Bd.bytes hml (findClass_of_methodNamed Bd.named) (name_of_methodNamed Bd.named Bd.method).1 hZ Bd.returns (BodyLoose.notSynchronized Bd) (Stand.of_body Bd) (by rw [← hh, Bd.state]; rfl)
variable {y : MethodName} {bytes : ByteArray} {maxL : Nat} {ret : Option FieldType} {rm : Room} {as' : Array Value} {own : String} {index W : Nat} {argsL : List Value}
/-- a static call by the callee's contract -/
theorem g_callS (X : Stand p l e R s m args below meth c T locs cells slots) (hx : p.tables.exec = Jvm.exec) (hZ : Z.Warmed39 s.vm) (hown : s.vm.findClass own = some m.cls) (hml : Ls.size = c.maxLocals) (eT : T.heap = h)
    (wl : (Jvm.Cond.methodLink own index y).before a0 Z = true) (wt : (Jvm.Cond.static y).before a0 Z = true) (wz : (Jvm.Cond.initialized y.cls).before a0 Z = true) (wc : (Jvm.Cond.code y bytes maxL ret).before a0 Z = true)
    (hM : Con l Z y bytes maxL ret [] rm rm.cells rm.slots as' h Q) (argsL : List Value) (has : argsL.toArray = as') {S : List Value} (st : List Value) (hS : S = argsL.reverse ++ st) (hlen : ∀ sig, parseMethodDescriptor y.desc = some sig → argsL.length = sig.parameters.length)
    (hd : decode c.code pc = .ok (.invokestatic index, 3)) (hy : y.cls ≠ "java/lang/invoke/MethodHandle" ∧ y.cls ≠ "java/lang/invoke/VarHandle") (W : Nat) (hf : rm.frames + 1 ≤ R.frames) (hl : W + (maxL + 11) + rm.locals ≤ R.locals) (hW : (st.map fun v => v.category).sum ≤ W) (hc : cells + rm.cells ≤ R.cells) (hs : slots + rm.slots ≤ R.slots)
    (k : ∀ v T' L, Stand p l e R s m args below meth c T' (locs ++ L) (cells + rm.cells) (slots + rm.slots) → Q v T'.heap L → Goes p.tables e below (T'.setTop (mkF m (pc + 3) Ls (v.toList ++ st))) P) :
    Goes p.tables e below (T.setTop (mkF m pc Ls S)) P := by
  subst hS
  obtain ⟨v, vm₁, ⟨T', L', k', n'⟩, -, X', ⟨L, hQ, e1, e2, e3⟩, st'⟩ := Jvm.LawKit.callS X hx (y := y) hown (mvT hZ wl) (mvT hZ wt) (mvT hZ wz) (mvT hZ wc) hy (backOf (W := W) hM hZ wc wz hf hl) (g := mkF m pc Ls (argsL.reverse ++ st)) rfl hml (argsL := argsL) (rest := st) hlen rfl (by show 2 * 0 + _ ≤ _; omega) hd (fun _ _ => ⟨has, eT, hc, hs⟩)
  dsimp only [Pt.U, Pt.locs, Pt.cells, Pt.slots] at X' e1 e2 e3 st' hQ
  subst e1 e2 e3
  exact (k v T' L X' hQ).of st'
/-- a constructor by its contract -/
theorem g_callI (X : Stand p l e R s m args below meth c T locs cells slots) (hx : p.tables.exec = Jvm.exec) (hZ : Z.Warmed39 s.vm) (hown : s.vm.findClass own = some m.cls) (hml : Ls.size = c.maxLocals) (eT : T.heap = h) (hn : y.name = "<init>")
    (wl : (Jvm.Cond.methodLink own index y).before a0 Z = true) (wt : (Jvm.Cond.instanceMethod y).before a0 Z = true) (wz : (Jvm.Cond.initialized y.cls).before a0 Z = true) (wc : (Jvm.Cond.code y bytes maxL none).before a0 Z = true)
    (hM : Con l Z y bytes maxL none [] rm rm.cells rm.slots as' h Q) (a : Addr) (argsL : List Value) (has : (.ref a :: argsL).toArray = as') {S : List Value} (st : List Value) (hS : S = argsL.reverse ++ .ref a :: st) (hlen : ∀ sig, parseMethodDescriptor y.desc = some sig → argsL.length = sig.parameters.length)
    (hd : decode c.code pc = .ok (.invokespecial index, 3)) (hy : y.cls ≠ "java/lang/invoke/MethodHandle" ∧ y.cls ≠ "java/lang/invoke/VarHandle") (W : Nat) (hf : rm.frames + 1 ≤ R.frames) (hl : W + (maxL + 11) + rm.locals ≤ R.locals) (hW : (st.map fun v => v.category).sum ≤ W) (hc : cells + rm.cells ≤ R.cells) (hs : slots + rm.slots ≤ R.slots)
    (k : ∀ v T' L, Stand p l e R s m args below meth c T' (locs ++ L) (cells + rm.cells) (slots + rm.slots) → Q v T'.heap L → Goes p.tables e below (T'.setTop (mkF m (pc + 3) Ls (v.toList ++ st))) P) :
    Goes p.tables e below (T.setTop (mkF m pc Ls S)) P := by
  subst hS
  obtain ⟨v, vm₁, ⟨T', L', k', n'⟩, -, X', ⟨L, hQ, e1, e2, e3⟩, st'⟩ := X.specialBack hx (y := y) hn hown (mvT hZ wl) (mvT hZ wt) (mvT hZ wc) hy (backOf (W := W) hM hZ wc wz hf hl) (g := mkF m pc Ls (argsL.reverse ++ .ref a :: st)) rfl hml (Steps.refl _) (a := a) (argsL := argsL) (rest := st) hlen rfl (by show 2 * 0 + _ ≤ _; omega) hd (fun _ _ => ⟨has, eT, hc, hs⟩)
  dsimp only [Pt.U, Pt.locs, Pt.cells, Pt.slots] at X' e1 e2 e3 st' hQ
  subst e1 e2 e3
  exact (k v T' L X' hQ).tr st'
/-- an instance method by its contract -/
theorem g_callV (X : Stand p l e R s m args below meth c T locs cells slots) (hx : p.tables.exec = Jvm.exec) (hZ : Z.Warmed39 s.vm) (hown : s.vm.findClass own = some m.cls) (hml : Ls.size = c.maxLocals) (eT : T.heap = h) {K : String}
    (wl : (Jvm.Cond.methodLink own index y).before a0 Z = true) (wd : (Jvm.Cond.declares y).before a0 Z = true) (wv : (Jvm.Cond.selects K y y).before a0 Z = true) (wt : (Jvm.Cond.instanceMethod y).before a0 Z = true) (wz : (Jvm.Cond.initialized y.cls).before a0 Z = true) (wc : (Jvm.Cond.code y bytes maxL ret).before a0 Z = true)
    {a : Addr} (E : Exa Z h a K) (hM : Con l Z y bytes maxL ret [] rm rm.cells rm.slots as' h Q) (argsL : List Value) (has : (.ref a :: argsL).toArray = as') {S : List Value} (st : List Value) (hS : S = argsL.reverse ++ .ref a :: st) (hlen : ∀ sig, parseMethodDescriptor y.desc = some sig → argsL.length = sig.parameters.length)
    (hd : decode c.code pc = .ok (.invokevirtual index, 3)) (hy : y.cls ≠ "java/lang/invoke/MethodHandle" ∧ y.cls ≠ "java/lang/invoke/VarHandle") (W : Nat) (hf : rm.frames + 1 ≤ R.frames) (hl : W + (maxL + 11) + rm.locals ≤ R.locals) (hW : (st.map fun v => v.category).sum ≤ W) (hc : cells + rm.cells ≤ R.cells) (hs : slots + rm.slots ≤ R.slots)
    (k : ∀ v T' L, Stand p l e R s m args below meth c T' (locs ++ L) (cells + rm.cells) (slots + rm.slots) → Q v T'.heap L → Goes p.tables e below (T'.setTop (mkF m (pc + 3) Ls (v.toList ++ st))) P) :
    Goes p.tables e below (T.setTop (mkF m pc Ls S)) P := by
  subst hS
  obtain ⟨cq, kq, qa, qb, qc⟩ := isOf hZ eT E
  obtain ⟨v, vm₁, ⟨T', L', k', n'⟩, -, X', ⟨L, hQ, e1, e2, e3⟩, st'⟩ := X.virtualBack hx (y := y) (z := y) hown (mvT hZ wl) (mvT hZ wd) (notFace_of_selects (args := #[]) (mvT hZ wv)) (mvT hZ wv) (mvT hZ wt) hy (backOf (W := W) hM hZ wc wz hf hl) qa qc (g := mkF m pc Ls (argsL.reverse ++ .ref a :: st)) rfl hml (Steps.refl _) (argsL := argsL) (rest := st) hlen rfl (by show 2 * 0 + _ ≤ _; omega) hd (fun _ _ => ⟨has, eT, hc, hs⟩)
  dsimp only [Pt.U, Pt.locs, Pt.cells, Pt.slots] at X' e1 e2 e3 st' hQ
  subst e1 e2 e3
  exact (k v T' L X' hQ).tr st'
/-! objects -/
section Objects
variable {own K O R0 nm d host : String} {index kk : Nat} {a : Addr}
theorem g_new (X : Stand p l e R s m args below meth c T locs cells slots) (hx : p.tables.exec = Jvm.exec) (hZ : Z.Warmed39 s.vm) (hown : s.vm.findClass own = some m.cls) (eT : T.heap = h) (w : (Jvm.Cond.classLink own index K).before a0 Z = true) (wi : (Jvm.Cond.instantiable K kk).before a0 Z = true) (wz : (Jvm.Cond.initialized K).before a0 Z = true)
    (hd : decode c.code pc = .ok (.new index, 3)) (hc : cells + 1 ≤ R.cells) (hl : slots + kk ≤ R.slots)
    (k : ∀ T' h' a, a = h.size → Stand p l e R s m args below meth c T' locs (cells + 1) (slots + kk) → T'.heap = h' → Ext h h' → Exa Z h' a K → (∀ {O nm d : String} {ty : FieldType}, Laid Z a0 K O nm d → parseFieldDescriptor d = some ty → Fld Z h' a O nm d (defaultValue ty)) → Goes p.tables e below (T'.setTop (mkF m (pc + 3) Ls (.ref a :: st))) P) :
    Goes p.tables e below (T.setTop (mkF m pc Ls st)) P := by
  obtain ⟨T', h', X', e', E, A, D, -, st'⟩ := newO X hx hZ hown w wi wz eT (g := mkF m pc Ls st) rfl hd hc hl
  exact (k T' h' _ rfl X' e' E A D).of st'
theorem g_init0 (X : Stand p l e R s m args below meth c T locs cells slots) (hx : p.tables.exec = Jvm.exec) (hZ : Z.Warmed39 s.vm) (hown : s.vm.findClass own = some m.cls) (hml : Ls.size = c.maxLocals) (eT : T.heap = h) (w1 : (Jvm.Cond.methodLink own index Lib.objectInit).before a0 Z = true) (w2 : (Jvm.Cond.instanceMethod Lib.objectInit).before a0 Z = true)
    (w3 : (Jvm.Cond.code Lib.objectInit ⟨#[0xb1]⟩ 1 none).before a0 Z = true) (hd : decode c.code pc = .ok (.invokespecial index, 3)) (W : Nat) (hf : 1 ≤ R.frames) (hW : (st.map fun v => v.category).sum ≤ W) (hl : W + 12 ≤ R.locals)
    (k : ∀ T', Stand p l e R s m args below meth c T' locs cells slots → T'.heap = h → Goes p.tables e below (T'.setTop (mkF m (pc + 3) Ls st)) P) : Goes p.tables e below (T.setTop (mkF m pc Ls (.ref a :: st))) P := by
  obtain ⟨T', X', e', st'⟩ := initO X hx hZ hown w1 w2 w3 eT (g := mkF m pc Ls (.ref a :: st)) rfl hml rfl hd hf (W := W) (by show 2 * 0 + _ ≤ _; omega) hl
  exact (k T' X' e').of st'
theorem g_getF (X : Stand p l e R s m args below meth c T locs cells slots) (hx : p.tables.exec = Jvm.exec) (hZ : Z.Warmed39 s.vm) (hown : s.vm.findClass own = some m.cls) (eT : T.heap = h) (w : (Jvm.Cond.fieldLink own index R0 nm d).before a0 Z = true ∨ (Jvm.Cond.fieldLinkNest own index R0 nm d host).before a0 Z = true) (via : Via Z R0 O nm d)
    {v : Value} (F : Fld Z h a O nm d v) (hd : decode c.code pc = .ok (.getfield index, 3))
    (k : ∀ T', Stand p l e R s m args below meth c T' locs cells slots → T'.heap = h → Goes p.tables e below (T'.setTop (mkF m (pc + 3) Ls (v :: st))) P) : Goes p.tables e below (T.setTop (mkF m pc Ls (.ref a :: st))) P := by
  obtain ⟨T', X', e', st'⟩ := getF X hx hZ hown w via eT F (g := mkF m pc Ls (.ref a :: st)) rfl rfl hd
  exact (k T' X' e').of st'
theorem g_getS (X : Stand p l e R s m args below meth c T locs cells slots) (hx : p.tables.exec = Jvm.exec) (hZ : Z.Warmed39 s.vm) (hown : s.vm.findClass own = some m.cls) (eT : T.heap = h) (w : (Jvm.Cond.fieldLink own index O nm d).before a0 Z = true ∨ (Jvm.Cond.fieldLinkNest own index O nm d host).before a0 Z = true)
    {v : Value} (F : Sta Z h O nm d v) (hd : decode c.code pc = .ok (.getstatic index, 3))
    (k : ∀ T', Stand p l e R s m args below meth c T' locs cells slots → T'.heap = h → Goes p.tables e below (T'.setTop (mkF m (pc + 3) Ls (v :: st))) P) : Goes p.tables e below (T.setTop (mkF m pc Ls st)) P := by
  obtain ⟨T', X', e', st'⟩ := getS2 X hx hZ hown w Via.refl eT F (g := mkF m pc Ls st) rfl hd
  exact (k T' X' e').of st'
/-- a field's store; v': what the field then holds -/
theorem g_putF (X : Stand p l e R s m args below meth c T locs cells slots) (hx : p.tables.exec = Jvm.exec) (hZ : Z.Warmed39 s.vm) (hown : s.vm.findClass own = some m.cls) (eT : T.heap = h) (w : (Jvm.Cond.fieldLink own index R0 nm d).before a0 Z = true) (via : Via Z R0 O nm d)
    {v v' old : Value} (F : Fld Z h a O nm d old) (E : Exa Z h a K) (L : (Jvm.Cond.lays K O nm d).before a0 Z = true ∨ ((Jvm.Cond.laysFinal K O nm d).before a0 Z = true ∧ own = O ∧ meth.name = "<init>")) (wi : (Jvm.Cond.instantiable K kk).before a0 Z = true) {ty : FieldType} (hty : parseFieldDescriptor d = some ty) (hn : narrow ty v = v') (hf : fits ty v' = true)
    (hd : decode c.code pc = .ok (.putfield index, 3))
    (k : ∀ T' h', Stand p l e R s m args below meth c T' (locs ++ [⟨a, Jvm.RoadKit.slotOf Z O nm d⟩]) cells slots → T'.heap = h' → Wr h h' a (Jvm.RoadKit.slotOf Z O nm d) v' → Goes p.tables e below (T'.setTop (mkF m (pc + 3) Ls st)) P) : Goes p.tables e below (T.setTop (mkF m pc Ls (v :: .ref a :: st))) P := by
  obtain ⟨T', h', X', e', W', st'⟩ := putFN X hx hZ hown w via eT F E L wi hty hn hf (g := mkF m pc Ls (v :: .ref a :: st)) rfl rfl hd
  exact (k T' h' X' e' W').of st'
end Objects
/-! arrays: the components as a list -/
def Ar (Z : State) (h : Heap) (a : Addr) (ty : FieldType) (vs : List Value) : Prop := ∃ c : Cell, Arr Z h a c ty ∧ c.slots.toList = vs ∧ vs.length < 2 ^ 31 ∧ ∀ v ∈ vs, fits ty v = true
section Arrays
variable {a b : Addr} {ty : FieldType} {vs : List Value} {h' : Heap} {ws : List Addr}
theorem Ar.lt (F : Ar Z h a ty vs) : a < h.size := by obtain ⟨c, A, -⟩ := F; exact A.lt
theorem Ar.ext (F : Ar Z h a ty vs) (E : Ext h h') : Ar Z h' a ty vs := by obtain ⟨c, A, r⟩ := F; exact ⟨c, A.ext E, r⟩
theorem Ar.other (F : Ar Z h b ty vs) {sl : Nat} {v : Value} (W : Wr h h' a sl v) (q : b ≠ a) : Ar Z h' b ty vs := by obtain ⟨c, A, r⟩ := F; exact ⟨c, A.other W q, r⟩
theorem Ar.keep (F : Ar Z h a ty vs) (K : Keep h h' ws) (q : a ∉ ws) : Ar Z h' a ty vs := by obtain ⟨c, A, r⟩ := F; exact ⟨c, ⟨K.2.1 a c A.1 q, A.2⟩, r⟩
theorem own_nat {j : Int32} {i : Nat} (hj : j.toInt = i) : j.toNatClampNeg = i ∧ ¬ j < 0 := by
  have q : ¬ j < 0 := fun q => by have := Int32.lt_iff_toInt_lt.mp q; rw [show (0 : Int32).toInt = 0 from rfl] at this; omega
  have e := nat_of q
  exact ⟨by omega, q⟩
theorem own_in {j : Int32} {i : Nat} (hj : j.toInt = i) {c : Cell} (hs : c.slots.toList = vs) (hi : i < vs.length) : ¬ (j < 0 ∨ c.slots.size ≤ j.toNatClampNeg) := by
  obtain ⟨e, q⟩ := own_nat hj
  rintro (r | r)
  · exact q r
  · rw [← Array.length_toList, hs] at r; omega
theorem own_at {j : Int32} {i : Nat} (hj : j.toInt = i) {c : Cell} (hs : c.slots.toList = vs) {v : Value} (hv : vs[i]? = some v) : c.slots[j.toNatClampNeg]? = some v := by
  rw [(own_nat hj).1, ← Array.getElem?_toList, hs]; exact hv
theorem own_lt {i : Nat} {v : Value} (hv : vs[i]? = some v) : i < vs.length := (List.getElem?_eq_some_iff.mp hv).1
theorem Ar.set {j : Nat} {v : Value} (F : Ar Z h a ty vs) (W : Wr h h' a j v) (hf : fits ty v = true) : Ar Z h' a ty (vs.set j v) := by
  obtain ⟨c, A, hs, hl, hv⟩ := F
  refine ⟨c.setSlot j v, A.same W, by rw [← hs]; simp [Cell.setSlot], by rw [List.length_set]; exact hl, fun w hw => ?_⟩
  rcases List.mem_or_eq_of_mem_set hw with q | q
  · exact hv w q
  · rw [q]; exact hf
theorem g_iaload (X : Stand p l e R s m args below meth c T locs cells slots) (hx : p.tables.exec = Jvm.exec) (hZ : Z.Warmed39 s.vm) (eT : T.heap = h) (A : Ar Z h a .int vs) {j : Int32} {i : Nat} {v : Value} (hj : j.toInt = i) (hv : vs[i]? = some v) (hd : decode c.code pc = .ok (.iaload, 1))
    (hr : Goes p.tables e below (T.setTop (mkF m (pc + 1) Ls (v :: st))) P) : Goes p.tables e below (T.setTop (mkF m pc Ls (.int j :: .ref a :: st))) P := by
  obtain ⟨cl, A, hs, hl, -⟩ := A
  exact hr.of fun _ k => X.iaload hx (by rw [eT]; exact A.1) (State.isArrayOf_alike hZ.alike A.2.1) A.2.2 (own_in hj hs (own_lt hv)) (own_at hj hs hv) (g := mkF m pc Ls (.int j :: .ref a :: st)) rfl rfl hd _ k
theorem g_laload (X : Stand p l e R s m args below meth c T locs cells slots) (hx : p.tables.exec = Jvm.exec) (hZ : Z.Warmed39 s.vm) (eT : T.heap = h) (A : Ar Z h a .long vs) {j : Int32} {i : Nat} {v : Value} (hj : j.toInt = i) (hv : vs[i]? = some v) (hd : decode c.code pc = .ok (.laload, 1))
    (hr : Goes p.tables e below (T.setTop (mkF m (pc + 1) Ls (v :: st))) P) : Goes p.tables e below (T.setTop (mkF m pc Ls (.int j :: .ref a :: st))) P := by
  obtain ⟨cl, A, hs, hl, -⟩ := A
  exact hr.of fun _ k => X.laload hx (by rw [eT]; exact A.1) (State.isArrayOf_alike hZ.alike A.2.1) A.2.2 (own_in hj hs (own_lt hv)) (own_at hj hs hv) (g := mkF m pc Ls (.int j :: .ref a :: st)) rfl rfl hd _ k
theorem g_caload (X : Stand p l e R s m args below meth c T locs cells slots) (hx : p.tables.exec = Jvm.exec) (hZ : Z.Warmed39 s.vm) (eT : T.heap = h) (A : Ar Z h a .char vs) {j : Int32} {i : Nat} {v : Value} (hj : j.toInt = i) (hv : vs[i]? = some v) (hd : decode c.code pc = .ok (.caload, 1))
    (hr : Goes p.tables e below (T.setTop (mkF m (pc + 1) Ls (v :: st))) P) : Goes p.tables e below (T.setTop (mkF m pc Ls (.int j :: .ref a :: st))) P := by
  obtain ⟨cl, A, hs, hl, -⟩ := A
  exact hr.of fun _ k => X.caload hx (by rw [eT]; exact A.1) (State.isArrayOf_alike hZ.alike A.2.1) A.2.2 (own_in hj hs (own_lt hv)) (own_at hj hs hv) (g := mkF m pc Ls (.int j :: .ref a :: st)) rfl rfl hd _ k
theorem g_saload (X : Stand p l e R s m args below meth c T locs cells slots) (hx : p.tables.exec = Jvm.exec) (hZ : Z.Warmed39 s.vm) (eT : T.heap = h) (A : Ar Z h a .short vs) {j : Int32} {i : Nat} {v : Value} (hj : j.toInt = i) (hv : vs[i]? = some v) (hd : decode c.code pc = .ok (.saload, 1))
    (hr : Goes p.tables e below (T.setTop (mkF m (pc + 1) Ls (v :: st))) P) : Goes p.tables e below (T.setTop (mkF m pc Ls (.int j :: .ref a :: st))) P := by
  obtain ⟨cl, A, hs, hl, -⟩ := A
  exact hr.of fun _ k => X.saload hx (by rw [eT]; exact A.1) (State.isArrayOf_alike hZ.alike A.2.1) A.2.2 (own_in hj hs (own_lt hv)) (own_at hj hs hv) (g := mkF m pc Ls (.int j :: .ref a :: st)) rfl rfl hd _ k
theorem g_baload (X : Stand p l e R s m args below meth c T locs cells slots) (hx : p.tables.exec = Jvm.exec) (hZ : Z.Warmed39 s.vm) (eT : T.heap = h) (A : Ar Z h a .byte vs) {j : Int32} {i : Nat} {v : Value} (hj : j.toInt = i) (hv : vs[i]? = some v) (hd : decode c.code pc = .ok (.baload, 1))
    (hr : Goes p.tables e below (T.setTop (mkF m (pc + 1) Ls (v :: st))) P) : Goes p.tables e below (T.setTop (mkF m pc Ls (.int j :: .ref a :: st))) P := by
  obtain ⟨cl, A, hs, hl, -⟩ := A
  exact hr.of fun _ k => X.baloadBytes hx (by rw [eT]; exact A.1) (State.isArrayOf_alike hZ.alike A.2.1) A.2.2 (own_in hj hs (own_lt hv)) (own_at hj hs hv) (g := mkF m pc Ls (.int j :: .ref a :: st)) rfl rfl hd _ k
theorem g_zaload (X : Stand p l e R s m args below meth c T locs cells slots) (hx : p.tables.exec = Jvm.exec) (hZ : Z.Warmed39 s.vm) (eT : T.heap = h) (A : Ar Z h a .boolean vs) {j : Int32} {i : Nat} {v : Value} (hj : j.toInt = i) (hv : vs[i]? = some v) (hd : decode c.code pc = .ok (.baload, 1))
    (hr : Goes p.tables e below (T.setTop (mkF m (pc + 1) Ls (v :: st))) P) : Goes p.tables e below (T.setTop (mkF m pc Ls (.int j :: .ref a :: st))) P := by
  obtain ⟨cl, A, hs, hl, -⟩ := A
  exact hr.of fun _ k => X.baloadBooleans hx (by rw [eT]; exact A.1) (State.isArrayOf_alike hZ.alike A.2.1) A.2.2 (own_in hj hs (own_lt hv)) (own_at hj hs hv) (g := mkF m pc Ls (.int j :: .ref a :: st)) rfl rfl hd _ k
theorem g_aaload (X : Stand p l e R s m args below meth c T locs cells slots) (hx : p.tables.exec = Jvm.exec) (hZ : Z.Warmed39 s.vm) (eT : T.heap = h) (A : Ar Z h a ty vs) (hty : ty.isReference = true) {j : Int32} {i : Nat} {v : Value} (hj : j.toInt = i) (hv : vs[i]? = some v) (hd : decode c.code pc = .ok (.aaload, 1))
    (hr : Goes p.tables e below (T.setTop (mkF m (pc + 1) Ls (v :: st))) P) : Goes p.tables e below (T.setTop (mkF m pc Ls (.int j :: .ref a :: st))) P := by
  obtain ⟨cl, A, hs, hl, -⟩ := A
  exact hr.of fun _ k => X.aaload hx (by rw [eT]; exact A.1) (State.isArrayOf_alike hZ.alike A.2.1) hty A.2.2 (own_in hj hs (own_lt hv)) (own_at hj hs hv) (g := mkF m pc Ls (.int j :: .ref a :: st)) rfl rfl hd _ k
theorem g_alen (X : Stand p l e R s m args below meth c T locs cells slots) (hx : p.tables.exec = Jvm.exec) (hZ : Z.Warmed39 s.vm) (eT : T.heap = h) (A : Ar Z h a ty vs) (z : Int32) (hz : z.toInt = vs.length) (hd : decode c.code pc = .ok (.arraylength, 1))
    (hr : Goes p.tables e below (T.setTop (mkF m (pc + 1) Ls (.int z :: st))) P) : Goes p.tables e below (T.setTop (mkF m pc Ls (.ref a :: st))) P := by
  obtain ⟨cl, A, hs, hl, -⟩ := A
  have q : cl.slots.size.toInt32 = z := by
    have e1 : cl.slots.size = vs.length := by rw [← hs, Array.length_toList]
    exact Int32.toInt_inj.mp (by rw [len_toInt (by rw [e1]; exact hl), hz, e1])
  subst q
  exact hr.of fun _ k => X.arraylength hx (cell := cl) (by rw [eT]; exact A.1) (State.isArrayOf_alike hZ.alike A.2.1) (g := mkF m pc Ls (.ref a :: st)) rfl (rest := st) rfl hd _ k
theorem g_newarr (X : Stand p l e R s m args below meth c T locs cells slots) (hx : p.tables.exec = Jvm.exec) (hZ : Z.Warmed39 s.vm) (eT : T.heap = h) {aty : ArrayType} (w : (Jvm.Cond.arrayClass (newarray.typeOf aty)).before a0 Z = true) (hd : decode c.code pc = .ok (.newarray aty, 2)) {z : Int32} {n : Nat} (hz : z.toInt = n) (cap : Nat) (hcap : n ≤ cap) (hb : cap * 8 ≤ 536870912) (hc : cells + 1 ≤ R.cells) (hl : slots + cap ≤ R.slots) {ad : String} (had : "[" ++ (newarray.typeOf aty).toString = ad) (hfit : fits (newarray.typeOf aty) (defaultValue (newarray.typeOf aty)) = true)
    (k : ∀ T' h' a, a = h.size → Stand p l e R s m args below meth c T' locs (cells + 1) (slots + cap) → T'.heap = h' → Ext h h' → Ar Z h' a (newarray.typeOf aty) (List.replicate n (defaultValue (newarray.typeOf aty))) → Exa Z h' a ad → Goes p.tables e below (T'.setTop (mkF m (pc + 2) Ls (.ref a :: st))) P) :
    Goes p.tables e below (T.setTop (mkF m pc Ls (.int z :: st))) P := by
  obtain ⟨e1, q⟩ := own_nat hz
  obtain ⟨T', h', cA, X', e', E, A, F, st'⟩ := newPE X hx hZ w eT (g := mkF m pc Ls (.int z :: st)) rfl hd rfl q (cap := cap) (by rw [e1]; exact hcap) hb hc hl had
  refine (k T' h' _ rfl X' e' E ⟨_, A, ?_, ?_, ?_⟩ F).of st'
  · simp [newA, e1]
  · rw [List.length_replicate]; have := rng32 z; omega
  · intro v hv; rw [(List.mem_replicate.mp hv).2]; exact hfit
theorem g_iastore (X : Stand p l e R s m args below meth c T locs cells slots) (hx : p.tables.exec = Jvm.exec) (hZ : Z.Warmed39 s.vm) (eT : T.heap = h) (A : Ar Z h a .int vs) {j : Int32} {x : Int32} (i : Nat) (hj : j.toInt = i) (hi : i < vs.length) (hd : decode c.code pc = .ok (.iastore, 1))
    (k : ∀ T' h', Stand p l e R s m args below meth c T' (locs ++ [⟨a, i⟩]) cells slots → T'.heap = h' → Wr h h' a i (.int x) → Ar Z h' a .int (vs.set i (.int x)) → Goes p.tables e below (T'.setTop (mkF m (pc + 1) Ls st)) P) : Goes p.tables e below (T.setTop (mkF m pc Ls (.int x :: .int j :: .ref a :: st))) P := by
  have A' := A
  obtain ⟨cl, A, hs, hl, -⟩ := A
  obtain ⟨T', h', X', e', W', st'⟩ := stI X hx hZ eT A (own_in hj hs hi) (g := mkF m pc Ls (.int x :: .int j :: .ref a :: st)) rfl rfl hd
  rw [(own_nat hj).1] at X' W'
  exact (k T' h' X' e' W' (A'.set W' rfl)).of st'
theorem g_lastore (X : Stand p l e R s m args below meth c T locs cells slots) (hx : p.tables.exec = Jvm.exec) (hZ : Z.Warmed39 s.vm) (eT : T.heap = h) (A : Ar Z h a .long vs) {j : Int32} {x : Int64} (i : Nat) (hj : j.toInt = i) (hi : i < vs.length) (hd : decode c.code pc = .ok (.lastore, 1))
    (k : ∀ T' h', Stand p l e R s m args below meth c T' (locs ++ [⟨a, i⟩]) cells slots → T'.heap = h' → Wr h h' a i (.long x) → Ar Z h' a .long (vs.set i (.long x)) → Goes p.tables e below (T'.setTop (mkF m (pc + 1) Ls st)) P) : Goes p.tables e below (T.setTop (mkF m pc Ls (.long x :: .int j :: .ref a :: st))) P := by
  have A' := A
  obtain ⟨cl, A, hs, hl, -⟩ := A
  obtain ⟨T', h', X', e', W', st'⟩ := stJ X hx hZ eT A (own_in hj hs hi) (g := mkF m pc Ls (.long x :: .int j :: .ref a :: st)) rfl rfl hd
  rw [(own_nat hj).1] at X' W'
  exact (k T' h' X' e' W' (A'.set W' rfl)).of st'
theorem g_castore (X : Stand p l e R s m args below meth c T locs cells slots) (hx : p.tables.exec = Jvm.exec) (hZ : Z.Warmed39 s.vm) (eT : T.heap = h) (A : Ar Z h a .char vs) {j x : Int32} (i : Nat) (hj : j.toInt = i) (hi : i < vs.length) (x' : Int32) (hn : nar .char x = x') (hd : decode c.code pc = .ok (.castore, 1))
    (k : ∀ T' h', Stand p l e R s m args below meth c T' (locs ++ [⟨a, i⟩]) cells slots → T'.heap = h' → Wr h h' a i (.int x') → Ar Z h' a .char (vs.set i (.int x')) → Goes p.tables e below (T'.setTop (mkF m (pc + 1) Ls st)) P) : Goes p.tables e below (T.setTop (mkF m pc Ls (.int x :: .int j :: .ref a :: st))) P := by
  have A' := A
  obtain ⟨cl, A, hs, hl, -⟩ := A
  obtain ⟨T', h', X', e', W', st'⟩ := stC X hx hZ eT A (own_in hj hs hi) (g := mkF m pc Ls (.int x :: .int j :: .ref a :: st)) rfl rfl hd
  rw [(own_nat hj).1, hn] at W'
  rw [(own_nat hj).1] at X'
  exact (k T' h' X' e' W' (A'.set W' (by rw [← hn]; exact fits_nar_char x))).of st'
theorem g_bastore (X : Stand p l e R s m args below meth c T locs cells slots) (hx : p.tables.exec = Jvm.exec) (hZ : Z.Warmed39 s.vm) (eT : T.heap = h) (A : Ar Z h a .byte vs) {j x : Int32} (i : Nat) (hj : j.toInt = i) (hi : i < vs.length) (x' : Int32) (hn : nar .byte x = x') (hd : decode c.code pc = .ok (.bastore, 1))
    (k : ∀ T' h', Stand p l e R s m args below meth c T' (locs ++ [⟨a, i⟩]) cells slots → T'.heap = h' → Wr h h' a i (.int x') → Ar Z h' a .byte (vs.set i (.int x')) → Goes p.tables e below (T'.setTop (mkF m (pc + 1) Ls st)) P) : Goes p.tables e below (T.setTop (mkF m pc Ls (.int x :: .int j :: .ref a :: st))) P := by
  have A' := A
  obtain ⟨cl, A, hs, hl, -⟩ := A
  obtain ⟨T', h', X', e', W', st'⟩ := stB X hx hZ eT A (own_in hj hs hi) (g := mkF m pc Ls (.int x :: .int j :: .ref a :: st)) rfl rfl hd
  rw [(own_nat hj).1, hn] at W'
  rw [(own_nat hj).1] at X'
  exact (k T' h' X' e' W' (A'.set W' (by rw [← hn]; exact fits_nar_byte x))).of st'
theorem g_zastore (X : Stand p l e R s m args below meth c T locs cells slots) (hx : p.tables.exec = Jvm.exec) (hZ : Z.Warmed39 s.vm) (eT : T.heap = h) (A : Ar Z h a .boolean vs) {j x : Int32} (i : Nat) (hj : j.toInt = i) (hi : i < vs.length) (x' : Int32) (hn : nar .boolean x = x') (hd : decode c.code pc = .ok (.bastore, 1))
    (k : ∀ T' h', Stand p l e R s m args below meth c T' (locs ++ [⟨a, i⟩]) cells slots → T'.heap = h' → Wr h h' a i (.int x') → Ar Z h' a .boolean (vs.set i (.int x')) → Goes p.tables e below (T'.setTop (mkF m (pc + 1) Ls st)) P) : Goes p.tables e below (T.setTop (mkF m pc Ls (.int x :: .int j :: .ref a :: st))) P := by
  have A' := A
  obtain ⟨cl, A, hs, hl, -⟩ := A
  obtain ⟨T', h', X', e', W', st'⟩ := stZ X hx hZ eT A (own_in hj hs hi) (g := mkF m pc Ls (.int x :: .int j :: .ref a :: st)) rfl rfl hd
  rw [(own_nat hj).1, hn] at W'
  rw [(own_nat hj).1] at X'
  exact (k T' h' X' e' W' (A'.set W' (by rw [← hn]; exact fits_nar_bool x))).of st'
theorem g_clone (X : Stand p l e R s m args below meth c T locs cells slots) (hx : p.tables.exec = Jvm.exec) (hZ : Z.Warmed39 s.vm) {own ad : String} {index : Nat} (hown : s.vm.findClass own = some m.cls) (hml : Ls.size = c.maxLocals) (eT : T.heap = h)
    (w1 : (Jvm.Cond.methodLink own index ⟨ad, "clone", "()Ljava/lang/Object;"⟩).before a0 Z = true) (w2 : (Jvm.Cond.sameMethod ad "java/lang/Object" "clone" "()Ljava/lang/Object;").before a0 Z = true) (w3 : (Jvm.Cond.native ⟨"java/lang/Object", "clone", "()Ljava/lang/Object;"⟩).before a0 Z = true)
    (w4 : (Jvm.Cond.instanceMethod ⟨"java/lang/Object", "clone", "()Ljava/lang/Object;"⟩).before a0 Z = true) (w5 : (Jvm.Cond.selects ad ⟨ad, "clone", "()Ljava/lang/Object;"⟩ ⟨"java/lang/Object", "clone", "()Ljava/lang/Object;"⟩).before a0 Z = true) (w6 : (Jvm.Cond.castable ad "java/lang/Cloneable").before a0 Z = true)
    (A : Ar Z h a ty vs) (E : Exa Z h a ad) (hd : decode c.code pc = .ok (.invokevirtual index, 3)) (W cap : Nat) (hf : 1 ≤ R.frames) (hW : (st.map fun v => v.category).sum ≤ W) (hl : W + 14 ≤ R.locals) (hcap : vs.length ≤ cap) (hc : cells + 1 ≤ R.cells) (hsl : slots + cap ≤ R.slots)
    (k : ∀ T' h' b, b = h.size → Stand p l e R s m args below meth c T' locs (cells + 1) (slots + cap) → T'.heap = h' → Ext h h' → Ar Z h' b ty vs → Exa Z h' b ad → Goes p.tables e below (T'.setTop (mkF m (pc + 3) Ls (.ref b :: st))) P) :
    Goes p.tables e below (T.setTop (mkF m pc Ls (.ref a :: st))) P := by
  obtain ⟨cl, A, hs, hln, hft⟩ := A
  have hsz : cl.slots.size = vs.length := by rw [← hs, Array.length_toList]
  obtain ⟨T', h', X', e', Ex, A', E', st'⟩ := cloneA X hx hZ hown w1 w2 w3 w4 w5 w6 eT A E (fitC_of A (fun i hi v hv => hft v (by rw [← hs]; exact Array.mem_toList_iff.mpr (Array.mem_of_getElem? hv)))) (g := mkF m pc Ls (.ref a :: st)) rfl hml rfl hd hf (W := W) (cap := cap) (by show 2 * 0 + _ ≤ _; omega) hl (by rw [hsz]; exact hcap) hc hsl
  exact (k T' h' _ rfl X' e' Ex ⟨_, A', hs, hln, hft⟩ E').of st'
theorem g_cast (X : Stand p l e R s m args below meth c T locs cells slots) (hx : p.tables.exec = Jvm.exec) (hZ : Z.Warmed39 s.vm) {own K : String} {index : Nat} (hown : s.vm.findClass own = some m.cls) (eT : T.heap = h) (w : (Jvm.Cond.classLink own index K).before a0 Z = true) (F : Ins Z h a K true) (hd : decode c.code pc = .ok (.checkcast index, 3))
    (k : ∀ T', Stand p l e R s m args below meth c T' locs cells slots → T'.heap = h → Goes p.tables e below (T'.setTop (mkF m (pc + 3) Ls (.ref a :: st))) P) : Goes p.tables e below (T.setTop (mkF m pc Ls (.ref a :: st))) P := by
  obtain ⟨T', X', e', st'⟩ := castY X hx hZ hown w eT F (g := mkF m pc Ls (.ref a :: st)) rfl rfl hd
  exact (k T' X' e').of st'
theorem Ar.toV (F : Ar Z h a ty vs) (d : Value) : ∃ k, Arv Z h a k ty (Int32.ofNat vs.length) vs d := by
  obtain ⟨cl, A, hs, hl, hf⟩ := F
  have e1 : cl.slots.size = vs.length := by rw [← hs, Array.length_toList]
  obtain ⟨e2, q⟩ := own_nat (j := Int32.ofNat vs.length) (i := vs.length) (Int32.toInt_ofNat_of_lt (by omega))
  refine ⟨cl.cls, cl, A, rfl, by rw [e2, e1], q, fun i hi => ?_, fun i hi => ?_⟩
  · rw [← Array.getElem?_toList, hs, List.getD_eq_getElem?_getD, List.getElem?_eq_getElem (by omega)]; rfl
  · rw [List.getD_eq_getElem?_getD, List.getElem?_eq_getElem (by omega)]; exact hf _ (List.getElem_mem _)
theorem Ar.ofV {k : ClassId} {z : Int32} {d : Value} (F : Arv Z h a k ty z vs d) (hl : vs.length = z.toNatClampNeg) (hb : vs.length < 2 ^ 31) : Ar Z h a ty vs := by
  obtain ⟨cl, A, -, hs, -, H, G⟩ := F
  have e : cl.slots.toList = vs := by
    apply List.ext_getElem?
    intro i
    by_cases hi : i < cl.slots.size
    · rw [Array.getElem?_toList, H i hi, List.getD_eq_getElem?_getD, List.getElem?_eq_getElem (by omega)]; rfl
    · rw [List.getElem?_eq_none (by rw [Array.length_toList]; omega), List.getElem?_eq_none (by omega)]
  refine ⟨cl, A, e, hb, fun v hv => ?_⟩
  obtain ⟨i, hi, rfl⟩ := List.getElem_of_mem hv
  have q := G i (by omega)
  rwa [List.getD_eq_getElem?_getD, List.getElem?_eq_getElem hi] at q
theorem own_rangeTake (vs : List Value) (d : Value) (n : Nat) (hn : n ≤ vs.length) : (List.range n).map (fun i => vs.getD (0 + i) d) = vs.take n := by
  apply List.ext_getElem
  · simp; omega
  · intro i h1 h2
    simp at h1 h2
    simp [List.getElem?_eq_getElem (show i < vs.length by omega)]
theorem g_acopy (X : Stand p l e R s m args below meth c T locs cells slots) (hx : p.tables.exec = Jvm.exec) (hZ : Z.Warmed39 s.vm) {own : String} {index : Nat} (hown : s.vm.findClass own = some m.cls) (hml : Ls.size = c.maxLocals) (eT : T.heap = h)
    (w1 : (Jvm.Cond.methodLink own index Jvm.Stand.acN).before a0 Z = true) (w2 : (Jvm.Cond.native Jvm.Stand.acN).before a0 Z = true) (w3 : (Jvm.Cond.static Jvm.Stand.acN).before a0 Z = true) (w4 : (Jvm.Cond.initialized "java/lang/System").before a0 Z = true)
    {vd : List Value} (A : Ar Z h a ty vs) (B : Ar Z h b ty vd) (hp : refKind ty = false) {nn : Int32} {n : Nat} (hn : nn.toInt = n) (h1 : n ≤ vs.length) (h2 : n ≤ vd.length) {n0 : Nat} (N : Fr n0 locs) (ge : n0 ≤ b) (hd : decode c.code pc = .ok (.invokestatic index, 3))
    (W : Nat) (hf : 1 ≤ R.frames) (hW : (st.map fun v => v.category).sum ≤ W) (hlo : W + (nativeFrameWords "java/lang/System" "arraycopy" 5 + 11) ≤ R.locals)
    (k : ∀ T' h' L, Stand p l e R s m args below meth c T' L cells slots → T'.heap = h' → Fr n0 L → Keep h h' [b] → Ar Z h' b ty (vs.take n ++ vd.drop n) → Goes p.tables e below (T'.setTop (mkF m (pc + 3) Ls st)) P) :
    Goes p.tables e below (T.setTop (mkF m pc Ls (.int nn :: .int 0 :: .ref b :: .int 0 :: .ref a :: st))) P := by
  obtain ⟨k1, A1⟩ := A.toV .null
  obtain ⟨k2, B1⟩ := B.toV .null
  obtain ⟨en, qn⟩ := own_nat hn
  have lv : vs.length < 2 ^ 31 := by obtain ⟨_, _, _, q, _⟩ := A; exact q
  have ld : vd.length < 2 ^ 31 := by obtain ⟨_, _, _, q, _⟩ := B; exact q
  have ev : (Int32.ofNat vs.length).toNatClampNeg = vs.length := (own_nat (Int32.toInt_ofNat_of_lt (by omega))).1
  have ed : (Int32.ofNat vd.length).toNatClampNeg = vd.length := (own_nat (Int32.toInt_ofNat_of_lt (by omega))).1
  have e0 : (0 : Int32).toNatClampNeg = 0 := rfl
  obtain ⟨T', h', L, X', e', N', K', B', st'⟩ := cpA X hx hZ hown w1 w2 w3 w4 eT A1 B1 (sp := 0) (dp := 0) (nn := nn) (Or.inl ⟨rfl, hp⟩) (by decide) (by decide) qn (by rw [e0, en, ev]; omega) (by rw [e0, en, ed]; omega) rfl (by rw [e0, en]; omega) N ge (g := mkF m pc Ls (.int nn :: .int 0 :: .ref b :: .int 0 :: .ref a :: st)) rfl hml rfl hd hf (W := W) (by show 2 * 0 + _ ≤ _; omega) hlo
  rw [e0, en, own_rangeTake vs _ n h1, List.take_zero, List.nil_append, Nat.zero_add] at B'
  have hlen : (vs.take n ++ vd.drop n).length = vd.length := by rw [List.length_append, List.length_take, List.length_drop]; omega
  exact (k T' h' L X' e' N' K' (Ar.ofV B' (by rw [hlen, ed]) (by rw [hlen]; exact ld))).of st'
end Arrays
theorem own_nst {a : Addr} {K : String} (E : Exa Z h a K) : ∀ c : Cell, h[a]? = some c → c.vm.isStatics = false := fun c hc => by
  obtain ⟨cell, k, h1, -, -, h4, -⟩ := E
  cases h1.symm.trans hc
  exact h4
theorem own_stakeep {h' : Heap} {K n d : String} {v : Value} {ws : List Addr} (F : Sta Z h K n d v) (hK : Keep h h' ws) (q : ∀ x ∈ ws, ∀ c : Cell, h[x]? = some c → c.vm.isStatics = false) : Sta Z h' K n d v := by
  obtain ⟨cf, i, k, f, sa, cell, h1, h2, h3, h4, h5, h6, h7⟩ := F
  exact ⟨cf, i, k, f, sa, cell, h1, h2, h3, h4, hK.2.1 sa cell h5 (fun hm => by rw [q sa hm cell h5] at h6; cases h6), h6, h7⟩
/-! words on statics -/
section Words
variable {first : State} {o : Option Outcome} {idx : List Nat} {ta tb : Term}
theorem own_eqR {y : Addr} (h : (Jvm.Cond.eq ta tb).value args first o s idx = some true) (hb : tb.eval args first o idx s = some (.ref y)) : ta.eval args first o idx s = some (.ref y) := by
  obtain ⟨x, z, ha, hb', k1, k2⟩ := cmp_v (Or.inl h)
  cases hb.symm.trans hb'
  have e := gotT (eq_R ha hb k2.2 rfl) h
  rw [ha, e]
theorem own_eqI {y : Int32} (h : (Jvm.Cond.eq ta tb).value args first o s idx = some true) (hb : tb.eval args first o idx s = some (.int y)) : ta.eval args first o idx s = some (.int y) := by
  obtain ⟨x, z, ha, hb', k1, k2⟩ := cmp_v (Or.inl h)
  cases hb.symm.trans hb'
  obtain ⟨w, rfl⟩ := k2
  simp [Jvm.Cond.value, ha, hb] at h
  rw [ha, h]
end Words
end Walk
end Jvm.OwnW
namespace Jvm.Pilot.@@N@@
open Jvm Jvm.ClassFile Sem Op Lib Jvm.Free Jvm.Stand Jvm.LawKit Jvm.RoadKit Bundle Jvm.OwnW Jvm.Pilot.@@N@@.Jvm.D
theorem d3_0 : decode method_2_code 0 = .ok (.lload_n 0, 1) := by decide +kernel
theorem d3_1 : decode method_2_code 1 = .ok (.lstore_n 2, 1) := by decide +kernel
theorem d3_2 : decode method_2_code 2 = .ok (.lload_n 2, 1) := by decide +kernel
theorem d3_3 : decode method_2_code 3 = .ok (.ldc2_w 7, 3) := by decide +kernel
theorem d3_6 : decode method_2_code 6 = .ok (.lload_n 0, 1) := by decide +kernel
theorem d3_7 : decode method_2_code 7 = .ok (.lload_n 2, 1) := by decide +kernel
theorem d3_8 : decode method_2_code 8 = .ok (.lmul, 1) := by decide +kernel
theorem d3_9 : decode method_2_code 9 = .ok (.lsub, 1) := by decide +kernel
theorem d3_10 : decode method_2_code 10 = .ok (.lmul, 1) := by decide +kernel
theorem d3_11 : decode method_2_code 11 = .ok (.lstore_n 2, 1) := by decide +kernel
theorem d3_12 : decode method_2_code 12 = .ok (.lload_n 2, 1) := by decide +kernel
theorem d3_13 : decode method_2_code 13 = .ok (.ldc2_w 7, 3) := by decide +kernel
theorem d3_16 : decode method_2_code 16 = .ok (.lload_n 0, 1) := by decide +kernel
theorem d3_17 : decode method_2_code 17 = .ok (.lload_n 2, 1) := by decide +kernel
theorem d3_18 : decode method_2_code 18 = .ok (.lmul, 1) := by decide +kernel
theorem d3_19 : decode method_2_code 19 = .ok (.lsub, 1) := by decide +kernel
theorem d3_20 : decode method_2_code 20 = .ok (.lmul, 1) := by decide +kernel
theorem d3_21 : decode method_2_code 21 = .ok (.lstore_n 2, 1) := by decide +kernel
theorem d3_22 : decode method_2_code 22 = .ok (.lload_n 2, 1) := by decide +kernel
theorem d3_23 : decode method_2_code 23 = .ok (.ldc2_w 7, 3) := by decide +kernel
theorem d3_26 : decode method_2_code 26 = .ok (.lload_n 0, 1) := by decide +kernel
theorem d3_27 : decode method_2_code 27 = .ok (.lload_n 2, 1) := by decide +kernel
theorem d3_28 : decode method_2_code 28 = .ok (.lmul, 1) := by decide +kernel
theorem d3_29 : decode method_2_code 29 = .ok (.lsub, 1) := by decide +kernel
theorem d3_30 : decode method_2_code 30 = .ok (.lmul, 1) := by decide +kernel
theorem d3_31 : decode method_2_code 31 = .ok (.lstore_n 2, 1) := by decide +kernel
theorem d3_32 : decode method_2_code 32 = .ok (.lload_n 2, 1) := by decide +kernel
theorem d3_33 : decode method_2_code 33 = .ok (.ldc2_w 7, 3) := by decide +kernel
theorem d3_36 : decode method_2_code 36 = .ok (.lload_n 0, 1) := by decide +kernel
theorem d3_37 : decode method_2_code 37 = .ok (.lload_n 2, 1) := by decide +kernel
theorem d3_38 : decode method_2_code 38 = .ok (.lmul, 1) := by decide +kernel
theorem d3_39 : decode method_2_code 39 = .ok (.lsub, 1) := by decide +kernel
theorem d3_40 : decode method_2_code 40 = .ok (.lmul, 1) := by decide +kernel
theorem d3_41 : decode method_2_code 41 = .ok (.lstore_n 2, 1) := by decide +kernel
theorem d3_42 : decode method_2_code 42 = .ok (.lload_n 2, 1) := by decide +kernel
theorem d3_43 : decode method_2_code 43 = .ok (.ldc2_w 7, 3) := by decide +kernel
theorem d3_46 : decode method_2_code 46 = .ok (.lload_n 0, 1) := by decide +kernel
theorem d3_47 : decode method_2_code 47 = .ok (.lload_n 2, 1) := by decide +kernel
theorem d3_48 : decode method_2_code 48 = .ok (.lmul, 1) := by decide +kernel
theorem d3_49 : decode method_2_code 49 = .ok (.lsub, 1) := by decide +kernel
theorem d3_50 : decode method_2_code 50 = .ok (.lmul, 1) := by decide +kernel
theorem d3_51 : decode method_2_code 51 = .ok (.lstore_n 2, 1) := by decide +kernel
theorem d3_52 : decode method_2_code 52 = .ok (.lload_n 2, 1) := by decide +kernel
theorem d3_53 : decode method_2_code 53 = .ok (.lreturn, 1) := by decide +kernel
theorem pd_3 : parseMethodDescriptor "(J)J" = some ⟨[.long], some .long⟩ := by decide +kernel
theorem ef_3 (m : MethodId) (p0 : Int64) : entryFrame m #[(.long p0)] 4 = mkF m 0 #[.val (.long p0), .second, .unset, .unset] [] := by first | (simp [entryFrame, mkF, argsToLocals, Value.category]; done) | rfl
def own_nw (c i : Int64) : Int64 := i * ((2 : Int64) - c * i)
def invV (c : Int64) : Int64 := own_nw c (own_nw c (own_nw c (own_nw c (own_nw c c))))
set_option maxRecDepth 65536 in
set_option maxHeartbeats 40000000 in
theorem rmI (l : Launch) (Z : State) (a0 : Array Value) (hw : ∀ d ∈ tables_1, d.before a0 Z = true) (p0 : Int64) (h0 : Heap)  :
    Con l Z (⟨"com/example/delvedeck/delvedeck/core/RngMixPinLaw", "inverse", "(J)J"⟩ : MethodName) method_2_code 4 (some .long) [] ({ frames := 0, cells := 0, slots := 0, locals := 0 } : Room) 0 0 #[(.long p0)] h0 (fun v h L => v = some (.long (invV p0)) ∧ h = h0 ∧ L = []) := by
  refine Con.body (plainFor_of_name (by first | (simp [plainName, overriddenIn]; done) | decide +kernel)) ?_
  intro p e s m below meth c T0 hx hby hml hown hnm hZ hret hk X0 e0
  refine Goes.cast (ef_3 m p0) ?_
  show Goes p.tables e below (T0.setTop (mkF m 0 #[.val (.long p0), .second, .unset, .unset] [])) _
  refine g_lloadN X0 hx (hb hby d3_0) rfl ?_
  show Goes p.tables e below (T0.setTop (mkF m 1 #[.val (.long p0), .second, .unset, .unset] [(.long p0)])) _
  refine g_lstoreN X0 hx (hb hby d3_1) (l' := #[.val (.long p0), .second, .val (.long p0), .second]) rfl ?_
  show Goes p.tables e below (T0.setTop (mkF m 2 #[.val (.long p0), .second, .val (.long p0), .second] [])) _
  refine g_lloadN X0 hx (hb hby d3_2) rfl ?_
  show Goes p.tables e below (T0.setTop (mkF m 3 #[.val (.long p0), .second, .val (.long p0), .second] [(.long p0)])) _
  refine g_ldc2 X0 hx hZ hown (hw _ (List.mem_of_getElem? (i := 14) rfl)) (hb hby d3_3) ?_
  show Goes p.tables e below (T0.setTop (mkF m 6 #[.val (.long p0), .second, .val (.long p0), .second] [(.long (2 : Int64)), (.long p0)])) _
  refine g_lloadN X0 hx (hb hby d3_6) rfl ?_
  show Goes p.tables e below (T0.setTop (mkF m 7 #[.val (.long p0), .second, .val (.long p0), .second] [(.long p0), (.long (2 : Int64)), (.long p0)])) _
  refine g_lloadN X0 hx (hb hby d3_7) rfl ?_
  show Goes p.tables e below (T0.setTop (mkF m 8 #[.val (.long p0), .second, .val (.long p0), .second] [(.long p0), (.long p0), (.long (2 : Int64)), (.long p0)])) _
  refine g_lmul X0 hx (hb hby d3_8) ?_
  show Goes p.tables e below (T0.setTop (mkF m 9 #[.val (.long p0), .second, .val (.long p0), .second] [(.long (p0 * p0)), (.long (2 : Int64)), (.long p0)])) _
  refine g_lsub X0 hx (hb hby d3_9) ?_
  show Goes p.tables e below (T0.setTop (mkF m 10 #[.val (.long p0), .second, .val (.long p0), .second] [(.long ((2 : Int64) - (p0 * p0))), (.long p0)])) _
  refine g_lmul X0 hx (hb hby d3_10) ?_
  show Goes p.tables e below (T0.setTop (mkF m 11 #[.val (.long p0), .second, .val (.long p0), .second] [(.long (p0 * ((2 : Int64) - (p0 * p0))))])) _
  obtain ⟨v1, hv1⟩ : ∃ z : Int64, z = (p0 * ((2 : Int64) - (p0 * p0))) := ⟨_, rfl⟩
  refine g_nameL hv1 ?_
  show Goes p.tables e below (T0.setTop (mkF m 11 #[.val (.long p0), .second, .val (.long p0), .second] [(.long v1)])) _
  refine g_lstoreN X0 hx (hb hby d3_11) (l' := #[.val (.long p0), .second, .val (.long v1), .second]) rfl ?_
  show Goes p.tables e below (T0.setTop (mkF m 12 #[.val (.long p0), .second, .val (.long v1), .second] [])) _
  refine g_lloadN X0 hx (hb hby d3_12) rfl ?_
  show Goes p.tables e below (T0.setTop (mkF m 13 #[.val (.long p0), .second, .val (.long v1), .second] [(.long v1)])) _
  refine g_ldc2 X0 hx hZ hown (hw _ (List.mem_of_getElem? (i := 14) rfl)) (hb hby d3_13) ?_
  show Goes p.tables e below (T0.setTop (mkF m 16 #[.val (.long p0), .second, .val (.long v1), .second] [(.long (2 : Int64)), (.long v1)])) _
  refine g_lloadN X0 hx (hb hby d3_16) rfl ?_
  show Goes p.tables e below (T0.setTop (mkF m 17 #[.val (.long p0), .second, .val (.long v1), .second] [(.long p0), (.long (2 : Int64)), (.long v1)])) _
  refine g_lloadN X0 hx (hb hby d3_17) rfl ?_
  show Goes p.tables e below (T0.setTop (mkF m 18 #[.val (.long p0), .second, .val (.long v1), .second] [(.long v1), (.long p0), (.long (2 : Int64)), (.long v1)])) _
  refine g_lmul X0 hx (hb hby d3_18) ?_
  show Goes p.tables e below (T0.setTop (mkF m 19 #[.val (.long p0), .second, .val (.long v1), .second] [(.long (p0 * v1)), (.long (2 : Int64)), (.long v1)])) _
  refine g_lsub X0 hx (hb hby d3_19) ?_
  show Goes p.tables e below (T0.setTop (mkF m 20 #[.val (.long p0), .second, .val (.long v1), .second] [(.long ((2 : Int64) - (p0 * v1))), (.long v1)])) _
  refine g_lmul X0 hx (hb hby d3_20) ?_
  show Goes p.tables e below (T0.setTop (mkF m 21 #[.val (.long p0), .second, .val (.long v1), .second] [(.long (v1 * ((2 : Int64) - (p0 * v1))))])) _
  obtain ⟨v2, hv2⟩ : ∃ z : Int64, z = (v1 * ((2 : Int64) - (p0 * v1))) := ⟨_, rfl⟩
  refine g_nameL hv2 ?_
  show Goes p.tables e below (T0.setTop (mkF m 21 #[.val (.long p0), .second, .val (.long v1), .second] [(.long v2)])) _
  refine g_lstoreN X0 hx (hb hby d3_21) (l' := #[.val (.long p0), .second, .val (.long v2), .second]) rfl ?_
  show Goes p.tables e below (T0.setTop (mkF m 22 #[.val (.long p0), .second, .val (.long v2), .second] [])) _
  refine g_lloadN X0 hx (hb hby d3_22) rfl ?_
  show Goes p.tables e below (T0.setTop (mkF m 23 #[.val (.long p0), .second, .val (.long v2), .second] [(.long v2)])) _
  refine g_ldc2 X0 hx hZ hown (hw _ (List.mem_of_getElem? (i := 14) rfl)) (hb hby d3_23) ?_
  show Goes p.tables e below (T0.setTop (mkF m 26 #[.val (.long p0), .second, .val (.long v2), .second] [(.long (2 : Int64)), (.long v2)])) _
  refine g_lloadN X0 hx (hb hby d3_26) rfl ?_
  show Goes p.tables e below (T0.setTop (mkF m 27 #[.val (.long p0), .second, .val (.long v2), .second] [(.long p0), (.long (2 : Int64)), (.long v2)])) _
  refine g_lloadN X0 hx (hb hby d3_27) rfl ?_
  show Goes p.tables e below (T0.setTop (mkF m 28 #[.val (.long p0), .second, .val (.long v2), .second] [(.long v2), (.long p0), (.long (2 : Int64)), (.long v2)])) _
  refine g_lmul X0 hx (hb hby d3_28) ?_
  show Goes p.tables e below (T0.setTop (mkF m 29 #[.val (.long p0), .second, .val (.long v2), .second] [(.long (p0 * v2)), (.long (2 : Int64)), (.long v2)])) _
  refine g_lsub X0 hx (hb hby d3_29) ?_
  show Goes p.tables e below (T0.setTop (mkF m 30 #[.val (.long p0), .second, .val (.long v2), .second] [(.long ((2 : Int64) - (p0 * v2))), (.long v2)])) _
  refine g_lmul X0 hx (hb hby d3_30) ?_
  show Goes p.tables e below (T0.setTop (mkF m 31 #[.val (.long p0), .second, .val (.long v2), .second] [(.long (v2 * ((2 : Int64) - (p0 * v2))))])) _
  obtain ⟨v3, hv3⟩ : ∃ z : Int64, z = (v2 * ((2 : Int64) - (p0 * v2))) := ⟨_, rfl⟩
  refine g_nameL hv3 ?_
  show Goes p.tables e below (T0.setTop (mkF m 31 #[.val (.long p0), .second, .val (.long v2), .second] [(.long v3)])) _
  refine g_lstoreN X0 hx (hb hby d3_31) (l' := #[.val (.long p0), .second, .val (.long v3), .second]) rfl ?_
  show Goes p.tables e below (T0.setTop (mkF m 32 #[.val (.long p0), .second, .val (.long v3), .second] [])) _
  refine g_lloadN X0 hx (hb hby d3_32) rfl ?_
  show Goes p.tables e below (T0.setTop (mkF m 33 #[.val (.long p0), .second, .val (.long v3), .second] [(.long v3)])) _
  refine g_ldc2 X0 hx hZ hown (hw _ (List.mem_of_getElem? (i := 14) rfl)) (hb hby d3_33) ?_
  show Goes p.tables e below (T0.setTop (mkF m 36 #[.val (.long p0), .second, .val (.long v3), .second] [(.long (2 : Int64)), (.long v3)])) _
  refine g_lloadN X0 hx (hb hby d3_36) rfl ?_
  show Goes p.tables e below (T0.setTop (mkF m 37 #[.val (.long p0), .second, .val (.long v3), .second] [(.long p0), (.long (2 : Int64)), (.long v3)])) _
  refine g_lloadN X0 hx (hb hby d3_37) rfl ?_
  show Goes p.tables e below (T0.setTop (mkF m 38 #[.val (.long p0), .second, .val (.long v3), .second] [(.long v3), (.long p0), (.long (2 : Int64)), (.long v3)])) _
  refine g_lmul X0 hx (hb hby d3_38) ?_
  show Goes p.tables e below (T0.setTop (mkF m 39 #[.val (.long p0), .second, .val (.long v3), .second] [(.long (p0 * v3)), (.long (2 : Int64)), (.long v3)])) _
  refine g_lsub X0 hx (hb hby d3_39) ?_
  show Goes p.tables e below (T0.setTop (mkF m 40 #[.val (.long p0), .second, .val (.long v3), .second] [(.long ((2 : Int64) - (p0 * v3))), (.long v3)])) _
  refine g_lmul X0 hx (hb hby d3_40) ?_
  show Goes p.tables e below (T0.setTop (mkF m 41 #[.val (.long p0), .second, .val (.long v3), .second] [(.long (v3 * ((2 : Int64) - (p0 * v3))))])) _
  obtain ⟨v4, hv4⟩ : ∃ z : Int64, z = (v3 * ((2 : Int64) - (p0 * v3))) := ⟨_, rfl⟩
  refine g_nameL hv4 ?_
  show Goes p.tables e below (T0.setTop (mkF m 41 #[.val (.long p0), .second, .val (.long v3), .second] [(.long v4)])) _
  refine g_lstoreN X0 hx (hb hby d3_41) (l' := #[.val (.long p0), .second, .val (.long v4), .second]) rfl ?_
  show Goes p.tables e below (T0.setTop (mkF m 42 #[.val (.long p0), .second, .val (.long v4), .second] [])) _
  refine g_lloadN X0 hx (hb hby d3_42) rfl ?_
  show Goes p.tables e below (T0.setTop (mkF m 43 #[.val (.long p0), .second, .val (.long v4), .second] [(.long v4)])) _
  refine g_ldc2 X0 hx hZ hown (hw _ (List.mem_of_getElem? (i := 14) rfl)) (hb hby d3_43) ?_
  show Goes p.tables e below (T0.setTop (mkF m 46 #[.val (.long p0), .second, .val (.long v4), .second] [(.long (2 : Int64)), (.long v4)])) _
  refine g_lloadN X0 hx (hb hby d3_46) rfl ?_
  show Goes p.tables e below (T0.setTop (mkF m 47 #[.val (.long p0), .second, .val (.long v4), .second] [(.long p0), (.long (2 : Int64)), (.long v4)])) _
  refine g_lloadN X0 hx (hb hby d3_47) rfl ?_
  show Goes p.tables e below (T0.setTop (mkF m 48 #[.val (.long p0), .second, .val (.long v4), .second] [(.long v4), (.long p0), (.long (2 : Int64)), (.long v4)])) _
  refine g_lmul X0 hx (hb hby d3_48) ?_
  show Goes p.tables e below (T0.setTop (mkF m 49 #[.val (.long p0), .second, .val (.long v4), .second] [(.long (p0 * v4)), (.long (2 : Int64)), (.long v4)])) _
  refine g_lsub X0 hx (hb hby d3_49) ?_
  show Goes p.tables e below (T0.setTop (mkF m 50 #[.val (.long p0), .second, .val (.long v4), .second] [(.long ((2 : Int64) - (p0 * v4))), (.long v4)])) _
  refine g_lmul X0 hx (hb hby d3_50) ?_
  show Goes p.tables e below (T0.setTop (mkF m 51 #[.val (.long p0), .second, .val (.long v4), .second] [(.long (v4 * ((2 : Int64) - (p0 * v4))))])) _
  obtain ⟨v5, hv5⟩ : ∃ z : Int64, z = (v4 * ((2 : Int64) - (p0 * v4))) := ⟨_, rfl⟩
  refine g_nameL hv5 ?_
  show Goes p.tables e below (T0.setTop (mkF m 51 #[.val (.long p0), .second, .val (.long v4), .second] [(.long v5)])) _
  refine g_lstoreN X0 hx (hb hby d3_51) (l' := #[.val (.long p0), .second, .val (.long v5), .second]) rfl ?_
  show Goes p.tables e below (T0.setTop (mkF m 52 #[.val (.long p0), .second, .val (.long v5), .second] [])) _
  refine g_lloadN X0 hx (hb hby d3_52) rfl ?_
  show Goes p.tables e below (T0.setTop (mkF m 53 #[.val (.long p0), .second, .val (.long v5), .second] [(.long v5)])) _
  exact g_retL X0 hx hret hk (hb hby d3_53) (by decide) (by decide) ⟨by subst_vars; rfl, e0, rfl⟩
theorem d1_0 : decode prog_6_method_3_code 0 = .ok (.lload_n 0, 1) := by decide +kernel
theorem d1_1 : decode prog_6_method_3_code 1 = .ok (.lstore_n 2, 1) := by decide +kernel
theorem d1_2 : decode prog_6_method_3_code 2 = .ok (.lload_n 2, 1) := by decide +kernel
theorem d1_3 : decode prog_6_method_3_code 3 = .ok (.lload_n 2, 1) := by decide +kernel
theorem d1_4 : decode prog_6_method_3_code 4 = .ok (.bipush 30, 2) := by decide +kernel
theorem d1_6 : decode prog_6_method_3_code 6 = .ok (.lushr, 1) := by decide +kernel
theorem d1_7 : decode prog_6_method_3_code 7 = .ok (.lxor, 1) := by decide +kernel
theorem d1_8 : decode prog_6_method_3_code 8 = .ok (.ldc2_w 22, 3) := by decide +kernel
theorem d1_11 : decode prog_6_method_3_code 11 = .ok (.lmul, 1) := by decide +kernel
theorem d1_12 : decode prog_6_method_3_code 12 = .ok (.lstore_n 2, 1) := by decide +kernel
theorem d1_13 : decode prog_6_method_3_code 13 = .ok (.lload_n 2, 1) := by decide +kernel
theorem d1_14 : decode prog_6_method_3_code 14 = .ok (.lload_n 2, 1) := by decide +kernel
theorem d1_15 : decode prog_6_method_3_code 15 = .ok (.bipush 27, 2) := by decide +kernel
theorem d1_17 : decode prog_6_method_3_code 17 = .ok (.lushr, 1) := by decide +kernel
theorem d1_18 : decode prog_6_method_3_code 18 = .ok (.lxor, 1) := by decide +kernel
theorem d1_19 : decode prog_6_method_3_code 19 = .ok (.ldc2_w 24, 3) := by decide +kernel
theorem d1_22 : decode prog_6_method_3_code 22 = .ok (.lmul, 1) := by decide +kernel
theorem d1_23 : decode prog_6_method_3_code 23 = .ok (.lstore_n 2, 1) := by decide +kernel
theorem d1_24 : decode prog_6_method_3_code 24 = .ok (.lload_n 2, 1) := by decide +kernel
theorem d1_25 : decode prog_6_method_3_code 25 = .ok (.lload_n 2, 1) := by decide +kernel
theorem d1_26 : decode prog_6_method_3_code 26 = .ok (.bipush 31, 2) := by decide +kernel
theorem d1_28 : decode prog_6_method_3_code 28 = .ok (.lushr, 1) := by decide +kernel
theorem d1_29 : decode prog_6_method_3_code 29 = .ok (.lxor, 1) := by decide +kernel
theorem d1_30 : decode prog_6_method_3_code 30 = .ok (.lreturn, 1) := by decide +kernel
theorem pd_1 : parseMethodDescriptor "(J)J" = some ⟨[.long], some .long⟩ := by decide +kernel
theorem ef_1 (m : MethodId) (p0 : Int64) : entryFrame m #[(.long p0)] 4 = mkF m 0 #[.val (.long p0), .second, .unset, .unset] [] := by first | (simp [entryFrame, mkF, argsToLocals, Value.category]; done) | rfl
def own_xs (x : Int64) (k : Int32) : Int64 := x ^^^ XT.ushrL x k
def mixV (x : Int64) : Int64 := own_xs (own_xs (own_xs x 30 * (-4658895280553007687 : Int64)) 27 * (-7723592293110705685 : Int64)) 31
set_option maxRecDepth 65536 in
set_option maxHeartbeats 40000000 in
theorem rmM (l : Launch) (Z : State) (a0 : Array Value) (hw : ∀ d ∈ tables_1, d.before a0 Z = true) (p0 : Int64) (h0 : Heap)  :
    Con l Z (⟨"com/example/delvedeck/delvedeck/core/Rng", "mix", "(J)J"⟩ : MethodName) prog_6_method_3_code 4 (some .long) [] ({ frames := 0, cells := 0, slots := 0, locals := 0 } : Room) 0 0 #[(.long p0)] h0 (fun v h L => v = some (.long (mixV p0)) ∧ h = h0 ∧ L = []) := by
  refine Con.body (plainFor_of_name (by first | (simp [plainName, overriddenIn]; done) | decide +kernel)) ?_
  intro p e s m below meth c T0 hx hby hml hown hnm hZ hret hk X0 e0
  refine Goes.cast (ef_1 m p0) ?_
  show Goes p.tables e below (T0.setTop (mkF m 0 #[.val (.long p0), .second, .unset, .unset] [])) _
  refine g_lloadN X0 hx (hb hby d1_0) rfl ?_
  show Goes p.tables e below (T0.setTop (mkF m 1 #[.val (.long p0), .second, .unset, .unset] [(.long p0)])) _
  refine g_lstoreN X0 hx (hb hby d1_1) (l' := #[.val (.long p0), .second, .val (.long p0), .second]) rfl ?_
  show Goes p.tables e below (T0.setTop (mkF m 2 #[.val (.long p0), .second, .val (.long p0), .second] [])) _
  refine g_lloadN X0 hx (hb hby d1_2) rfl ?_
  show Goes p.tables e below (T0.setTop (mkF m 3 #[.val (.long p0), .second, .val (.long p0), .second] [(.long p0)])) _
  refine g_lloadN X0 hx (hb hby d1_3) rfl ?_
  show Goes p.tables e below (T0.setTop (mkF m 4 #[.val (.long p0), .second, .val (.long p0), .second] [(.long p0), (.long p0)])) _
  refine g_bipush X0 hx (30 : Int32) (hb hby d1_4) (by decide) ?_
  show Goes p.tables e below (T0.setTop (mkF m 6 #[.val (.long p0), .second, .val (.long p0), .second] [(.int (30 : Int32)), (.long p0), (.long p0)])) _
  refine g_lushr X0 hx (hb hby d1_6) ?_
  show Goes p.tables e below (T0.setTop (mkF m 7 #[.val (.long p0), .second, .val (.long p0), .second] [(.long (XT.ushrL p0 (30 : Int32))), (.long p0)])) _
  refine g_lxor X0 hx (hb hby d1_7) ?_
  show Goes p.tables e below (T0.setTop (mkF m 8 #[.val (.long p0), .second, .val (.long p0), .second] [(.long (p0 ^^^ (XT.ushrL p0 (30 : Int32))))])) _
  refine g_ldc2 X0 hx hZ hown (hw _ (List.mem_of_getElem? (i := 4) rfl)) (hb hby d1_8) ?_
  show Goes p.tables e below (T0.setTop (mkF m 11 #[.val (.long p0), .second, .val (.long p0), .second] [(.long (-4658895280553007687 : Int64)), (.long (p0 ^^^ (XT.ushrL p0 (30 : Int32))))])) _
  refine g_lmul X0 hx (hb hby d1_11) ?_
  show Goes p.tables e below (T0.setTop (mkF m 12 #[.val (.long p0), .second, .val (.long p0), .second] [(.long ((p0 ^^^ (XT.ushrL p0 (30 : Int32))) * (-4658895280553007687 : Int64)))])) _
  obtain ⟨v1, hv1⟩ : ∃ z : Int64, z = ((p0 ^^^ (XT.ushrL p0 (30 : Int32))) * (-4658895280553007687 : Int64)) := ⟨_, rfl⟩
  refine g_nameL hv1 ?_
  show Goes p.tables e below (T0.setTop (mkF m 12 #[.val (.long p0), .second, .val (.long p0), .second] [(.long v1)])) _
  refine g_lstoreN X0 hx (hb hby d1_12) (l' := #[.val (.long p0), .second, .val (.long v1), .second]) rfl ?_
  show Goes p.tables e below (T0.setTop (mkF m 13 #[.val (.long p0), .second, .val (.long v1), .second] [])) _
  refine g_lloadN X0 hx (hb hby d1_13) rfl ?_
  show Goes p.tables e below (T0.setTop (mkF m 14 #[.val (.long p0), .second, .val (.long v1), .second] [(.long v1)])) _
  refine g_lloadN X0 hx (hb hby d1_14) rfl ?_
  show Goes p.tables e below (T0.setTop (mkF m 15 #[.val (.long p0), .second, .val (.long v1), .second] [(.long v1), (.long v1)])) _
  refine g_bipush X0 hx (27 : Int32) (hb hby d1_15) (by decide) ?_
  show Goes p.tables e below (T0.setTop (mkF m 17 #[.val (.long p0), .second, .val (.long v1), .second] [(.int (27 : Int32)), (.long v1), (.long v1)])) _
  refine g_lushr X0 hx (hb hby d1_17) ?_
  show Goes p.tables e below (T0.setTop (mkF m 18 #[.val (.long p0), .second, .val (.long v1), .second] [(.long (XT.ushrL v1 (27 : Int32))), (.long v1)])) _
  refine g_lxor X0 hx (hb hby d1_18) ?_
  show Goes p.tables e below (T0.setTop (mkF m 19 #[.val (.long p0), .second, .val (.long v1), .second] [(.long (v1 ^^^ (XT.ushrL v1 (27 : Int32))))])) _
  refine g_ldc2 X0 hx hZ hown (hw _ (List.mem_of_getElem? (i := 5) rfl)) (hb hby d1_19) ?_
  show Goes p.tables e below (T0.setTop (mkF m 22 #[.val (.long p0), .second, .val (.long v1), .second] [(.long (-7723592293110705685 : Int64)), (.long (v1 ^^^ (XT.ushrL v1 (27 : Int32))))])) _
  refine g_lmul X0 hx (hb hby d1_22) ?_
  show Goes p.tables e below (T0.setTop (mkF m 23 #[.val (.long p0), .second, .val (.long v1), .second] [(.long ((v1 ^^^ (XT.ushrL v1 (27 : Int32))) * (-7723592293110705685 : Int64)))])) _
  obtain ⟨v2, hv2⟩ : ∃ z : Int64, z = ((v1 ^^^ (XT.ushrL v1 (27 : Int32))) * (-7723592293110705685 : Int64)) := ⟨_, rfl⟩
  refine g_nameL hv2 ?_
  show Goes p.tables e below (T0.setTop (mkF m 23 #[.val (.long p0), .second, .val (.long v1), .second] [(.long v2)])) _
  refine g_lstoreN X0 hx (hb hby d1_23) (l' := #[.val (.long p0), .second, .val (.long v2), .second]) rfl ?_
  show Goes p.tables e below (T0.setTop (mkF m 24 #[.val (.long p0), .second, .val (.long v2), .second] [])) _
  refine g_lloadN X0 hx (hb hby d1_24) rfl ?_
  show Goes p.tables e below (T0.setTop (mkF m 25 #[.val (.long p0), .second, .val (.long v2), .second] [(.long v2)])) _
  refine g_lloadN X0 hx (hb hby d1_25) rfl ?_
  show Goes p.tables e below (T0.setTop (mkF m 26 #[.val (.long p0), .second, .val (.long v2), .second] [(.long v2), (.long v2)])) _
  refine g_bipush X0 hx (31 : Int32) (hb hby d1_26) (by decide) ?_
  show Goes p.tables e below (T0.setTop (mkF m 28 #[.val (.long p0), .second, .val (.long v2), .second] [(.int (31 : Int32)), (.long v2), (.long v2)])) _
  refine g_lushr X0 hx (hb hby d1_28) ?_
  show Goes p.tables e below (T0.setTop (mkF m 29 #[.val (.long p0), .second, .val (.long v2), .second] [(.long (XT.ushrL v2 (31 : Int32))), (.long v2)])) _
  refine g_lxor X0 hx (hb hby d1_29) ?_
  show Goes p.tables e below (T0.setTop (mkF m 30 #[.val (.long p0), .second, .val (.long v2), .second] [(.long (v2 ^^^ (XT.ushrL v2 (31 : Int32))))])) _
  exact g_retL X0 hx hret hk (hb hby d1_30) (by decide) (by decide) ⟨by subst_vars; rfl, e0, rfl⟩
theorem d2_0 : decode method_3_code 0 = .ok (.lload_n 0, 1) := by decide +kernel
theorem d2_1 : decode method_3_code 1 = .ok (.lload_n 0, 1) := by decide +kernel
theorem d2_2 : decode method_3_code 2 = .ok (.bipush 31, 2) := by decide +kernel
theorem d2_4 : decode method_3_code 4 = .ok (.lushr, 1) := by decide +kernel
theorem d2_5 : decode method_3_code 5 = .ok (.lxor, 1) := by decide +kernel
theorem d2_6 : decode method_3_code 6 = .ok (.lload_n 0, 1) := by decide +kernel
theorem d2_7 : decode method_3_code 7 = .ok (.bipush 62, 2) := by decide +kernel
theorem d2_9 : decode method_3_code 9 = .ok (.lushr, 1) := by decide +kernel
theorem d2_10 : decode method_3_code 10 = .ok (.lxor, 1) := by decide +kernel
theorem d2_11 : decode method_3_code 11 = .ok (.lstore_n 2, 1) := by decide +kernel
theorem d2_12 : decode method_3_code 12 = .ok (.lload_n 2, 1) := by decide +kernel
theorem d2_13 : decode method_3_code 13 = .ok (.ldc2_w 9, 3) := by decide +kernel
theorem d2_16 : decode method_3_code 16 = .ok (.invokestatic 11, 3) := by decide +kernel
theorem d2_19 : decode method_3_code 19 = .ok (.lmul, 1) := by decide +kernel
theorem d2_20 : decode method_3_code 20 = .ok (.lstore 4, 2) := by decide +kernel
theorem d2_22 : decode method_3_code 22 = .ok (.lload 4, 2) := by decide +kernel
theorem d2_24 : decode method_3_code 24 = .ok (.lload 4, 2) := by decide +kernel
theorem d2_26 : decode method_3_code 26 = .ok (.bipush 27, 2) := by decide +kernel
theorem d2_28 : decode method_3_code 28 = .ok (.lushr, 1) := by decide +kernel
theorem d2_29 : decode method_3_code 29 = .ok (.lxor, 1) := by decide +kernel
theorem d2_30 : decode method_3_code 30 = .ok (.lload 4, 2) := by decide +kernel
theorem d2_32 : decode method_3_code 32 = .ok (.bipush 54, 2) := by decide +kernel
theorem d2_34 : decode method_3_code 34 = .ok (.lushr, 1) := by decide +kernel
theorem d2_35 : decode method_3_code 35 = .ok (.lxor, 1) := by decide +kernel
theorem d2_36 : decode method_3_code 36 = .ok (.lstore 6, 2) := by decide +kernel
theorem d2_38 : decode method_3_code 38 = .ok (.lload 6, 2) := by decide +kernel
theorem d2_40 : decode method_3_code 40 = .ok (.ldc2_w 17, 3) := by decide +kernel
theorem d2_43 : decode method_3_code 43 = .ok (.invokestatic 11, 3) := by decide +kernel
theorem d2_46 : decode method_3_code 46 = .ok (.lmul, 1) := by decide +kernel
theorem d2_47 : decode method_3_code 47 = .ok (.lstore 8, 2) := by decide +kernel
theorem d2_49 : decode method_3_code 49 = .ok (.lload 8, 2) := by decide +kernel
theorem d2_51 : decode method_3_code 51 = .ok (.lload 8, 2) := by decide +kernel
theorem d2_53 : decode method_3_code 53 = .ok (.bipush 30, 2) := by decide +kernel
theorem d2_55 : decode method_3_code 55 = .ok (.lushr, 1) := by decide +kernel
theorem d2_56 : decode method_3_code 56 = .ok (.lxor, 1) := by decide +kernel
theorem d2_57 : decode method_3_code 57 = .ok (.lload 8, 2) := by decide +kernel
theorem d2_59 : decode method_3_code 59 = .ok (.bipush 60, 2) := by decide +kernel
theorem d2_61 : decode method_3_code 61 = .ok (.lushr, 1) := by decide +kernel
theorem d2_62 : decode method_3_code 62 = .ok (.lxor, 1) := by decide +kernel
theorem d2_63 : decode method_3_code 63 = .ok (.lreturn, 1) := by decide +kernel
theorem pd_2 : parseMethodDescriptor "(J)J" = some ⟨[.long], some .long⟩ := by decide +kernel
theorem ef_2 (m : MethodId) (p0 : Int64) : entryFrame m #[(.long p0)] 10 = mkF m 0 #[.val (.long p0), .second, .unset, .unset, .unset, .unset, .unset, .unset, .unset, .unset] [] := by first | (simp [entryFrame, mkF, argsToLocals, Value.category]; done) | rfl
def own_us (x : Int64) (k k2 : Int32) : Int64 := (x ^^^ XT.ushrL x k) ^^^ XT.ushrL x k2
def unmixV (e : Int64) : Int64 := own_us (own_us (own_us e 31 62 * invV (-7723592293110705685 : Int64)) 27 54 * invV (-4658895280553007687 : Int64)) 30 60
set_option maxRecDepth 65536 in
set_option maxHeartbeats 40000000 in
theorem rmU (l : Launch) (Z : State) (a0 : Array Value) (hw : ∀ d ∈ tables_1, d.before a0 Z = true) (p0 : Int64) (h0 : Heap)  :
    Con l Z (⟨"com/example/delvedeck/delvedeck/core/RngMixPinLaw", "unmix", "(J)J"⟩ : MethodName) method_3_code 10 (some .long) [] ({ frames := 1, cells := 0, slots := 0, locals := 17 } : Room) 0 0 #[(.long p0)] h0 (fun v h L => v = some (.long (unmixV p0)) ∧ h = h0 ∧ L = []) := by
  refine Con.body (plainFor_of_name (by first | (simp [plainName, overriddenIn]; done) | decide +kernel)) ?_
  intro p e s m below meth c T0 hx hby hml hown hnm hZ hret hk X0 e0
  refine Goes.cast (ef_2 m p0) ?_
  show Goes p.tables e below (T0.setTop (mkF m 0 #[.val (.long p0), .second, .unset, .unset, .unset, .unset, .unset, .unset, .unset, .unset] [])) _
  refine g_lloadN X0 hx (hb hby d2_0) rfl ?_
  show Goes p.tables e below (T0.setTop (mkF m 1 #[.val (.long p0), .second, .unset, .unset, .unset, .unset, .unset, .unset, .unset, .unset] [(.long p0)])) _
  refine g_lloadN X0 hx (hb hby d2_1) rfl ?_
  show Goes p.tables e below (T0.setTop (mkF m 2 #[.val (.long p0), .second, .unset, .unset, .unset, .unset, .unset, .unset, .unset, .unset] [(.long p0), (.long p0)])) _
  refine g_bipush X0 hx (31 : Int32) (hb hby d2_2) (by decide) ?_
  show Goes p.tables e below (T0.setTop (mkF m 4 #[.val (.long p0), .second, .unset, .unset, .unset, .unset, .unset, .unset, .unset, .unset] [(.int (31 : Int32)), (.long p0), (.long p0)])) _
  refine g_lushr X0 hx (hb hby d2_4) ?_
  show Goes p.tables e below (T0.setTop (mkF m 5 #[.val (.long p0), .second, .unset, .unset, .unset, .unset, .unset, .unset, .unset, .unset] [(.long (XT.ushrL p0 (31 : Int32))), (.long p0)])) _
  refine g_lxor X0 hx (hb hby d2_5) ?_
  show Goes p.tables e below (T0.setTop (mkF m 6 #[.val (.long p0), .second, .unset, .unset, .unset, .unset, .unset, .unset, .unset, .unset] [(.long (p0 ^^^ (XT.ushrL p0 (31 : Int32))))])) _
  refine g_lloadN X0 hx (hb hby d2_6) rfl ?_
  show Goes p.tables e below (T0.setTop (mkF m 7 #[.val (.long p0), .second, .unset, .unset, .unset, .unset, .unset, .unset, .unset, .unset] [(.long p0), (.long (p0 ^^^ (XT.ushrL p0 (31 : Int32))))])) _
  refine g_bipush X0 hx (62 : Int32) (hb hby d2_7) (by decide) ?_
  show Goes p.tables e below (T0.setTop (mkF m 9 #[.val (.long p0), .second, .unset, .unset, .unset, .unset, .unset, .unset, .unset, .unset] [(.int (62 : Int32)), (.long p0), (.long (p0 ^^^ (XT.ushrL p0 (31 : Int32))))])) _
  refine g_lushr X0 hx (hb hby d2_9) ?_
  show Goes p.tables e below (T0.setTop (mkF m 10 #[.val (.long p0), .second, .unset, .unset, .unset, .unset, .unset, .unset, .unset, .unset] [(.long (XT.ushrL p0 (62 : Int32))), (.long (p0 ^^^ (XT.ushrL p0 (31 : Int32))))])) _
  refine g_lxor X0 hx (hb hby d2_10) ?_
  show Goes p.tables e below (T0.setTop (mkF m 11 #[.val (.long p0), .second, .unset, .unset, .unset, .unset, .unset, .unset, .unset, .unset] [(.long ((p0 ^^^ (XT.ushrL p0 (31 : Int32))) ^^^ (XT.ushrL p0 (62 : Int32))))])) _
  obtain ⟨v1, hv1⟩ : ∃ z : Int64, z = ((p0 ^^^ (XT.ushrL p0 (31 : Int32))) ^^^ (XT.ushrL p0 (62 : Int32))) := ⟨_, rfl⟩
  refine g_nameL hv1 ?_
  show Goes p.tables e below (T0.setTop (mkF m 11 #[.val (.long p0), .second, .unset, .unset, .unset, .unset, .unset, .unset, .unset, .unset] [(.long v1)])) _
  refine g_lstoreN X0 hx (hb hby d2_11) (l' := #[.val (.long p0), .second, .val (.long v1), .second, .unset, .unset, .unset, .unset, .unset, .unset]) rfl ?_
  show Goes p.tables e below (T0.setTop (mkF m 12 #[.val (.long p0), .second, .val (.long v1), .second, .unset, .unset, .unset, .unset, .unset, .unset] [])) _
  refine g_lloadN X0 hx (hb hby d2_12) rfl ?_
  show Goes p.tables e below (T0.setTop (mkF m 13 #[.val (.long p0), .second, .val (.long v1), .second, .unset, .unset, .unset, .unset, .unset, .unset] [(.long v1)])) _
  refine g_ldc2 X0 hx hZ hown (hw _ (List.mem_of_getElem? (i := 10) rfl)) (hb hby d2_13) ?_
  show Goes p.tables e below (T0.setTop (mkF m 16 #[.val (.long p0), .second, .val (.long v1), .second, .unset, .unset, .unset, .unset, .unset, .unset] [(.long (-7723592293110705685 : Int64)), (.long v1)])) _
  refine g_callS X0 hx hZ hown (by rw [hml]; rfl) e0 (hw _ (List.mem_of_getElem? (i := 11) rfl)) (hw _ (List.mem_of_getElem? (i := 12) rfl)) (hw _ (List.mem_of_getElem? (i := 8) rfl)) (hw _ (List.mem_of_getElem? (i := 13) rfl)) (rmI l Z a0 hw (-7723592293110705685 : Int64) h0) [(.long (-7723592293110705685 : Int64))] rfl [(.long v1)] rfl (lenOf pd_3 rfl) (hb hby d2_16) (by decide) 2 (by decide) (by decide) (by first | decide | exact Nat.le_refl _) (by decide) (by decide) (fun v T2 L2 X2 hQ2 => ?_)
  obtain ⟨rfl, e2, rfl⟩ := hQ2
  show Goes p.tables e below (T2.setTop (mkF m 19 #[.val (.long p0), .second, .val (.long v1), .second, .unset, .unset, .unset, .unset, .unset, .unset] [(.long (invV (-7723592293110705685 : Int64))), (.long v1)])) _
  refine g_lmul X2 hx (hb hby d2_19) ?_
  show Goes p.tables e below (T2.setTop (mkF m 20 #[.val (.long p0), .second, .val (.long v1), .second, .unset, .unset, .unset, .unset, .unset, .unset] [(.long (v1 * (invV (-7723592293110705685 : Int64))))])) _
  obtain ⟨v3, hv3⟩ : ∃ z : Int64, z = (v1 * (invV (-7723592293110705685 : Int64))) := ⟨_, rfl⟩
  refine g_nameL hv3 ?_
  show Goes p.tables e below (T2.setTop (mkF m 20 #[.val (.long p0), .second, .val (.long v1), .second, .unset, .unset, .unset, .unset, .unset, .unset] [(.long v3)])) _
  refine g_lstore X2 hx (hb hby d2_20) (l' := #[.val (.long p0), .second, .val (.long v1), .second, .val (.long v3), .second, .unset, .unset, .unset, .unset]) rfl ?_
  show Goes p.tables e below (T2.setTop (mkF m 22 #[.val (.long p0), .second, .val (.long v1), .second, .val (.long v3), .second, .unset, .unset, .unset, .unset] [])) _
  refine g_lload X2 hx (hb hby d2_22) rfl ?_
  show Goes p.tables e below (T2.setTop (mkF m 24 #[.val (.long p0), .second, .val (.long v1), .second, .val (.long v3), .second, .unset, .unset, .unset, .unset] [(.long v3)])) _
  refine g_lload X2 hx (hb hby d2_24) rfl ?_
  show Goes p.tables e below (T2.setTop (mkF m 26 #[.val (.long p0), .second, .val (.long v1), .second, .val (.long v3), .second, .unset, .unset, .unset, .unset] [(.long v3), (.long v3)])) _
  refine g_bipush X2 hx (27 : Int32) (hb hby d2_26) (by decide) ?_
  show Goes p.tables e below (T2.setTop (mkF m 28 #[.val (.long p0), .second, .val (.long v1), .second, .val (.long v3), .second, .unset, .unset, .unset, .unset] [(.int (27 : Int32)), (.long v3), (.long v3)])) _
  refine g_lushr X2 hx (hb hby d2_28) ?_
  show Goes p.tables e below (T2.setTop (mkF m 29 #[.val (.long p0), .second, .val (.long v1), .second, .val (.long v3), .second, .unset, .unset, .unset, .unset] [(.long (XT.ushrL v3 (27 : Int32))), (.long v3)])) _
  refine g_lxor X2 hx (hb hby d2_29) ?_
  show Goes p.tables e below (T2.setTop (mkF m 30 #[.val (.long p0), .second, .val (.long v1), .second, .val (.long v3), .second, .unset, .unset, .unset, .unset] [(.long (v3 ^^^ (XT.ushrL v3 (27 : Int32))))])) _
  refine g_lload X2 hx (hb hby d2_30) rfl ?_
  show Goes p.tables e below (T2.setTop (mkF m 32 #[.val (.long p0), .second, .val (.long v1), .second, .val (.long v3), .second, .unset, .unset, .unset, .unset] [(.long v3), (.long (v3 ^^^ (XT.ushrL v3 (27 : Int32))))])) _
  refine g_bipush X2 hx (54 : Int32) (hb hby d2_32) (by decide) ?_
  show Goes p.tables e below (T2.setTop (mkF m 34 #[.val (.long p0), .second, .val (.long v1), .second, .val (.long v3), .second, .unset, .unset, .unset, .unset] [(.int (54 : Int32)), (.long v3), (.long (v3 ^^^ (XT.ushrL v3 (27 : Int32))))])) _
  refine g_lushr X2 hx (hb hby d2_34) ?_
  show Goes p.tables e below (T2.setTop (mkF m 35 #[.val (.long p0), .second, .val (.long v1), .second, .val (.long v3), .second, .unset, .unset, .unset, .unset] [(.long (XT.ushrL v3 (54 : Int32))), (.long (v3 ^^^ (XT.ushrL v3 (27 : Int32))))])) _
  refine g_lxor X2 hx (hb hby d2_35) ?_
  show Goes p.tables e below (T2.setTop (mkF m 36 #[.val (.long p0), .second, .val (.long v1), .second, .val (.long v3), .second, .unset, .unset, .unset, .unset] [(.long ((v3 ^^^ (XT.ushrL v3 (27 : Int32))) ^^^ (XT.ushrL v3 (54 : Int32))))])) _
  obtain ⟨v4, hv4⟩ : ∃ z : Int64, z = ((v3 ^^^ (XT.ushrL v3 (27 : Int32))) ^^^ (XT.ushrL v3 (54 : Int32))) := ⟨_, rfl⟩
  refine g_nameL hv4 ?_
  show Goes p.tables e below (T2.setTop (mkF m 36 #[.val (.long p0), .second, .val (.long v1), .second, .val (.long v3), .second, .unset, .unset, .unset, .unset] [(.long v4)])) _
  refine g_lstore X2 hx (hb hby d2_36) (l' := #[.val (.long p0), .second, .val (.long v1), .second, .val (.long v3), .second, .val (.long v4), .second, .unset, .unset]) rfl ?_
  show Goes p.tables e below (T2.setTop (mkF m 38 #[.val (.long p0), .second, .val (.long v1), .second, .val (.long v3), .second, .val (.long v4), .second, .unset, .unset] [])) _
  refine g_lload X2 hx (hb hby d2_38) rfl ?_
  show Goes p.tables e below (T2.setTop (mkF m 40 #[.val (.long p0), .second, .val (.long v1), .second, .val (.long v3), .second, .val (.long v4), .second, .unset, .unset] [(.long v4)])) _
  refine g_ldc2 X2 hx hZ hown (hw _ (List.mem_of_getElem? (i := 15) rfl)) (hb hby d2_40) ?_
  show Goes p.tables e below (T2.setTop (mkF m 43 #[.val (.long p0), .second, .val (.long v1), .second, .val (.long v3), .second, .val (.long v4), .second, .unset, .unset] [(.long (-4658895280553007687 : Int64)), (.long v4)])) _
  refine g_callS X2 hx hZ hown (by rw [hml]; rfl) e2 (hw _ (List.mem_of_getElem? (i := 11) rfl)) (hw _ (List.mem_of_getElem? (i := 12) rfl)) (hw _ (List.mem_of_getElem? (i := 8) rfl)) (hw _ (List.mem_of_getElem? (i := 13) rfl)) (rmI l Z a0 hw (-4658895280553007687 : Int64) h0) [(.long (-4658895280553007687 : Int64))] rfl [(.long v4)] rfl (lenOf pd_3 rfl) (hb hby d2_43) (by decide) 2 (by decide) (by decide) (by first | decide | exact Nat.le_refl _) (by decide) (by decide) (fun v T5 L5 X5 hQ5 => ?_)
  obtain ⟨rfl, e5, rfl⟩ := hQ5
  show Goes p.tables e below (T5.setTop (mkF m 46 #[.val (.long p0), .second, .val (.long v1), .second, .val (.long v3), .second, .val (.long v4), .second, .unset, .unset] [(.long (invV (-4658895280553007687 : Int64))), (.long v4)])) _
  refine g_lmul X5 hx (hb hby d2_46) ?_
  show Goes p.tables e below (T5.setTop (mkF m 47 #[.val (.long p0), .second, .val (.long v1), .second, .val (.long v3), .second, .val (.long v4), .second, .unset, .unset] [(.long (v4 * (invV (-4658895280553007687 : Int64))))])) _
  obtain ⟨v6, hv6⟩ : ∃ z : Int64, z = (v4 * (invV (-4658895280553007687 : Int64))) := ⟨_, rfl⟩
  refine g_nameL hv6 ?_
  show Goes p.tables e below (T5.setTop (mkF m 47 #[.val (.long p0), .second, .val (.long v1), .second, .val (.long v3), .second, .val (.long v4), .second, .unset, .unset] [(.long v6)])) _
  refine g_lstore X5 hx (hb hby d2_47) (l' := #[.val (.long p0), .second, .val (.long v1), .second, .val (.long v3), .second, .val (.long v4), .second, .val (.long v6), .second]) rfl ?_
  show Goes p.tables e below (T5.setTop (mkF m 49 #[.val (.long p0), .second, .val (.long v1), .second, .val (.long v3), .second, .val (.long v4), .second, .val (.long v6), .second] [])) _
  refine g_lload X5 hx (hb hby d2_49) rfl ?_
  show Goes p.tables e below (T5.setTop (mkF m 51 #[.val (.long p0), .second, .val (.long v1), .second, .val (.long v3), .second, .val (.long v4), .second, .val (.long v6), .second] [(.long v6)])) _
  refine g_lload X5 hx (hb hby d2_51) rfl ?_
  show Goes p.tables e below (T5.setTop (mkF m 53 #[.val (.long p0), .second, .val (.long v1), .second, .val (.long v3), .second, .val (.long v4), .second, .val (.long v6), .second] [(.long v6), (.long v6)])) _
  refine g_bipush X5 hx (30 : Int32) (hb hby d2_53) (by decide) ?_
  show Goes p.tables e below (T5.setTop (mkF m 55 #[.val (.long p0), .second, .val (.long v1), .second, .val (.long v3), .second, .val (.long v4), .second, .val (.long v6), .second] [(.int (30 : Int32)), (.long v6), (.long v6)])) _
  refine g_lushr X5 hx (hb hby d2_55) ?_
  show Goes p.tables e below (T5.setTop (mkF m 56 #[.val (.long p0), .second, .val (.long v1), .second, .val (.long v3), .second, .val (.long v4), .second, .val (.long v6), .second] [(.long (XT.ushrL v6 (30 : Int32))), (.long v6)])) _
  refine g_lxor X5 hx (hb hby d2_56) ?_
  show Goes p.tables e below (T5.setTop (mkF m 57 #[.val (.long p0), .second, .val (.long v1), .second, .val (.long v3), .second, .val (.long v4), .second, .val (.long v6), .second] [(.long (v6 ^^^ (XT.ushrL v6 (30 : Int32))))])) _
  refine g_lload X5 hx (hb hby d2_57) rfl ?_
  show Goes p.tables e below (T5.setTop (mkF m 59 #[.val (.long p0), .second, .val (.long v1), .second, .val (.long v3), .second, .val (.long v4), .second, .val (.long v6), .second] [(.long v6), (.long (v6 ^^^ (XT.ushrL v6 (30 : Int32))))])) _
  refine g_bipush X5 hx (60 : Int32) (hb hby d2_59) (by decide) ?_
  show Goes p.tables e below (T5.setTop (mkF m 61 #[.val (.long p0), .second, .val (.long v1), .second, .val (.long v3), .second, .val (.long v4), .second, .val (.long v6), .second] [(.int (60 : Int32)), (.long v6), (.long (v6 ^^^ (XT.ushrL v6 (30 : Int32))))])) _
  refine g_lushr X5 hx (hb hby d2_61) ?_
  show Goes p.tables e below (T5.setTop (mkF m 62 #[.val (.long p0), .second, .val (.long v1), .second, .val (.long v3), .second, .val (.long v4), .second, .val (.long v6), .second] [(.long (XT.ushrL v6 (60 : Int32))), (.long (v6 ^^^ (XT.ushrL v6 (30 : Int32))))])) _
  refine g_lxor X5 hx (hb hby d2_62) ?_
  show Goes p.tables e below (T5.setTop (mkF m 63 #[.val (.long p0), .second, .val (.long v1), .second, .val (.long v3), .second, .val (.long v4), .second, .val (.long v6), .second] [(.long ((v6 ^^^ (XT.ushrL v6 (30 : Int32))) ^^^ (XT.ushrL v6 (60 : Int32))))])) _
  exact g_retL X5 hx hret hk (hb hby d2_63) (by decide) (by decide) ⟨by subst_vars; rfl, e5, rfl⟩
theorem own_sh (k : Int32) (n : Nat) (h : (k.toInt64.toUInt64 &&& Int64.toUInt64 63) = UInt64.ofNat n) (hn : n < 64) (x : Int64) : (XT.ushrL x k).toBitVec = x.toBitVec >>> n := by
  show (x.toUInt64 >>> (k.toInt64.toUInt64 &&& Int64.toUInt64 63)).toBitVec = _
  rw [h, UInt64.toBitVec_shiftRight]
  have e : ((UInt64.ofNat n).toBitVec % 64#64).toNat = n := by
    simp [UInt64.toBitVec_ofNat', BitVec.toNat_umod]; omega
  show x.toUInt64.toBitVec >>> ((UInt64.ofNat n).toBitVec % 64#64).toNat = _
  rw [e]; rfl
theorem own_inv (x : Int64) (k k2 : Int32) (n : Nat) (h : (k.toInt64.toUInt64 &&& Int64.toUInt64 63) = UInt64.ofNat n) (h2 : (k2.toInt64.toUInt64 &&& Int64.toUInt64 63) = UInt64.ofNat (n + n)) (hn : n + n < 64) (h3 : 64 ≤ n + n + n) : own_us (own_xs x k) k k2 = x := by
  apply Int64.toBitVec_inj.mp
  unfold own_us own_xs
  rw [Int64.toBitVec_xor, Int64.toBitVec_xor, own_sh k n h (by omega), own_sh k2 (n + n) h2 hn, Int64.toBitVec_xor, own_sh k n h (by omega)]
  generalize x.toBitVec = y
  rw [BitVec.ushiftRight_xor_distrib, BitVec.ushiftRight_xor_distrib, ← BitVec.shiftRight_add, ← BitVec.shiftRight_add]
  have z : y >>> (n + (n + n)) = 0#64 := BitVec.ushiftRight_eq_zero (by omega)
  rw [z, BitVec.xor_zero]
  ext i hi
  simp only [BitVec.getElem_xor]
  generalize (y >>> n)[i] = a
  generalize (y >>> (n + n))[i] = b
  generalize y[i] = c
  cases a <;> cases b <;> cases c <;> rfl
theorem own_plain (x : Int64) : unmixV (mixV x) = x := by
  unfold unmixV mixV
  have m1 : (-7723592293110705685 : Int64) * invV (-7723592293110705685 : Int64) = 1 := by decide +kernel
  have m2 : (-4658895280553007687 : Int64) * invV (-4658895280553007687 : Int64) = 1 := by decide +kernel
  rw [own_inv _ 31 62 31 (by decide) (by decide) (by decide) (by decide), Int64.mul_assoc, m1, Int64.mul_one, own_inv _ 27 54 27 (by decide) (by decide) (by decide) (by decide), Int64.mul_assoc, m2, Int64.mul_one, own_inv _ 30 60 30 (by decide) (by decide) (by decide) (by decide)]
theorem ef_0 (m : MethodId) (p0 : Int64) : entryFrame m #[(.long p0)] maxLocals = mkF m 0 #[.val (.long p0), .second, .unset, .unset] [] := by first | (simp [entryFrame, mkF, argsToLocals, Value.category, maxLocals]; done) | rfl
set_option maxRecDepth 65536 in
set_option maxHeartbeats 40000000 in
theorem law (l : Launch) (Z : State) (a0 : Array Value) (hw : ∀ d ∈ tables_1, d.before a0 Z = true) (ws : List Jvm.Cond) (p0 : Int64) (h0 : Heap)  :
    Con l Z x code maxLocals ret ws room_1 0 0 #[(.long p0)] h0 (fun v h L => v = some (.int 1) ∧ Fr h0.size L) := by
  refine Con.body (plainFor_of_name (by first | (simp [plainName, overriddenIn, x]; done) | decide +kernel)) ?_
  intro p e s m below meth c T0 hx hby hml hown hnm hZ hret hk X0 e0
  refine Goes.cast (ef_0 m p0) ?_
  show Goes p.tables e below (T0.setTop (mkF m 0 #[.val (.long p0), .second, .unset, .unset] [])) _
  refine g_lloadN X0 hx (hb hby at_0) rfl ?_
  show Goes p.tables e below (T0.setTop (mkF m 1 #[.val (.long p0), .second, .unset, .unset] [(.long p0)])) _
  refine g_callS X0 hx hZ hown (by rw [hml]; rfl) e0 (hw _ (List.mem_of_getElem? (i := 0) rfl)) (hw _ (List.mem_of_getElem? (i := 1) rfl)) (hw _ (List.mem_of_getElem? (i := 2) rfl)) (hw _ (List.mem_of_getElem? (i := 3) rfl)) (rmM l Z a0 hw p0 h0) [(.long p0)] rfl [] rfl (lenOf pd_1 rfl) (hb hby at_1) (by decide) 0 (by decide) (by decide) (by first | decide | exact Nat.le_refl _) (by decide) (by decide) (fun v T1 L1 X1 hQ1 => ?_)
  obtain ⟨rfl, e1, rfl⟩ := hQ1
  show Goes p.tables e below (T1.setTop (mkF m 4 #[.val (.long p0), .second, .unset, .unset] [(.long (mixV p0))])) _
  obtain ⟨vy, hvy⟩ : ∃ z : Int64, z = (mixV p0) := ⟨_, rfl⟩
  refine g_nameL hvy ?_
  show Goes p.tables e below (T1.setTop (mkF m 4 #[.val (.long p0), .second, .unset, .unset] [(.long vy)])) _
  refine g_lstoreN X1 hx (hb hby at_4) (l' := #[.val (.long p0), .second, .val (.long vy), .second]) rfl ?_
  show Goes p.tables e below (T1.setTop (mkF m 5 #[.val (.long p0), .second, .val (.long vy), .second] [])) _
  refine g_lloadN X1 hx (hb hby at_5) rfl ?_
  show Goes p.tables e below (T1.setTop (mkF m 6 #[.val (.long p0), .second, .val (.long vy), .second] [(.long vy)])) _
  refine g_callS X1 hx hZ hown (by rw [hml]; rfl) e1 (hw _ (List.mem_of_getElem? (i := 6) rfl)) (hw _ (List.mem_of_getElem? (i := 7) rfl)) (hw _ (List.mem_of_getElem? (i := 8) rfl)) (hw _ (List.mem_of_getElem? (i := 9) rfl)) (rmU l Z a0 hw vy h0) [(.long vy)] rfl [] rfl (lenOf pd_2 rfl) (hb hby at_6) (by decide) 0 (by decide) (by decide) (by first | decide | exact Nat.le_refl _) (by decide) (by decide) (fun v T2 L2 X2 hQ2 => ?_)
  obtain ⟨rfl, e2, rfl⟩ := hQ2
  show Goes p.tables e below (T2.setTop (mkF m 9 #[.val (.long p0), .second, .val (.long vy), .second] [(.long (unmixV vy))])) _
  refine g_lloadN X2 hx (hb hby at_9) rfl ?_
  show Goes p.tables e below (T2.setTop (mkF m 10 #[.val (.long p0), .second, .val (.long vy), .second] [(.long p0), (.long (unmixV vy))])) _
  refine g_lcmp X2 hx (hb hby at_10) ?_
  show Goes p.tables e below (T2.setTop (mkF m 11 #[.val (.long p0), .second, .val (.long vy), .second] [(.int (XT.cmpL (unmixV vy) p0))])) _
  have c11 : (unmixV vy) = p0 := (by rw [hvy]; exact own_plain p0)
  refine g_lif_ne X2 hx (hb hby at_11) (by decide) (pc' := 18) (by decide) (fun q => absurd c11 q) (fun _ => ?_)
  show Goes p.tables e below (T2.setTop (mkF m 14 #[.val (.long p0), .second, .val (.long vy), .second] [])) _
  refine g_iconst X2 hx (1 : Int32) (hb hby at_14) rfl ?_
  show Goes p.tables e below (T2.setTop (mkF m 15 #[.val (.long p0), .second, .val (.long vy), .second] [(.int (1 : Int32))])) _
  refine g_goto X2 hx (hb hby at_15) (by decide) (pc' := 19) (by decide) ?_
  show Goes p.tables e below (T2.setTop (mkF m 19 #[.val (.long p0), .second, .val (.long vy), .second] [(.int (1 : Int32))])) _
  exact g_retZ X2 hx (hz := (by decide)) hret hk (hb hby at_19) (by decide) (by decide) ⟨rfl, Fr.nil _⟩
set_option maxRecDepth 65536 in
set_option maxHeartbeats 40000000 in
theorem comes_1 {Post : Tables → Env → Array Value → State → Outcome → State → Prop} (hpost : ∀ tb e args s v u, (limb_1_1.after args s (.returned v) u = true ∧ limb_1_2.after args s (.returned v) u = true ∧ True) → FrameEnd s (.returned v) u (Jvm.fieldLocs frame_1_writes args s ++ Jvm.arrayLocs frame_1_arrays args s ++ Jvm.staticLocs frame_1_statics s) 0 0 → Post tb e args s (.returned v) u) :
    ArmFor flags0 classFile x code maxLocals ret World_1 tables_1 room_1 Calls_1 rest_1 Pre_1 Post := by
  intro l hfl _ _ p e ha hc hk s m args below hf hA hF happ hP
  obtain ⟨hcalls, hrest, hpre⟩ := hP
  obtain ⟨-, -, -, hnamed, -, -, -, hat⟩ := (Spec.applies_iff hf).mp happ
  obtain ⟨hg, hn⟩ := and_e (Cond.before_iff.mp (show (Jvm.Cond.and given_1 narrow_1).before args s = true from hpre))
  obtain ⟨h1, hg1⟩ := and_e hg
  obtain ⟨w0, rfl⟩ : ∃ w0 : Value, args = #[w0] := by
    have hs : args.size = 1 := by simpa [Cond.value, given_1] using h1
    obtain ⟨L⟩ := args
    match L, hs with
    | [w0], _ => exact ⟨w0, rfl⟩
  have hw := fun d (hd : d ∈ tables_1) => atoms_spec (ws := Jvm.Cond.code x code maxLocals ret :: tables_1) hat d (List.mem_cons_of_mem _ hd)
  obtain ⟨i0, ei0⟩ := isL_v hg1
  obtain rfl : w0 = (.long i0) := Option.some.inj ei0
  obtain ⟨n, o, h1, h2, h3, _, L, rfl, ⟨rfl, N⟩, hq⟩ := law l s _ hw tables_1 i0 s.heap  p e ha hc hk s m _ below hf ((Spec.applies_iff_loose hf).mp happ).1 ⟨rfl, State.Warmed39.refl s, rfl⟩ trivial
  refine ⟨n, _, h1, h2, h3, hpost _ _ _ _ _ _ ⟨Cond.after_iff.mpr rfl, Cond.after_iff.mpr (eq_i res_at (Term.int_eval (1)) rfl), trivial⟩ ⟨hq.1, hq.2.1, (hq.2.2.sift fun y hy => Or.inr (N y hy)).mono (by decide) (by decide)⟩⟩
theorem main_1_1 : Claimed_1_1 := comes_1 fun _ _ _ _ _ _ h hF => ⟨h.1, hF⟩
theorem main_1_2 : Claimed_1_2 := comes_1 fun _ _ _ _ _ _ h hF => ⟨h.2.1, hF⟩
end Jvm.Pilot.@@N@@
namespace Jvm.Pilot.@@N@@
open Jvm Jvm.ClassFile Sem Op Lib Jvm.Free Jvm.Stand Jvm.Pilot.@@N@@.Jvm.D
/-! MADE BY PROGRAM (witnessworld.py) out of the Statement's table words and the real class files: 10 classes; the members and pool entries that the words name. The judged class is class 1, her method 3. -/
namespace start1
open Jvm.ClassFile
def u (s : String) : CpInfo := .utf8 (stringToUtf16 s)
/-- a pool by its gaps: so many unusable entries, then the entry; so many at the end -/
def gap : Nat → List CpInfo → List CpInfo
  | 0, r => r
  | n + 1, r => .unusable :: gap n r
def poolList (es : List (Nat × CpInfo)) (last : Nat) : List CpInfo := es.foldr (fun e r => gap e.1 (e.2 :: r)) (gap last [])
def pool (es : List (Nat × CpInfo)) (last : Nat) : Array CpInfo := ⟨poolList es last⟩
def fileOf (pool : Array CpInfo) (this : Nat) (attrs : Array Attribute := #[]) (ms : Array MethodInfo := #[]) (fl : Nat := 33) (sup : Nat := 0) (ifs : Array Nat := #[]) (fds : Array FieldInfo := #[]) : ClassFile where
  minorVersion := 0
  majorVersion := 65
  constantPool := pool
  accessFlags := fl
  thisClass := this
  superClass := sup
  interfaces := ifs
  fields := fds
  methods := ms
  attributes := attrs
def plain (name : String) (sup : Option ClassId) : Class where
  name := name
  kind := .ordinary
  loader := none
  accessFlags := 33
  super := sup
  interfaces := #[]
  cf := none
  fields := #[]
  methods := #[]
  instanceTypes := #[]
  staticTypes := #[]
  resolved := #[]
  callSites := []
  init := .initialized
  statics := none
  mirror := none

def pool0 : Array CpInfo := pool [(5, u "<init>"), (0, u "()V"), (1, .class_ 10), (1, u "java/lang/Object")] 113

def k0m0 : Method := { name := "<init>", desc := "()V", sig := { parameters := [], returnType := none }, accessFlags := 1, code := none }
/-- java/lang/Object -/
def k0 : Class := { plain "java/lang/Object" none with
  accessFlags := 33
  interfaces := #[]
  cf := some (fileOf pool0 8 #[] #[{ accessFlags := 1, nameIndex := 5, descriptorIndex := 6, attributes := #[] }] 33 0 #[] #[])
  fields := #[]
  methods := #[k0m0]
  instanceTypes := #[]
  staticTypes := #[]
  resolved := Array.replicate 124 none
  statics := none }

def pool1 : Array CpInfo := pool [(2, .class_ 4), (1, u "java/lang/Object"), (0, u "<init>"), (0, u "()V"), (0, .long 2), (1, .long 10723151780598845931), (1, .methodref 12 13), (0, .class_ 14), (0, .nameAndType 15 16), (0, u "com/example/delvedeck/delvedeck/core/RngMixPinLaw"), (0, u "inverse"), (0, u "(J)J"), (0, .long 13787848793156543929), (1, .methodref 20 21), (0, .class_ 22), (0, .nameAndType 23 16), (0, u "com/example/delvedeck/delvedeck/core/Rng"), (0, u "mix"), (0, .methodref 12 25), (0, .nameAndType 26 16), (0, u "unmix"), (2, u "law"), (0, u "(J)Z")] 3

def k1m0 : Method := { name := "<init>", desc := "()V", sig := { parameters := [], returnType := none }, accessFlags := 1, code := none }
def k1c1 : Code := { maxStack := 8, maxLocals := 4, code := method_2_code, exceptionTable := #[], attributes := #[] }
def k1m1 : Method := { name := "inverse", desc := "(J)J", sig := { parameters := [.long], returnType := some .long }, accessFlags := 10, code := some k1c1 }
def k1c2 : Code := { maxStack := 5, maxLocals := 10, code := method_3_code, exceptionTable := #[], attributes := #[] }
def k1m2 : Method := { name := "unmix", desc := "(J)J", sig := { parameters := [.long], returnType := some .long }, accessFlags := 10, code := some k1c2 }
def k1c3 : Code := { maxStack := 4, maxLocals := 4, code := code, exceptionTable := #[], attributes := #[] }
def k1m3 : Method := { name := "law", desc := "(J)Z", sig := { parameters := [.long], returnType := some .boolean }, accessFlags := 9, code := some k1c3 }
/-- com/example/delvedeck/delvedeck/core/RngMixPinLaw -/
def k1 : Class := { plain "com/example/delvedeck/delvedeck/core/RngMixPinLaw" (some 0) with
  accessFlags := 49
  interfaces := #[]
  cf := some (fileOf pool1 12 #[] #[{ accessFlags := 1, nameIndex := 5, descriptorIndex := 6, attributes := #[] }, { accessFlags := 10, nameIndex := 15, descriptorIndex := 16, attributes := #[] }, { accessFlags := 10, nameIndex := 26, descriptorIndex := 16, attributes := #[] }, { accessFlags := 9, nameIndex := 29, descriptorIndex := 30, attributes := #[] }] 49 2 #[] #[])
  fields := #[]
  methods := #[k1m0, k1m1, k1m2, k1m3]
  instanceTypes := #[]
  staticTypes := #[]
  resolved := Array.replicate 34 none
  statics := none }

def pool2 : Array CpInfo := pool [(1, .class_ 2), (0, u "com/example/delvedeck/delvedeck/core/Chance"), (0, .class_ 4), (0, u "java/lang/Object")] 10

/-- com/example/delvedeck/delvedeck/core/Chance -/
def k2 : Class := { plain "com/example/delvedeck/delvedeck/core/Chance" (some 0) with
  accessFlags := 1537
  interfaces := #[]
  cf := some (fileOf pool2 1 #[] #[] 1537 3 #[] #[])
  fields := #[]
  methods := #[]
  instanceTypes := #[]
  staticTypes := #[]
  resolved := Array.replicate 15 none
  statics := none }

def pool3 : Array CpInfo := pool [(2, .class_ 4), (1, u "java/lang/Object"), (3, .class_ 10), (1, u "com/example/delvedeck/delvedeck/core/Rng"), (0, u "state"), (0, u "J"), (4, u "mix"), (0, u "(J)J"), (3, .long 13787848793156543929), (1, .long 10723151780598845931), (5, u "draws"), (35, .class_ 67), (0, u "com/example/delvedeck/delvedeck/core/Chance"), (0, u "GOLDEN_GAMMA"), (1, u "SEAT_STREAM")] 29

def k3c0 : Code := { maxStack := 5, maxLocals := 4, code := prog_6_method_3_code, exceptionTable := #[], attributes := #[] }
def k3m0 : Method := { name := "mix", desc := "(J)J", sig := { parameters := [.long], returnType := some .long }, accessFlags := 9, code := some k3c0 }
/-- com/example/delvedeck/delvedeck/core/Rng -/
def k3 : Class := { plain "com/example/delvedeck/delvedeck/core/Rng" (some 0) with
  accessFlags := 49
  interfaces := #[2]
  cf := some (fileOf pool3 8 #[] #[{ accessFlags := 9, nameIndex := 17, descriptorIndex := 18, attributes := #[] }] 49 2 #[66] #[{ accessFlags := 26, nameIndex := 68, descriptorIndex := 12, attributes := #[] }, { accessFlags := 26, nameIndex := 70, descriptorIndex := 12, attributes := #[] }, { accessFlags := 2, nameIndex := 11, descriptorIndex := 12, attributes := #[] }, { accessFlags := 2, nameIndex := 30, descriptorIndex := 12, attributes := #[] }])
  fields := #[{ name := "GOLDEN_GAMMA", type := .long, accessFlags := 26, slot := 0, constantValue := 0 }, { name := "SEAT_STREAM", type := .long, accessFlags := 26, slot := 1, constantValue := 0 }, { name := "state", type := .long, accessFlags := 2, slot := 0, constantValue := 0 }, { name := "draws", type := .long, accessFlags := 2, slot := 1, constantValue := 0 }]
  methods := #[k3m0]
  instanceTypes := #[.long, .long]
  staticTypes := #[.long, .long]
  resolved := Array.replicate 100 none
  statics := none }

def pool4 : Array CpInfo := pool [(1, u "java/lang/Cloneable"), (0, .class_ 1), (0, u "java/lang/Object"), (0, .class_ 3)] 3

/-- java/lang/Cloneable -/
def k4 : Class := { plain "java/lang/Cloneable" (some 0) with
  accessFlags := 1537
  interfaces := #[]
  cf := some (fileOf pool4 2 #[] #[] 1537 4 #[] #[])
  fields := #[]
  methods := #[]
  instanceTypes := #[]
  staticTypes := #[]
  resolved := Array.replicate 8 none
  statics := none }

def pool5 : Array CpInfo := pool [(1, u "java/io/Serializable"), (0, .class_ 1), (0, u "java/lang/Object"), (0, .class_ 3)] 3

/-- java/io/Serializable -/
def k5 : Class := { plain "java/io/Serializable" (some 0) with
  accessFlags := 1537
  interfaces := #[]
  cf := some (fileOf pool5 2 #[] #[] 1537 4 #[] #[])
  fields := #[]
  methods := #[]
  instanceTypes := #[]
  staticTypes := #[]
  resolved := Array.replicate 8 none
  statics := none }

/-- the primitive byte -/
def k6 : Class := { plain "byte" none with kind := .primitive 'B', accessFlags := 0x411 }
/-- [B -/
def k7 : Class := { plain "[B" (some 0) with kind := .array 6 .byte, interfaces := #[4, 5], accessFlags := 1041 }

/-- the primitive int -/
def k8 : Class := { plain "int" none with kind := .primitive 'I', accessFlags := 0x411 }
/-- [I -/
def k9 : Class := { plain "[I" (some 0) with kind := .array 8 .int, interfaces := #[4, 5], accessFlags := 1041 }

def heap : Heap := #[]
def classes : Array Class := #[k0, k1, k2, k3, k4, k5, k6, k7, k8, k9]
def interned : List (Array UInt16 × Addr) := []
def slotsUsed : Nat := 0
def theMethod : MethodId := ⟨1, 3⟩
def args0 : Array Value := #[.long 5]
def aboutOver (below : List Frame) : State where
  vm := { classes := classes, interned := interned.toArray }
  heap := heap
  slotsUsed := slotsUsed
  threads := #[{ frames := .invoking theMethod args0 :: below }]
def below0 : List Frame := [.native { method := ⟨0, 0⟩, args := #[] }]
def about1 : State := aboutOver below0
def p0 : Program := .bare "" "" ""
def e0 : Env := launch0.env 0 0 0
theorem w_frames : about1.frames = Frame.invoking theMethod args0 :: below0 := rfl
set_option maxRecDepth 65536 in
theorem w_args : argsFit about1.vm theMethod args0 = true := by decide +kernel
set_option maxRecDepth 65536 in
theorem w_heap : heapFits about1 = true := by decide +kernel
set_option maxRecDepth 65536 in
theorem w_runnable : about1.curStatus? = some .runnable := by decide +kernel
set_option maxRecDepth 65536 in
theorem w_alone : about1.alone = true := by decide +kernel
set_option maxRecDepth 65536 in
theorem w_named : about1.methodNamed? x = some theMethod := by decide +kernel
set_option maxRecDepth 65536 in
theorem w_hears : about1.hears theMethod below0 = true := by decide +kernel
set_option maxRecDepth 65536 in
theorem w_ripe : about1.ripe theMethod args0 below0 = true := by decide +kernel
theorem w_running : about1.status = .running := rfl
set_option maxRecDepth 65536 in
theorem w_room : about1.hasRoom e0.platform room_1 = true :=
  launch0.hasRoom_least _ room_1 (by decide +kernel) (by decide +kernel) (by decide +kernel) (by decide +kernel) (by decide +kernel) (by decide +kernel)
theorem allAtoms_all (ts : List Jvm.Cond) (a : Array Jvm.Value) (st : Jvm.State) : (allAtoms ts).before a st = ts.all (fun c => c.before a st) := by
  induction ts with
  | nil => rfl
  | cons c t ih =>
    show (Jvm.Cond.and c (allAtoms t)).before a st = _
    rw [Jvm.Cond.before_and, ih, List.all_cons]
def words1 : List Jvm.Cond := Jvm.Cond.code x code maxLocals ret :: tables_1
/-- a 'code' word, met by the world's own term for the bytes: nothing is compared byte by byte -/
theorem code_word {y : MethodName} {bytes : ByteArray} {mx : Nat} {rt : Option FieldType} {a : Array Value} {s : State} {m : MethodId} {meth : Method} {c : Code} (h1 : s.methodNamed? y = some m) (h2 : s.vm.method? m = some meth) (h3 : meth.code = some c) (h4 : c.code = bytes)
    (h5 : (c.maxLocals == mx && c.exceptionTable.isEmpty && decide (c.maxStack ≤ mostOperands) && decide (meth.sig.returnType = rt) && !meth.locks && decide (parseMethodDescriptor y.desc = some meth.sig)) = true) : (Jvm.Cond.code y bytes mx rt).before a s = true := by
  simp only [Bool.and_eq_true, beq_iff_eq, Bool.not_eq_true', decide_eq_true_eq] at h5
  obtain ⟨⟨⟨⟨⟨g1, g2⟩, g3⟩, g4⟩, g5⟩, g6⟩ := h5
  simp [Cond.before, Cond.holds, Cond.value, h1, h2, h3, h4, g1, g2, g3, g4, g5, g6]
def isCode : Jvm.Cond → Bool
  | .code _ _ _ _ => true
  | _ => false
theorem all_split {L : List Jvm.Cond} {P : Jvm.Cond → Bool} (h1 : L.all (fun c => isCode c || P c) = true) (h2 : ∀ c ∈ L.filter isCode, P c = true) : L.all P = true := by
  refine List.all_eq_true.mpr fun c hc => ?_
  have h := List.all_eq_true.mp h1 c hc
  rcases Bool.eq_false_or_eq_true (isCode c) with hi | hi
  · exact h2 c (List.mem_filter.mpr ⟨hc, hi⟩)
  · simpa [hi] using h
set_option maxRecDepth 65536 in
theorem w_c0 : (Jvm.Cond.code x code maxLocals ret).before args0 about1 = true := code_word (m := ⟨1, 3⟩) (meth := k1m3) (c := k1c3) (by decide +kernel) rfl rfl rfl (by decide +kernel)
set_option maxRecDepth 65536 in
theorem w_c1 : (Jvm.Cond.code ({ cls := "com/example/delvedeck/delvedeck/core/Rng", name := "mix", desc := "(J)J" } : Jvm.MethodName) prog_6_method_3_code (4 : Nat) (Option.some Jvm.ClassFile.FieldType.long)).before args0 about1 = true := code_word (m := ⟨3, 0⟩) (meth := k3m0) (c := k3c0) (by decide +kernel) rfl rfl rfl (by decide +kernel)
set_option maxRecDepth 65536 in
theorem w_c2 : (Jvm.Cond.code ({ cls := "com/example/delvedeck/delvedeck/core/RngMixPinLaw", name := "unmix", desc := "(J)J" } : Jvm.MethodName) method_3_code (10 : Nat) (Option.some Jvm.ClassFile.FieldType.long)).before args0 about1 = true := code_word (m := ⟨1, 2⟩) (meth := k1m2) (c := k1c2) (by decide +kernel) rfl rfl rfl (by decide +kernel)
set_option maxRecDepth 65536 in
theorem w_c3 : (Jvm.Cond.code ({ cls := "com/example/delvedeck/delvedeck/core/RngMixPinLaw", name := "inverse", desc := "(J)J" } : Jvm.MethodName) method_2_code (4 : Nat) (Option.some Jvm.ClassFile.FieldType.long)).before args0 about1 = true := code_word (m := ⟨1, 1⟩) (meth := k1m1) (c := k1c1) (by decide +kernel) rfl rfl rfl (by decide +kernel)
def codes1 : List Jvm.Cond := [Jvm.Cond.code x code maxLocals ret, Jvm.Cond.code ({ cls := "com/example/delvedeck/delvedeck/core/Rng", name := "mix", desc := "(J)J" } : Jvm.MethodName) prog_6_method_3_code (4 : Nat) (Option.some Jvm.ClassFile.FieldType.long), Jvm.Cond.code ({ cls := "com/example/delvedeck/delvedeck/core/RngMixPinLaw", name := "unmix", desc := "(J)J" } : Jvm.MethodName) method_3_code (10 : Nat) (Option.some Jvm.ClassFile.FieldType.long), Jvm.Cond.code ({ cls := "com/example/delvedeck/delvedeck/core/RngMixPinLaw", name := "inverse", desc := "(J)J" } : Jvm.MethodName) method_2_code (4 : Nat) (Option.some Jvm.ClassFile.FieldType.long)]
set_option maxRecDepth 65536 in
theorem codes_eq : words1.filter isCode = codes1 := rfl
theorem w_codes : ∀ c ∈ words1.filter isCode, c.before args0 about1 = true := by
  rw [codes_eq]
  intro c hc
  simp only [codes1, List.mem_cons, List.not_mem_nil, or_false] at hc
  rcases hc with rfl | rfl | rfl | rfl
  · exact w_c0
  · exact w_c1
  · exact w_c2
  · exact w_c3
set_option maxRecDepth 65536 in
theorem w_t1 : words1.all (fun c => isCode c || c.before args0 about1) = true := by decide +kernel
theorem w_tables : (allAtoms (Jvm.Cond.code x code maxLocals ret :: tables_1)).before args0 about1 = true := by
  rw [allAtoms_all]
  show words1.all (fun c => c.before args0 about1) = true
  refine all_split ?_ w_codes
  rw [w_t1]
set_option maxRecDepth 65536 in
theorem w_case : (Jvm.Cond.and given_1 narrow_1).before args0 about1 = true := by decide +kernel
theorem w_applies : (headSpec (Jvm.Cond.code x code maxLocals ret :: tables_1) room_1).applies x e0.platform about1 = true :=
  (Spec.applies_iff w_frames).mpr ⟨w_running, w_runnable, w_alone, w_named, w_hears, w_ripe, w_room, w_tables⟩
theorem atStart : AtStart classFile x code maxLocals ret World_1 tables_1 room_1 Calls_1 rest_1 Pre_1 launch0 p0 e0 about1 theMethod args0 below0 :=
  ⟨lists_1, trivial, launch0.admits_env _ _ _, launch0.least_env, fairChoices_fair.cas, fairChoices_fair.clock, w_frames, w_args, w_heap, w_applies, trivial, trivial, w_case⟩
end start1
theorem witness_1 : WitnessClaimed_1 := ⟨start1.p0, start1.e0, start1.about1, start1.theMethod, start1.args0, start1.below0, start1.atStart⟩
end Jvm.Pilot.@@N@@
