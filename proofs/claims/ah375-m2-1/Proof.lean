import JvmDerived
import JvmDerived.Pilot.@@N@@Statement
import JvmDerived.Pilot.@@N@@Code
set_option linter.unusedVariables false
set_option linter.unusedSimpArgs false
namespace Jvm.OwnW
open Sem ClassFile Op Lib Jvm.Stand Jvm.Free Jvm.LawKit Jvm.RoadKit
/-- from the state S the walk over 'below' comes to an end of which P holds -/
def Goes (tb : Tables) (e : Env) (below : List Frame) (S : State) (P : State → Outcome → Prop) : Prop :=
  ∃ s₂ o, Steps tb e below S s₂ ∧ s₂.status = .running ∧ Ended s₂ below o ∧ P s₂ o
section Walk
variable {p : Program} {l : Launch} {e : Env} {R : Room} {s : State} {m : MethodId} {args : Array Value} {below : List Frame} {meth : Method} {c : Code} {T : State} {locs : List Loc} {cells slots : Nat} {P : State → Outcome → Prop} {pc : Nat} {Ls : Array Slot} {st : List Value} {Z : State} {a0 : Array Value} {h : Heap}
theorem Goes.of {tb : Tables} {S S' : State} (k : Goes tb e below S' P) (h : ∀ t, Steps tb e below S' t → Steps tb e below S t) : Goes tb e below S P := by
  obtain ⟨s₂, o, h1, h2⟩ := k
  exact ⟨s₂, o, h _ h1, h2⟩
theorem Goes.tr {tb : Tables} {S S' : State} (k : Goes tb e below S' P) (h : Steps tb e below S S') : Goes tb e below S P := by
  obtain ⟨s₂, o, h1, h2⟩ := k
  exact ⟨s₂, o, h.trans h1, h2⟩
theorem Goes.join {tb : Tables} {S S' : State} (h1 : Goes tb e below S' P → Goes tb e below S P) (h2 : Goes tb e below S' P) : Goes tb e below S P := h1 h2
theorem Goes.cast {tb : Tables} {g g' : JFrame} (q : g = g') (k : Goes tb e below (T.setTop g') P) : Goes tb e below (T.setTop g) P := q ▸ k
theorem g_nameI {x v : Int32} (q : v = x) (k : Goes p.tables e below (T.setTop (mkF m pc Ls (.int v :: st))) P) : Goes p.tables e below (T.setTop (mkF m pc Ls (.int x :: st))) P := q ▸ k
theorem g_nameL {x v : Int64} (q : v = x) (k : Goes p.tables e below (T.setTop (mkF m pc Ls (.long v :: st))) P) : Goes p.tables e below (T.setTop (mkF m pc Ls (.long x :: st))) P := q ▸ k
theorem g_iloadN (X : Stand p l e R s m args below meth c T locs cells slots) (hx : p.tables.exec = Jvm.exec) {k : Fin 4} {v : Int32} (hd : decode c.code pc = .ok (.iload_n k, 1)) (hl : Ls[k.val]? = some (.val (.int v))) (hr : Goes p.tables e below (T.setTop (mkF m (pc + 1) Ls (.int v :: st))) P) : Goes p.tables e below (T.setTop (mkF m pc Ls st)) P := hr.of fun _ k => XS.iloadN X.here hx rfl hd hl k
theorem g_iload (X : Stand p l e R s m args below meth c T locs cells slots) (hx : p.tables.exec = Jvm.exec) {k : Nat} {v : Int32} (hd : decode c.code pc = .ok (.iload k, 2)) (hl : Ls[k]? = some (.val (.int v))) (hr : Goes p.tables e below (T.setTop (mkF m (pc + 2) Ls (.int v :: st))) P) : Goes p.tables e below (T.setTop (mkF m pc Ls st)) P := hr.of fun _ k => XS.iload X.here hx rfl hd hl k
theorem g_lloadN (X : Stand p l e R s m args below meth c T locs cells slots) (hx : p.tables.exec = Jvm.exec) {k : Fin 4} {v : Int64} (hd : decode c.code pc = .ok (.lload_n k, 1)) (hl : Ls[k.val]? = some (.val (.long v))) (hr : Goes p.tables e below (T.setTop (mkF m (pc + 1) Ls (.long v :: st))) P) : Goes p.tables e below (T.setTop (mkF m pc Ls st)) P := hr.of fun _ k => XT.lloadN X.here hx rfl hd hl k
theorem g_lload (X : Stand p l e R s m args below meth c T locs cells slots) (hx : p.tables.exec = Jvm.exec) {k : Nat} {v : Int64} (hd : decode c.code pc = .ok (.lload k, 2)) (hl : Ls[k]? = some (.val (.long v))) (hr : Goes p.tables e below (T.setTop (mkF m (pc + 2) Ls (.long v :: st))) P) : Goes p.tables e below (T.setTop (mkF m pc Ls st)) P := hr.of fun _ k => XT.lload X.here hx rfl hd hl k
theorem g_aloadN (X : Stand p l e R s m args below meth c T locs cells slots) (hx : p.tables.exec = Jvm.exec) {k : Fin 4} {v : Value} (hd : decode c.code pc = .ok (.aload_n k, 1)) (hl : Ls[k.val]? = some (.val v)) (hv : v.isRef = true) (hr : Goes p.tables e below (T.setTop (mkF m (pc + 1) Ls (v :: st))) P) : Goes p.tables e below (T.setTop (mkF m pc Ls st)) P := hr.of fun _ k => XS.aloadN X.here hx rfl hd hl hv k
theorem g_aload (X : Stand p l e R s m args below meth c T locs cells slots) (hx : p.tables.exec = Jvm.exec) {k : Nat} {v : Value} (hd : decode c.code pc = .ok (.aload k, 2)) (hl : Ls[k]? = some (.val v)) (hv : v.isRef = true) (hr : Goes p.tables e below (T.setTop (mkF m (pc + 2) Ls (v :: st))) P) : Goes p.tables e below (T.setTop (mkF m pc Ls st)) P := hr.of fun _ k => XS.aload X.here hx rfl hd hl hv k
theorem g_istoreN (X : Stand p l e R s m args below meth c T locs cells slots) (hx : p.tables.exec = Jvm.exec) {k : Fin 4} {x : Int32} {l' : Array Slot} (hd : decode c.code pc = .ok (.istore_n k, 1)) (hl : storeLocals Ls k.val (.int x) = some l') (hr : Goes p.tables e below (T.setTop (mkF m (pc + 1) l' st)) P) : Goes p.tables e below (T.setTop (mkF m pc Ls (.int x :: st))) P := hr.of fun _ k => XS.istoreN X.here hx rfl hd rfl hl k
theorem g_istore (X : Stand p l e R s m args below meth c T locs cells slots) (hx : p.tables.exec = Jvm.exec) {k : Nat} {x : Int32} {l' : Array Slot} (hd : decode c.code pc = .ok (.istore k, 2)) (hl : storeLocals Ls k (.int x) = some l') (hr : Goes p.tables e below (T.setTop (mkF m (pc + 2) l' st)) P) : Goes p.tables e below (T.setTop (mkF m pc Ls (.int x :: st))) P := hr.of fun _ k => XS.istore X.here hx rfl hd rfl hl k
theorem g_lstoreN (X : Stand p l e R s m args below meth c T locs cells slots) (hx : p.tables.exec = Jvm.exec) {k : Fin 4} {x : Int64} {l' : Array Slot} (hd : decode c.code pc = .ok (.lstore_n k, 1)) (hl : storeLocals Ls k.val (.long x) = some l') (hr : Goes p.tables e below (T.setTop (mkF m (pc + 1) l' st)) P) : Goes p.tables e below (T.setTop (mkF m pc Ls (.long x :: st))) P := hr.of fun _ k => XT.lstoreN X.here hx rfl hd rfl hl k
theorem g_lstore (X : Stand p l e R s m args below meth c T locs cells slots) (hx : p.tables.exec = Jvm.exec) {k : Nat} {x : Int64} {l' : Array Slot} (hd : decode c.code pc = .ok (.lstore k, 2)) (hl : storeLocals Ls k (.long x) = some l') (hr : Goes p.tables e below (T.setTop (mkF m (pc + 2) l' st)) P) : Goes p.tables e below (T.setTop (mkF m pc Ls (.long x :: st))) P := hr.of fun _ k => XT.lstore X.here hx rfl hd rfl hl k
theorem g_astoreN (X : Stand p l e R s m args below meth c T locs cells slots) (hx : p.tables.exec = Jvm.exec) {k : Fin 4} {x : Value} {l' : Array Slot} (hd : decode c.code pc = .ok (.astore_n k, 1)) (hv : x.isRef = true) (hl : storeLocals Ls k.val x = some l') (hr : Goes p.tables e below (T.setTop (mkF m (pc + 1) l' st)) P) : Goes p.tables e below (T.setTop (mkF m pc Ls (x :: st))) P := hr.of fun _ k => XS.astoreN X.here hx rfl hd rfl hv hl k
theorem g_astore (X : Stand p l e R s m args below meth c T locs cells slots) (hx : p.tables.exec = Jvm.exec) {k : Nat} {x : Value} {l' : Array Slot} (hd : decode c.code pc = .ok (.astore k, 2)) (hv : x.isRef = true) (hl : storeLocals Ls k x = some l') (hr : Goes p.tables e below (T.setTop (mkF m (pc + 2) l' st)) P) : Goes p.tables e below (T.setTop (mkF m pc Ls (x :: st))) P := hr.of fun _ k => XS.astore X.here hx rfl hd rfl hv hl k
theorem g_istoreS (X : Stand p l e R s m args below meth c T locs cells slots) (hx : p.tables.exec = Jvm.exec) {k : Nat} {x : Int32} {o : Slot} (hd : decode c.code pc = .ok (.istore k, 2)) (hold : Ls[k]? = some o) (ho : One o) (hr : Goes p.tables e below (T.setTop (mkF m (pc + 2) (Ls.setIfInBounds k (.val (.int x))) st)) P) : Goes p.tables e below (T.setTop (mkF m pc Ls (.int x :: st))) P := hr.of fun _ k => XS.istoreS X.here hx rfl hd rfl hold ho k
theorem g_istoreNS (X : Stand p l e R s m args below meth c T locs cells slots) (hx : p.tables.exec = Jvm.exec) {k : Fin 4} {x : Int32} {o : Slot} (hd : decode c.code pc = .ok (.istore_n k, 1)) (hold : Ls[k.val]? = some o) (ho : One o) (hr : Goes p.tables e below (T.setTop (mkF m (pc + 1) (Ls.setIfInBounds k.val (.val (.int x))) st)) P) : Goes p.tables e below (T.setTop (mkF m pc Ls (.int x :: st))) P := hr.of fun _ k => XS.istoreNS X.here hx rfl hd rfl hold ho k
theorem g_iconst (X : Stand p l e R s m args below meth c T locs cells slots) (hx : p.tables.exec = Jvm.exec) {i : Int} (v : Int32) (hd : decode c.code pc = .ok (.iconst i, 1)) (hv : Int32.ofInt i = v) (hr : Goes p.tables e below (T.setTop (mkF m (pc + 1) Ls (.int v :: st))) P) : Goes p.tables e below (T.setTop (mkF m pc Ls st)) P := hr.of fun _ k => XT.iconstV X.here hx rfl v hd hv k
theorem g_bipush (X : Stand p l e R s m args below meth c T locs cells slots) (hx : p.tables.exec = Jvm.exec) {i : Int} (v : Int32) (hd : decode c.code pc = .ok (.bipush i, 2)) (hv : (Int8.ofInt i).toInt32 = v) (hr : Goes p.tables e below (T.setTop (mkF m (pc + 2) Ls (.int v :: st))) P) : Goes p.tables e below (T.setTop (mkF m pc Ls st)) P := hr.of fun _ k => XT.bipushV X.here hx rfl v hd hv k
theorem g_sipush (X : Stand p l e R s m args below meth c T locs cells slots) (hx : p.tables.exec = Jvm.exec) {i : Int} (v : Int32) (hd : decode c.code pc = .ok (.sipush i, 3)) (hv : (Int16.ofInt i).toInt32 = v) (hr : Goes p.tables e below (T.setTop (mkF m (pc + 3) Ls (.int v :: st))) P) : Goes p.tables e below (T.setTop (mkF m pc Ls st)) P := hr.of fun _ k => XT.sipushV X.here hx rfl v hd hv k
theorem g_lconst (X : Stand p l e R s m args below meth c T locs cells slots) (hx : p.tables.exec = Jvm.exec) {i : Fin 2} (v : Int64) (hd : decode c.code pc = .ok (.lconst i, 1)) (hv : Int64.ofNat i = v) (hr : Goes p.tables e below (T.setTop (mkF m (pc + 1) Ls (.long v :: st))) P) : Goes p.tables e below (T.setTop (mkF m pc Ls st)) P := hr.of fun _ k => XT.lconstV X.here hx rfl v hd hv k
theorem g_null (X : Stand p l e R s m args below meth c T locs cells slots) (hx : p.tables.exec = Jvm.exec)  (hd : decode c.code pc = .ok (.aconst_null, 1)) (hr : Goes p.tables e below (T.setTop (mkF m (pc + 1) Ls (.null :: st))) P) : Goes p.tables e below (T.setTop (mkF m pc Ls st)) P := hr.of fun _ k => XS.aconstNull X.here hx rfl hd k
theorem g_ldc (X : Stand p l e R s m args below meth c T locs cells slots) (hx : p.tables.exec = Jvm.exec) {own : String} {index : Nat} {v : Int32} (hZ : Z.Warmed39 s.vm) (hown : s.vm.findClass own = some m.cls) (wk : (Jvm.Cond.constant own index v).before a0 Z = true) (hd : decode c.code pc = .ok (.ldc index, 2)) (hr : Goes p.tables e below (T.setTop (mkF m (pc + 2) Ls (.int v :: st))) P) : Goes p.tables e below (T.setTop (mkF m pc Ls st)) P := hr.of fun _ k => X.ldcI hx hown (mvT hZ wk) rfl hd k
theorem g_ldcw (X : Stand p l e R s m args below meth c T locs cells slots) (hx : p.tables.exec = Jvm.exec) {own : String} {index : Nat} {v : Int32} (hZ : Z.Warmed39 s.vm) (hown : s.vm.findClass own = some m.cls) (wk : (Jvm.Cond.constant own index v).before a0 Z = true) (hd : decode c.code pc = .ok (.ldc_w index, 3)) (hr : Goes p.tables e below (T.setTop (mkF m (pc + 3) Ls (.int v :: st))) P) : Goes p.tables e below (T.setTop (mkF m pc Ls st)) P := hr.of fun _ k => X.ldcWI hx hown (mvT hZ wk) rfl hd k
theorem g_ldc2 (X : Stand p l e R s m args below meth c T locs cells slots) (hx : p.tables.exec = Jvm.exec) {own : String} {index : Nat} {v : Int64} (hZ : Z.Warmed39 s.vm) (hown : s.vm.findClass own = some m.cls) (wk : (Jvm.Cond.constantLong own index v).before a0 Z = true) (hd : decode c.code pc = .ok (.ldc2_w index, 3)) (hr : Goes p.tables e below (T.setTop (mkF m (pc + 3) Ls (.long v :: st))) P) : Goes p.tables e below (T.setTop (mkF m pc Ls st)) P := hr.of fun _ k => X.ldc2J hx hown (mvT hZ wk) rfl hd k
theorem g_iadd (X : Stand p l e R s m args below meth c T locs cells slots) (hx : p.tables.exec = Jvm.exec) {x y : Int32} (hd : decode c.code pc = .ok (.iadd, 1)) (hr : Goes p.tables e below (T.setTop (mkF m (pc + 1) Ls (.int (x + y) :: st))) P) : Goes p.tables e below (T.setTop (mkF m pc Ls (.int y :: .int x :: st))) P := hr.of fun _ k => XS.iadd X.here hx rfl hd rfl k
theorem g_isub (X : Stand p l e R s m args below meth c T locs cells slots) (hx : p.tables.exec = Jvm.exec) {x y : Int32} (hd : decode c.code pc = .ok (.isub, 1)) (hr : Goes p.tables e below (T.setTop (mkF m (pc + 1) Ls (.int (x - y) :: st))) P) : Goes p.tables e below (T.setTop (mkF m pc Ls (.int y :: .int x :: st))) P := hr.of fun _ k => XS.isub X.here hx rfl hd rfl k
theorem g_imul (X : Stand p l e R s m args below meth c T locs cells slots) (hx : p.tables.exec = Jvm.exec) {x y : Int32} (hd : decode c.code pc = .ok (.imul, 1)) (hr : Goes p.tables e below (T.setTop (mkF m (pc + 1) Ls (.int (x * y) :: st))) P) : Goes p.tables e below (T.setTop (mkF m pc Ls (.int y :: .int x :: st))) P := hr.of fun _ k => XS.imul X.here hx rfl hd rfl k
theorem g_iand (X : Stand p l e R s m args below meth c T locs cells slots) (hx : p.tables.exec = Jvm.exec) {x y : Int32} (hd : decode c.code pc = .ok (.iand, 1)) (hr : Goes p.tables e below (T.setTop (mkF m (pc + 1) Ls (.int (x &&& y) :: st))) P) : Goes p.tables e below (T.setTop (mkF m pc Ls (.int y :: .int x :: st))) P := hr.of fun _ k => XS.iand X.here hx rfl hd rfl k
theorem g_ior (X : Stand p l e R s m args below meth c T locs cells slots) (hx : p.tables.exec = Jvm.exec) {x y : Int32} (hd : decode c.code pc = .ok (.ior, 1)) (hr : Goes p.tables e below (T.setTop (mkF m (pc + 1) Ls (.int (x ||| y) :: st))) P) : Goes p.tables e below (T.setTop (mkF m pc Ls (.int y :: .int x :: st))) P := hr.of fun _ k => XT.ior X.here hx rfl hd rfl k
theorem g_ixor (X : Stand p l e R s m args below meth c T locs cells slots) (hx : p.tables.exec = Jvm.exec) {x y : Int32} (hd : decode c.code pc = .ok (.ixor, 1)) (hr : Goes p.tables e below (T.setTop (mkF m (pc + 1) Ls (.int (x ^^^ y) :: st))) P) : Goes p.tables e below (T.setTop (mkF m pc Ls (.int y :: .int x :: st))) P := hr.of fun _ k => XT.ixor X.here hx rfl hd rfl k
theorem g_ishl (X : Stand p l e R s m args below meth c T locs cells slots) (hx : p.tables.exec = Jvm.exec) {x y : Int32} (hd : decode c.code pc = .ok (.ishl, 1)) (hr : Goes p.tables e below (T.setTop (mkF m (pc + 1) Ls (.int (x <<< (y &&& 31)) :: st))) P) : Goes p.tables e below (T.setTop (mkF m pc Ls (.int y :: .int x :: st))) P := hr.of fun _ k => XT.ishl X.here hx rfl hd rfl k
theorem g_ishr (X : Stand p l e R s m args below meth c T locs cells slots) (hx : p.tables.exec = Jvm.exec) {x y : Int32} (hd : decode c.code pc = .ok (.ishr, 1)) (hr : Goes p.tables e below (T.setTop (mkF m (pc + 1) Ls (.int (x >>> (y &&& 31)) :: st))) P) : Goes p.tables e below (T.setTop (mkF m pc Ls (.int y :: .int x :: st))) P := hr.of fun _ k => XT.ishr X.here hx rfl hd rfl k
theorem g_iushr (X : Stand p l e R s m args below meth c T locs cells slots) (hx : p.tables.exec = Jvm.exec) {x y : Int32} (hd : decode c.code pc = .ok (.iushr, 1)) (hr : Goes p.tables e below (T.setTop (mkF m (pc + 1) Ls (.int (XT.ushr x y) :: st))) P) : Goes p.tables e below (T.setTop (mkF m pc Ls (.int y :: .int x :: st))) P := hr.of fun _ k => XT.iushr X.here hx rfl hd rfl k
theorem g_ladd (X : Stand p l e R s m args below meth c T locs cells slots) (hx : p.tables.exec = Jvm.exec) {x y : Int64} (hd : decode c.code pc = .ok (.ladd, 1)) (hr : Goes p.tables e below (T.setTop (mkF m (pc + 1) Ls (.long (x + y) :: st))) P) : Goes p.tables e below (T.setTop (mkF m pc Ls (.long y :: .long x :: st))) P := hr.of fun _ k => XT.ladd X.here hx rfl hd rfl k
theorem g_lsub (X : Stand p l e R s m args below meth c T locs cells slots) (hx : p.tables.exec = Jvm.exec) {x y : Int64} (hd : decode c.code pc = .ok (.lsub, 1)) (hr : Goes p.tables e below (T.setTop (mkF m (pc + 1) Ls (.long (x - y) :: st))) P) : Goes p.tables e below (T.setTop (mkF m pc Ls (.long y :: .long x :: st))) P := hr.of fun _ k => XT.lsub X.here hx rfl hd rfl k
theorem g_lmul (X : Stand p l e R s m args below meth c T locs cells slots) (hx : p.tables.exec = Jvm.exec) {x y : Int64} (hd : decode c.code pc = .ok (.lmul, 1)) (hr : Goes p.tables e below (T.setTop (mkF m (pc + 1) Ls (.long (x * y) :: st))) P) : Goes p.tables e below (T.setTop (mkF m pc Ls (.long y :: .long x :: st))) P := hr.of fun _ k => XT.lmul X.here hx rfl hd rfl k
theorem g_land (X : Stand p l e R s m args below meth c T locs cells slots) (hx : p.tables.exec = Jvm.exec) {x y : Int64} (hd : decode c.code pc = .ok (.land, 1)) (hr : Goes p.tables e below (T.setTop (mkF m (pc + 1) Ls (.long (x &&& y) :: st))) P) : Goes p.tables e below (T.setTop (mkF m pc Ls (.long y :: .long x :: st))) P := hr.of fun _ k => XT.land X.here hx rfl hd rfl k
theorem g_lor (X : Stand p l e R s m args below meth c T locs cells slots) (hx : p.tables.exec = Jvm.exec) {x y : Int64} (hd : decode c.code pc = .ok (.lor, 1)) (hr : Goes p.tables e below (T.setTop (mkF m (pc + 1) Ls (.long (x ||| y) :: st))) P) : Goes p.tables e below (T.setTop (mkF m pc Ls (.long y :: .long x :: st))) P := hr.of fun _ k => XT.lor X.here hx rfl hd rfl k
theorem g_lxor (X : Stand p l e R s m args below meth c T locs cells slots) (hx : p.tables.exec = Jvm.exec) {x y : Int64} (hd : decode c.code pc = .ok (.lxor, 1)) (hr : Goes p.tables e below (T.setTop (mkF m (pc + 1) Ls (.long (x ^^^ y) :: st))) P) : Goes p.tables e below (T.setTop (mkF m pc Ls (.long y :: .long x :: st))) P := hr.of fun _ k => XT.lxor X.here hx rfl hd rfl k
theorem g_lshl (X : Stand p l e R s m args below meth c T locs cells slots) (hx : p.tables.exec = Jvm.exec) {x : Int64} {y : Int32} (hd : decode c.code pc = .ok (.lshl, 1)) (hr : Goes p.tables e below (T.setTop (mkF m (pc + 1) Ls (.long (x <<< (y.toInt64 &&& 63)) :: st))) P) : Goes p.tables e below (T.setTop (mkF m pc Ls (.int y :: .long x :: st))) P := hr.of fun _ k => XT.lshl X.here hx rfl hd rfl k
theorem g_lshr (X : Stand p l e R s m args below meth c T locs cells slots) (hx : p.tables.exec = Jvm.exec) {x : Int64} {y : Int32} (hd : decode c.code pc = .ok (.lshr, 1)) (hr : Goes p.tables e below (T.setTop (mkF m (pc + 1) Ls (.long (x >>> (y.toInt64 &&& 63)) :: st))) P) : Goes p.tables e below (T.setTop (mkF m pc Ls (.int y :: .long x :: st))) P := hr.of fun _ k => XT.lshr X.here hx rfl hd rfl k
theorem g_lushr (X : Stand p l e R s m args below meth c T locs cells slots) (hx : p.tables.exec = Jvm.exec) {x : Int64} {y : Int32} (hd : decode c.code pc = .ok (.lushr, 1)) (hr : Goes p.tables e below (T.setTop (mkF m (pc + 1) Ls (.long (XT.ushrL x y) :: st))) P) : Goes p.tables e below (T.setTop (mkF m pc Ls (.int y :: .long x :: st))) P := hr.of fun _ k => XT.lushr X.here hx rfl hd rfl k
theorem g_idiv (X : Stand p l e R s m args below meth c T locs cells slots) (hx : p.tables.exec = Jvm.exec) {x y : Int32} (hd : decode c.code pc = .ok (.idiv, 1)) (hy : y ≠ 0) (hr : Goes p.tables e below (T.setTop (mkF m (pc + 1) Ls (.int (x / y) :: st))) P) : Goes p.tables e below (T.setTop (mkF m pc Ls (.int y :: .int x :: st))) P := hr.of fun _ k => XS.idiv X.here hx rfl hd rfl hy k
theorem g_irem (X : Stand p l e R s m args below meth c T locs cells slots) (hx : p.tables.exec = Jvm.exec) {x y : Int32} (hd : decode c.code pc = .ok (.irem, 1)) (hy : y ≠ 0) (hr : Goes p.tables e below (T.setTop (mkF m (pc + 1) Ls (.int (x % y) :: st))) P) : Goes p.tables e below (T.setTop (mkF m pc Ls (.int y :: .int x :: st))) P := hr.of fun _ k => iremM X hx rfl hd rfl hy k
theorem g_ldiv (X : Stand p l e R s m args below meth c T locs cells slots) (hx : p.tables.exec = Jvm.exec) {x y : Int64} (hd : decode c.code pc = .ok (.ldiv, 1)) (hy : y ≠ 0) (hr : Goes p.tables e below (T.setTop (mkF m (pc + 1) Ls (.long (x / y) :: st))) P) : Goes p.tables e below (T.setTop (mkF m pc Ls (.long y :: .long x :: st))) P := hr.of fun _ k => XT.ldiv X.here hx rfl hd rfl hy k
theorem g_lrem (X : Stand p l e R s m args below meth c T locs cells slots) (hx : p.tables.exec = Jvm.exec) {x y : Int64} (hd : decode c.code pc = .ok (.lrem, 1)) (hy : y ≠ 0) (hr : Goes p.tables e below (T.setTop (mkF m (pc + 1) Ls (.long (x % y) :: st))) P) : Goes p.tables e below (T.setTop (mkF m pc Ls (.long y :: .long x :: st))) P := hr.of fun _ k => XT.lrem X.here hx rfl hd rfl hy (by rw [lrem_mod]; exact k)
theorem g_ineg (X : Stand p l e R s m args below meth c T locs cells slots) (hx : p.tables.exec = Jvm.exec) {x : Int32} (hd : decode c.code pc = .ok (.ineg, 1)) (hr : Goes p.tables e below (T.setTop (mkF m (pc + 1) Ls (.int (-x) :: st))) P) : Goes p.tables e below (T.setTop (mkF m pc Ls (.int x :: st))) P := hr.of fun _ k => XS.ineg X.here hx rfl hd rfl k
theorem g_lneg (X : Stand p l e R s m args below meth c T locs cells slots) (hx : p.tables.exec = Jvm.exec) {x : Int64} (hd : decode c.code pc = .ok (.lneg, 1)) (hr : Goes p.tables e below (T.setTop (mkF m (pc + 1) Ls (.long (-x) :: st))) P) : Goes p.tables e below (T.setTop (mkF m pc Ls (.long x :: st))) P := hr.of fun _ k => XT.lneg X.here hx rfl hd rfl k
theorem g_i2l (X : Stand p l e R s m args below meth c T locs cells slots) (hx : p.tables.exec = Jvm.exec) {x : Int32} (hd : decode c.code pc = .ok (.i2l, 1)) (hr : Goes p.tables e below (T.setTop (mkF m (pc + 1) Ls (.long (x.toInt64) :: st))) P) : Goes p.tables e below (T.setTop (mkF m pc Ls (.int x :: st))) P := hr.of fun _ k => XT.i2l X.here hx rfl hd rfl k
theorem g_l2i (X : Stand p l e R s m args below meth c T locs cells slots) (hx : p.tables.exec = Jvm.exec) {x : Int64} (hd : decode c.code pc = .ok (.l2i, 1)) (hr : Goes p.tables e below (T.setTop (mkF m (pc + 1) Ls (.int (x.toInt32) :: st))) P) : Goes p.tables e below (T.setTop (mkF m pc Ls (.long x :: st))) P := hr.of fun _ k => XT.l2i X.here hx rfl hd rfl k
theorem g_i2b (X : Stand p l e R s m args below meth c T locs cells slots) (hx : p.tables.exec = Jvm.exec) {x : Int32} (hd : decode c.code pc = .ok (.i2b, 1)) (hr : Goes p.tables e below (T.setTop (mkF m (pc + 1) Ls (.int (x.toInt8.toInt32) :: st))) P) : Goes p.tables e below (T.setTop (mkF m pc Ls (.int x :: st))) P := hr.of fun _ k => XT.i2b X.here hx rfl hd rfl k
theorem g_i2c (X : Stand p l e R s m args below meth c T locs cells slots) (hx : p.tables.exec = Jvm.exec) {x : Int32} (hd : decode c.code pc = .ok (.i2c, 1)) (hr : Goes p.tables e below (T.setTop (mkF m (pc + 1) Ls (.int (x.toUInt32.toUInt16.toUInt32.toInt32) :: st))) P) : Goes p.tables e below (T.setTop (mkF m pc Ls (.int x :: st))) P := hr.of fun _ k => XT.i2c X.here hx rfl hd rfl k
theorem g_i2s (X : Stand p l e R s m args below meth c T locs cells slots) (hx : p.tables.exec = Jvm.exec) {x : Int32} (hd : decode c.code pc = .ok (.i2s, 1)) (hr : Goes p.tables e below (T.setTop (mkF m (pc + 1) Ls (.int (x.toInt16.toInt32) :: st))) P) : Goes p.tables e below (T.setTop (mkF m pc Ls (.int x :: st))) P := hr.of fun _ k => XT.i2s X.here hx rfl hd rfl k
theorem g_lcmp (X : Stand p l e R s m args below meth c T locs cells slots) (hx : p.tables.exec = Jvm.exec) {x y : Int64} (hd : decode c.code pc = .ok (.lcmp, 1)) (hr : Goes p.tables e below (T.setTop (mkF m (pc + 1) Ls (.int (XT.cmpL x y) :: st))) P) : Goes p.tables e below (T.setTop (mkF m pc Ls (.long y :: .long x :: st))) P := hr.of fun _ k => XT.lcmp X.here hx rfl hd rfl k
theorem g_dup (X : Stand p l e R s m args below meth c T locs cells slots) (hx : p.tables.exec = Jvm.exec) {x : Value} (hd : decode c.code pc = .ok (.dup, 1)) (hc : x.category = 1) (hr : Goes p.tables e below (T.setTop (mkF m (pc + 1) Ls (x :: x :: st))) P) : Goes p.tables e below (T.setTop (mkF m pc Ls (x :: st))) P := hr.of fun _ k => XS.dup X.here hx rfl hd rfl hc k
theorem g_pop (X : Stand p l e R s m args below meth c T locs cells slots) (hx : p.tables.exec = Jvm.exec) {x : Value} (hd : decode c.code pc = .ok (.pop, 1)) (hc : x.category = 1) (hr : Goes p.tables e below (T.setTop (mkF m (pc + 1) Ls st)) P) : Goes p.tables e below (T.setTop (mkF m pc Ls (x :: st))) P := hr.of fun _ k => XT.pop X.here hx rfl hd rfl hc k
theorem g_dupX1 (X : Stand p l e R s m args below meth c T locs cells slots) (hx : p.tables.exec = Jvm.exec) {x y : Value} (hd : decode c.code pc = .ok (.dup_x1, 1)) (hc : x.category = 1) (hc' : y.category = 1) (hr : Goes p.tables e below (T.setTop (mkF m (pc + 1) Ls (x :: y :: x :: st))) P) : Goes p.tables e below (T.setTop (mkF m pc Ls (x :: y :: st))) P := hr.of fun _ k => XT.dupX1 X.here hx rfl hd rfl hc hc' k
theorem g_dup2 (X : Stand p l e R s m args below meth c T locs cells slots) (hx : p.tables.exec = Jvm.exec) {x y : Value} (hd : decode c.code pc = .ok (.dup2, 1)) (hc : x.category = 1) (hc' : y.category = 1) (hr : Goes p.tables e below (T.setTop (mkF m (pc + 1) Ls (x :: y :: x :: y :: st))) P) : Goes p.tables e below (T.setTop (mkF m pc Ls (x :: y :: st))) P := hr.of fun _ k => XT.dup2 X.here hx rfl hd rfl hc hc' k
theorem g_dup2L (X : Stand p l e R s m args below meth c T locs cells slots) (hx : p.tables.exec = Jvm.exec) {x : Int64} (hd : decode c.code pc = .ok (.dup2, 1)) (hr : Goes p.tables e below (T.setTop (mkF m (pc + 1) Ls (.long x :: .long x :: st))) P) : Goes p.tables e below (T.setTop (mkF m pc Ls (.long x :: st))) P := hr.of fun _ k => XT.dup2L X.here hx rfl hd rfl k
theorem g_iinc (X : Stand p l e R s m args below meth c T locs cells slots) (hx : p.tables.exec = Jvm.exec) {k : Nat} {cst : Int} {x : Int32} {l' : Array Slot} (v : Int32) (hd : decode c.code pc = .ok (.iinc k cst, 3)) (hv : Int32.ofInt cst = v) (hl : Ls[k]? = some (.val (.int x))) (hl' : storeLocals Ls k (.int (x + v)) = some l') (hr : Goes p.tables e below (T.setTop (mkF m (pc + 3) l' st)) P) : Goes p.tables e below (T.setTop (mkF m pc Ls st)) P := hr.of fun _ k => XT.iincV X.here hx rfl v hd hv hl hl' k
theorem g_goto (X : Stand p l e R s m args below meth c T locs cells slots) (hx : p.tables.exec = Jvm.exec) {o : Int} {pc' : Nat} (hd : decode c.code pc = .ok (.goto o, 3)) (ho : 0 ≤ (pc : Int) + o) (hp : ((pc : Int) + o).toNat = pc') (hr : Goes p.tables e below (T.setTop (mkF m pc' Ls st)) P) : Goes p.tables e below (T.setTop (mkF m pc Ls st)) P := hr.of fun _ k => XS.goto X.here hx rfl rfl hd ho hp k
theorem g_icmp_eq (X : Stand p l e R s m args below meth c T locs cells slots) (hx : p.tables.exec = Jvm.exec) {x y : Int32} {o : Int} {pc' : Nat} (hd : decode c.code pc = .ok (.if_icmp .eq o, 3)) (ho : 0 ≤ (pc : Int) + o) (hp : ((pc : Int) + o).toNat = pc') (hT : (x = y) → Goes p.tables e below (T.setTop (mkF m pc' Ls st)) P) (hF : (¬ x = y) → Goes p.tables e below (T.setTop (mkF m (pc + 3) Ls st)) P) : Goes p.tables e below (T.setTop (mkF m pc Ls (.int y :: .int x :: st))) P := by
  by_cases q : x = y
  · exact (hT q).of fun _ k => XS.icmpYes X.here hx rfl rfl hd rfl (XT.ii_eq_t q) ho hp k
  · exact (hF q).of fun _ k => XS.icmpNo X.here hx rfl hd rfl (XT.ii_eq_f q) k
theorem g_if_eq (X : Stand p l e R s m args below meth c T locs cells slots) (hx : p.tables.exec = Jvm.exec) {x : Int32} {o : Int} {pc' : Nat} (hd : decode c.code pc = .ok (.ifCond .eq o, 3)) (ho : 0 ≤ (pc : Int) + o) (hp : ((pc : Int) + o).toNat = pc') (hT : (x = 0) → Goes p.tables e below (T.setTop (mkF m pc' Ls st)) P) (hF : (¬ x = 0) → Goes p.tables e below (T.setTop (mkF m (pc + 3) Ls st)) P) : Goes p.tables e below (T.setTop (mkF m pc Ls (.int x :: st))) P := by
  by_cases q : x = 0
  · exact (hT q).of fun _ k => XS.ifYes X.here hx rfl rfl hd rfl (XT.i0_eq_t q) ho hp k
  · exact (hF q).of fun _ k => XS.ifNo X.here hx rfl hd rfl (XT.i0_eq_f q) k
theorem g_lif_eq (X : Stand p l e R s m args below meth c T locs cells slots) (hx : p.tables.exec = Jvm.exec) {x y : Int64} {o : Int} {pc' : Nat} (hd : decode c.code pc = .ok (.ifCond .eq o, 3)) (ho : 0 ≤ (pc : Int) + o) (hp : ((pc : Int) + o).toNat = pc') (hT : (x = y) → Goes p.tables e below (T.setTop (mkF m pc' Ls st)) P) (hF : (¬ x = y) → Goes p.tables e below (T.setTop (mkF m (pc + 3) Ls st)) P) : Goes p.tables e below (T.setTop (mkF m pc Ls (.int (XT.cmpL x y) :: st))) P := by
  by_cases q : x = y
  · exact (hT q).of fun _ k => XS.ifYes X.here hx rfl rfl hd rfl (XT.ll_eq_t q) ho hp k
  · exact (hF q).of fun _ k => XS.ifNo X.here hx rfl hd rfl (XT.ll_eq_f q) k
theorem g_icmp_ne (X : Stand p l e R s m args below meth c T locs cells slots) (hx : p.tables.exec = Jvm.exec) {x y : Int32} {o : Int} {pc' : Nat} (hd : decode c.code pc = .ok (.if_icmp .ne o, 3)) (ho : 0 ≤ (pc : Int) + o) (hp : ((pc : Int) + o).toNat = pc') (hT : (¬ x = y) → Goes p.tables e below (T.setTop (mkF m pc' Ls st)) P) (hF : (x = y) → Goes p.tables e below (T.setTop (mkF m (pc + 3) Ls st)) P) : Goes p.tables e below (T.setTop (mkF m pc Ls (.int y :: .int x :: st))) P := by
  by_cases q : x = y
  · exact (hF q).of fun _ k => XS.icmpNo X.here hx rfl hd rfl (XT.ii_ne_f q) k
  · exact (hT q).of fun _ k => XS.icmpYes X.here hx rfl rfl hd rfl (XT.ii_ne_t q) ho hp k
theorem g_if_ne (X : Stand p l e R s m args below meth c T locs cells slots) (hx : p.tables.exec = Jvm.exec) {x : Int32} {o : Int} {pc' : Nat} (hd : decode c.code pc = .ok (.ifCond .ne o, 3)) (ho : 0 ≤ (pc : Int) + o) (hp : ((pc : Int) + o).toNat = pc') (hT : (¬ x = 0) → Goes p.tables e below (T.setTop (mkF m pc' Ls st)) P) (hF : (x = 0) → Goes p.tables e below (T.setTop (mkF m (pc + 3) Ls st)) P) : Goes p.tables e below (T.setTop (mkF m pc Ls (.int x :: st))) P := by
  by_cases q : x = 0
  · exact (hF q).of fun _ k => XS.ifNo X.here hx rfl hd rfl (XT.i0_ne_f q) k
  · exact (hT q).of fun _ k => XS.ifYes X.here hx rfl rfl hd rfl (XT.i0_ne_t q) ho hp k
theorem g_lif_ne (X : Stand p l e R s m args below meth c T locs cells slots) (hx : p.tables.exec = Jvm.exec) {x y : Int64} {o : Int} {pc' : Nat} (hd : decode c.code pc = .ok (.ifCond .ne o, 3)) (ho : 0 ≤ (pc : Int) + o) (hp : ((pc : Int) + o).toNat = pc') (hT : (¬ x = y) → Goes p.tables e below (T.setTop (mkF m pc' Ls st)) P) (hF : (x = y) → Goes p.tables e below (T.setTop (mkF m (pc + 3) Ls st)) P) : Goes p.tables e below (T.setTop (mkF m pc Ls (.int (XT.cmpL x y) :: st))) P := by
  by_cases q : x = y
  · exact (hF q).of fun _ k => XS.ifNo X.here hx rfl hd rfl (XT.ll_ne_f q) k
  · exact (hT q).of fun _ k => XS.ifYes X.here hx rfl rfl hd rfl (XT.ll_ne_t q) ho hp k
theorem g_icmp_lt (X : Stand p l e R s m args below meth c T locs cells slots) (hx : p.tables.exec = Jvm.exec) {x y : Int32} {o : Int} {pc' : Nat} (hd : decode c.code pc = .ok (.if_icmp .lt o, 3)) (ho : 0 ≤ (pc : Int) + o) (hp : ((pc : Int) + o).toNat = pc') (hT : (x < y) → Goes p.tables e below (T.setTop (mkF m pc' Ls st)) P) (hF : (¬ x < y) → Goes p.tables e below (T.setTop (mkF m (pc + 3) Ls st)) P) : Goes p.tables e below (T.setTop (mkF m pc Ls (.int y :: .int x :: st))) P := by
  by_cases q : x < y
  · exact (hT q).of fun _ k => XS.icmpYes X.here hx rfl rfl hd rfl (XT.ii_lt_t q) ho hp k
  · exact (hF q).of fun _ k => XS.icmpNo X.here hx rfl hd rfl (XT.ii_lt_f q) k
theorem g_if_lt (X : Stand p l e R s m args below meth c T locs cells slots) (hx : p.tables.exec = Jvm.exec) {x : Int32} {o : Int} {pc' : Nat} (hd : decode c.code pc = .ok (.ifCond .lt o, 3)) (ho : 0 ≤ (pc : Int) + o) (hp : ((pc : Int) + o).toNat = pc') (hT : (x < 0) → Goes p.tables e below (T.setTop (mkF m pc' Ls st)) P) (hF : (¬ x < 0) → Goes p.tables e below (T.setTop (mkF m (pc + 3) Ls st)) P) : Goes p.tables e below (T.setTop (mkF m pc Ls (.int x :: st))) P := by
  by_cases q : x < 0
  · exact (hT q).of fun _ k => XS.ifYes X.here hx rfl rfl hd rfl (XT.i0_lt_t q) ho hp k
  · exact (hF q).of fun _ k => XS.ifNo X.here hx rfl hd rfl (XT.i0_lt_f q) k
theorem g_lif_lt (X : Stand p l e R s m args below meth c T locs cells slots) (hx : p.tables.exec = Jvm.exec) {x y : Int64} {o : Int} {pc' : Nat} (hd : decode c.code pc = .ok (.ifCond .lt o, 3)) (ho : 0 ≤ (pc : Int) + o) (hp : ((pc : Int) + o).toNat = pc') (hT : (x < y) → Goes p.tables e below (T.setTop (mkF m pc' Ls st)) P) (hF : (¬ x < y) → Goes p.tables e below (T.setTop (mkF m (pc + 3) Ls st)) P) : Goes p.tables e below (T.setTop (mkF m pc Ls (.int (XT.cmpL x y) :: st))) P := by
  by_cases q : x < y
  · exact (hT q).of fun _ k => XS.ifYes X.here hx rfl rfl hd rfl (XT.ll_lt_t q) ho hp k
  · exact (hF q).of fun _ k => XS.ifNo X.here hx rfl hd rfl (XT.ll_lt_f q) k
theorem g_icmp_ge (X : Stand p l e R s m args below meth c T locs cells slots) (hx : p.tables.exec = Jvm.exec) {x y : Int32} {o : Int} {pc' : Nat} (hd : decode c.code pc = .ok (.if_icmp .ge o, 3)) (ho : 0 ≤ (pc : Int) + o) (hp : ((pc : Int) + o).toNat = pc') (hT : (¬ x < y) → Goes p.tables e below (T.setTop (mkF m pc' Ls st)) P) (hF : (x < y) → Goes p.tables e below (T.setTop (mkF m (pc + 3) Ls st)) P) : Goes p.tables e below (T.setTop (mkF m pc Ls (.int y :: .int x :: st))) P := by
  by_cases q : x < y
  · exact (hF q).of fun _ k => XS.icmpNo X.here hx rfl hd rfl (XT.ii_ge_f q) k
  · exact (hT q).of fun _ k => XS.icmpYes X.here hx rfl rfl hd rfl (XT.ii_ge_t q) ho hp k
theorem g_if_ge (X : Stand p l e R s m args below meth c T locs cells slots) (hx : p.tables.exec = Jvm.exec) {x : Int32} {o : Int} {pc' : Nat} (hd : decode c.code pc = .ok (.ifCond .ge o, 3)) (ho : 0 ≤ (pc : Int) + o) (hp : ((pc : Int) + o).toNat = pc') (hT : (¬ x < 0) → Goes p.tables e below (T.setTop (mkF m pc' Ls st)) P) (hF : (x < 0) → Goes p.tables e below (T.setTop (mkF m (pc + 3) Ls st)) P) : Goes p.tables e below (T.setTop (mkF m pc Ls (.int x :: st))) P := by
  by_cases q : x < 0
  · exact (hF q).of fun _ k => XS.ifNo X.here hx rfl hd rfl (XT.i0_ge_f q) k
  · exact (hT q).of fun _ k => XS.ifYes X.here hx rfl rfl hd rfl (XT.i0_ge_t q) ho hp k
theorem g_lif_ge (X : Stand p l e R s m args below meth c T locs cells slots) (hx : p.tables.exec = Jvm.exec) {x y : Int64} {o : Int} {pc' : Nat} (hd : decode c.code pc = .ok (.ifCond .ge o, 3)) (ho : 0 ≤ (pc : Int) + o) (hp : ((pc : Int) + o).toNat = pc') (hT : (¬ x < y) → Goes p.tables e below (T.setTop (mkF m pc' Ls st)) P) (hF : (x < y) → Goes p.tables e below (T.setTop (mkF m (pc + 3) Ls st)) P) : Goes p.tables e below (T.setTop (mkF m pc Ls (.int (XT.cmpL x y) :: st))) P := by
  by_cases q : x < y
  · exact (hF q).of fun _ k => XS.ifNo X.here hx rfl hd rfl (XT.ll_ge_f q) k
  · exact (hT q).of fun _ k => XS.ifYes X.here hx rfl rfl hd rfl (XT.ll_ge_t q) ho hp k
theorem g_icmp_gt (X : Stand p l e R s m args below meth c T locs cells slots) (hx : p.tables.exec = Jvm.exec) {x y : Int32} {o : Int} {pc' : Nat} (hd : decode c.code pc = .ok (.if_icmp .gt o, 3)) (ho : 0 ≤ (pc : Int) + o) (hp : ((pc : Int) + o).toNat = pc') (hT : (y < x) → Goes p.tables e below (T.setTop (mkF m pc' Ls st)) P) (hF : (¬ y < x) → Goes p.tables e below (T.setTop (mkF m (pc + 3) Ls st)) P) : Goes p.tables e below (T.setTop (mkF m pc Ls (.int y :: .int x :: st))) P := by
  by_cases q : y < x
  · exact (hT q).of fun _ k => XS.icmpYes X.here hx rfl rfl hd rfl (XT.ii_gt_t q) ho hp k
  · exact (hF q).of fun _ k => XS.icmpNo X.here hx rfl hd rfl (XT.ii_gt_f q) k
theorem g_if_gt (X : Stand p l e R s m args below meth c T locs cells slots) (hx : p.tables.exec = Jvm.exec) {x : Int32} {o : Int} {pc' : Nat} (hd : decode c.code pc = .ok (.ifCond .gt o, 3)) (ho : 0 ≤ (pc : Int) + o) (hp : ((pc : Int) + o).toNat = pc') (hT : (0 < x) → Goes p.tables e below (T.setTop (mkF m pc' Ls st)) P) (hF : (¬ 0 < x) → Goes p.tables e below (T.setTop (mkF m (pc + 3) Ls st)) P) : Goes p.tables e below (T.setTop (mkF m pc Ls (.int x :: st))) P := by
  by_cases q : 0 < x
  · exact (hT q).of fun _ k => XS.ifYes X.here hx rfl rfl hd rfl (XT.i0_gt_t q) ho hp k
  · exact (hF q).of fun _ k => XS.ifNo X.here hx rfl hd rfl (XT.i0_gt_f q) k
theorem g_lif_gt (X : Stand p l e R s m args below meth c T locs cells slots) (hx : p.tables.exec = Jvm.exec) {x y : Int64} {o : Int} {pc' : Nat} (hd : decode c.code pc = .ok (.ifCond .gt o, 3)) (ho : 0 ≤ (pc : Int) + o) (hp : ((pc : Int) + o).toNat = pc') (hT : (y < x) → Goes p.tables e below (T.setTop (mkF m pc' Ls st)) P) (hF : (¬ y < x) → Goes p.tables e below (T.setTop (mkF m (pc + 3) Ls st)) P) : Goes p.tables e below (T.setTop (mkF m pc Ls (.int (XT.cmpL x y) :: st))) P := by
  by_cases q : y < x
  · exact (hT q).of fun _ k => XS.ifYes X.here hx rfl rfl hd rfl (XT.ll_gt_t q) ho hp k
  · exact (hF q).of fun _ k => XS.ifNo X.here hx rfl hd rfl (XT.ll_gt_f q) k
theorem g_icmp_le (X : Stand p l e R s m args below meth c T locs cells slots) (hx : p.tables.exec = Jvm.exec) {x y : Int32} {o : Int} {pc' : Nat} (hd : decode c.code pc = .ok (.if_icmp .le o, 3)) (ho : 0 ≤ (pc : Int) + o) (hp : ((pc : Int) + o).toNat = pc') (hT : (¬ y < x) → Goes p.tables e below (T.setTop (mkF m pc' Ls st)) P) (hF : (y < x) → Goes p.tables e below (T.setTop (mkF m (pc + 3) Ls st)) P) : Goes p.tables e below (T.setTop (mkF m pc Ls (.int y :: .int x :: st))) P := by
  by_cases q : y < x
  · exact (hF q).of fun _ k => XS.icmpNo X.here hx rfl hd rfl (XT.ii_le_f q) k
  · exact (hT q).of fun _ k => XS.icmpYes X.here hx rfl rfl hd rfl (XT.ii_le_t q) ho hp k
theorem g_if_le (X : Stand p l e R s m args below meth c T locs cells slots) (hx : p.tables.exec = Jvm.exec) {x : Int32} {o : Int} {pc' : Nat} (hd : decode c.code pc = .ok (.ifCond .le o, 3)) (ho : 0 ≤ (pc : Int) + o) (hp : ((pc : Int) + o).toNat = pc') (hT : (¬ 0 < x) → Goes p.tables e below (T.setTop (mkF m pc' Ls st)) P) (hF : (0 < x) → Goes p.tables e below (T.setTop (mkF m (pc + 3) Ls st)) P) : Goes p.tables e below (T.setTop (mkF m pc Ls (.int x :: st))) P := by
  by_cases q : 0 < x
  · exact (hF q).of fun _ k => XS.ifNo X.here hx rfl hd rfl (XT.i0_le_f q) k
  · exact (hT q).of fun _ k => XS.ifYes X.here hx rfl rfl hd rfl (XT.i0_le_t q) ho hp k
theorem g_lif_le (X : Stand p l e R s m args below meth c T locs cells slots) (hx : p.tables.exec = Jvm.exec) {x y : Int64} {o : Int} {pc' : Nat} (hd : decode c.code pc = .ok (.ifCond .le o, 3)) (ho : 0 ≤ (pc : Int) + o) (hp : ((pc : Int) + o).toNat = pc') (hT : (¬ y < x) → Goes p.tables e below (T.setTop (mkF m pc' Ls st)) P) (hF : (y < x) → Goes p.tables e below (T.setTop (mkF m (pc + 3) Ls st)) P) : Goes p.tables e below (T.setTop (mkF m pc Ls (.int (XT.cmpL x y) :: st))) P := by
  by_cases q : y < x
  · exact (hF q).of fun _ k => XS.ifNo X.here hx rfl hd rfl (XT.ll_le_f q) k
  · exact (hT q).of fun _ k => XS.ifYes X.here hx rfl rfl hd rfl (XT.ll_le_t q) ho hp k
theorem g_ifnull_ref (X : Stand p l e R s m args below meth c T locs cells slots) (hx : p.tables.exec = Jvm.exec) {b : Addr} {o : Int} (hd : decode c.code pc = .ok (.ifnull o, 3)) (hr : Goes p.tables e below (T.setTop (mkF m (pc + 3) Ls st)) P) : Goes p.tables e below (T.setTop (mkF m pc Ls (.ref b :: st))) P := hr.of fun _ k => XS.ifnullNo X.here hx rfl hd rfl k
theorem g_ifnull_null (X : Stand p l e R s m args below meth c T locs cells slots) (hx : p.tables.exec = Jvm.exec)  {o : Int} {pc' : Nat} (hd : decode c.code pc = .ok (.ifnull o, 3)) (ho : 0 ≤ (pc : Int) + o) (hp : ((pc : Int) + o).toNat = pc') (hr : Goes p.tables e below (T.setTop (mkF m pc' Ls st)) P) : Goes p.tables e below (T.setTop (mkF m pc Ls (.null :: st))) P := hr.of fun _ k => XS.ifnullYes X.here hx rfl rfl hd rfl ho hp k
theorem g_ifnonnull_ref (X : Stand p l e R s m args below meth c T locs cells slots) (hx : p.tables.exec = Jvm.exec) {b : Addr} {o : Int} {pc' : Nat} (hd : decode c.code pc = .ok (.ifnonnull o, 3)) (ho : 0 ≤ (pc : Int) + o) (hp : ((pc : Int) + o).toNat = pc') (hr : Goes p.tables e below (T.setTop (mkF m pc' Ls st)) P) : Goes p.tables e below (T.setTop (mkF m pc Ls (.ref b :: st))) P := hr.of fun _ k => XT.ifnonnullYes X.here hx rfl rfl hd rfl ho hp k
theorem g_ifnonnull_null (X : Stand p l e R s m args below meth c T locs cells slots) (hx : p.tables.exec = Jvm.exec)  {o : Int} (hd : decode c.code pc = .ok (.ifnonnull o, 3)) (hr : Goes p.tables e below (T.setTop (mkF m (pc + 3) Ls st)) P) : Goes p.tables e below (T.setTop (mkF m pc Ls (.null :: st))) P := hr.of fun _ k => XT.ifnonnullNo X.here hx rfl hd rfl k
theorem g_acmp_eq (X : Stand p l e R s m args below meth c T locs cells slots) (hx : p.tables.exec = Jvm.exec) {x y : Value} (hx' : x.isRef = true) (hy' : y.isRef = true) {o : Int} {pc' : Nat} (hd : decode c.code pc = .ok (.if_acmp .eq o, 3)) (ho : 0 ≤ (pc : Int) + o) (hp : ((pc : Int) + o).toNat = pc') (hT : (x = y) → Goes p.tables e below (T.setTop (mkF m pc' Ls st)) P) (hF : (¬ x = y) → Goes p.tables e below (T.setTop (mkF m (pc + 3) Ls st)) P) : Goes p.tables e below (T.setTop (mkF m pc Ls (y :: x :: st))) P := by
  by_cases q : x = y
  · exact (hT q).of fun _ k => XT.acmpYes X.here hx rfl rfl hd rfl hx' hy' (by simp [XT.acmp, q]) ho hp k
  · exact (hF q).of fun _ k => XT.acmpNo X.here hx rfl hd rfl hx' hy' (by simp [XT.acmp, q]) k
theorem g_acmp_ne (X : Stand p l e R s m args below meth c T locs cells slots) (hx : p.tables.exec = Jvm.exec) {x y : Value} (hx' : x.isRef = true) (hy' : y.isRef = true) {o : Int} {pc' : Nat} (hd : decode c.code pc = .ok (.if_acmp .ne o, 3)) (ho : 0 ≤ (pc : Int) + o) (hp : ((pc : Int) + o).toNat = pc') (hT : (¬ x = y) → Goes p.tables e below (T.setTop (mkF m pc' Ls st)) P) (hF : (x = y) → Goes p.tables e below (T.setTop (mkF m (pc + 3) Ls st)) P) : Goes p.tables e below (T.setTop (mkF m pc Ls (y :: x :: st))) P := by
  by_cases q : x = y
  · exact (hF q).of fun _ k => XT.acmpNo X.here hx rfl hd rfl hx' hy' (by simp [XT.acmp, q]) k
  · exact (hT q).of fun _ k => XT.acmpYes X.here hx rfl rfl hd rfl hx' hy' (by simp [XT.acmp, q]) ho hp k
/-- what a body owes at its end: it returned v, Q holds of it, the heap and the places written, within C cells and N slots -/
abbrev Fin (s : State) (C N : Nat) (Q : Option Value → Heap → List Loc → Prop) : State → Outcome → Prop := fun s₂ o => ∃ v L, o = .returned v ∧ Q v s₂.heap L ∧ FrameEnd s o s₂ L C N
variable {C N : Nat} {Q : Option Value → Heap → List Loc → Prop}
theorem g_ret (X : Stand p l e R s m args below meth c T locs cells slots) (hx : p.tables.exec = Jvm.exec) {w : Value} {t : FieldType} {i : Instr} (hret : meth.sig.returnType = some t) (hk : meth.locks = false) (hn : narrow t w = w)
    (hi : (i = .ireturn ∧ (t = .int ∨ t = .boolean ∨ t = .byte ∨ t = .char ∨ t = .short) ∧ ∃ z, w = .int z) ∨ (i = .lreturn ∧ t = .long ∧ ∃ z, w = .long z) ∨ (i = .dreturn ∧ t = .double ∧ ∃ z, w = .double z) ∨ (i = .freturn ∧ t = .float ∧ ∃ z, w = .float z) ∨ (i = .areturn ∧ t.isReference = true ∧ w.isRef = true))
    (hd : decode c.code pc = .ok (i, 1)) (hc : cells ≤ C) (hs : slots ≤ N) (hQ : Q (some w) T.heap locs) : Goes p.tables e below (T.setTop (mkF m pc Ls (w :: st))) (Fin s C N Q) := by
  obtain ⟨fs, hr, hrun, hended, hW, hsame⟩ := X.leave (v := some w) (fun h => by rw [hret] at h; cases h) hk
  exact ⟨_, _, retOut X hx hret hn hi hd hr, hrun, hended, _, _, rfl, hQ, ⟨_, rfl⟩, hW, hsame.mono hc hs⟩
theorem g_retI (X : Stand p l e R s m args below meth c T locs cells slots) (hx : p.tables.exec = Jvm.exec) {z : Int32} (hret : meth.sig.returnType = some .int) (hk : meth.locks = false) (hd : decode c.code pc = .ok (.ireturn, 1)) (hc : cells ≤ C) (hs : slots ≤ N) (hQ : Q (some (.int z)) T.heap locs) :
    Goes p.tables e below (T.setTop (mkF m pc Ls (.int z :: st))) (Fin s C N Q) := g_ret X hx hret hk rfl (Or.inl ⟨rfl, Or.inl rfl, _, rfl⟩) hd hc hs hQ
theorem g_retL (X : Stand p l e R s m args below meth c T locs cells slots) (hx : p.tables.exec = Jvm.exec) {z : Int64} (hret : meth.sig.returnType = some .long) (hk : meth.locks = false) (hd : decode c.code pc = .ok (.lreturn, 1)) (hc : cells ≤ C) (hs : slots ≤ N) (hQ : Q (some (.long z)) T.heap locs) :
    Goes p.tables e below (T.setTop (mkF m pc Ls (.long z :: st))) (Fin s C N Q) := g_ret X hx hret hk rfl (Or.inr (Or.inl ⟨rfl, rfl, _, rfl⟩)) hd hc hs hQ
theorem g_retA (X : Stand p l e R s m args below meth c T locs cells slots) (hx : p.tables.exec = Jvm.exec) {w : Value} {t : FieldType} (hret : meth.sig.returnType = some t) (hk : meth.locks = false) (ht : t.isReference = true) (hw : w.isRef = true) (hd : decode c.code pc = .ok (.areturn, 1)) (hc : cells ≤ C) (hs : slots ≤ N) (hQ : Q (some w) T.heap locs) :
    Goes p.tables e below (T.setTop (mkF m pc Ls (w :: st))) (Fin s C N Q) := g_ret X hx hret hk (by cases t <;> simp [FieldType.isReference] at ht <;> cases w <;> simp [Value.isRef] at hw <;> rfl) (Or.inr (Or.inr (Or.inr (Or.inr ⟨rfl, ht, hw⟩)))) hd hc hs hQ
theorem g_retZ (X : Stand p l e R s m args below meth c T locs cells slots) (hx : p.tables.exec = Jvm.exec) {z : Int32} (hz : z = 0 ∨ z = 1) (hret : meth.sig.returnType = some .boolean) (hk : meth.locks = false) (hd : decode c.code pc = .ok (.ireturn, 1)) (hc : cells ≤ C) (hs : slots ≤ N) (hQ : Q (some (.int z)) T.heap locs) :
    Goes p.tables e below (T.setTop (mkF m pc Ls (.int z :: st))) (Fin s C N Q) := g_ret X hx hret hk (by rcases hz with rfl | rfl <;> rfl) (Or.inl ⟨rfl, Or.inr (Or.inl rfl), _, rfl⟩) hd hc hs hQ
theorem g_retB (X : Stand p l e R s m args below meth c T locs cells slots) (hx : p.tables.exec = Jvm.exec) {z : Int32} (hz : z.toInt8.toInt32 = z) (hret : meth.sig.returnType = some .byte) (hk : meth.locks = false) (hd : decode c.code pc = .ok (.ireturn, 1)) (hc : cells ≤ C) (hs : slots ≤ N) (hQ : Q (some (.int z)) T.heap locs) :
    Goes p.tables e below (T.setTop (mkF m pc Ls (.int z :: st))) (Fin s C N Q) := g_ret X hx hret hk (by show Value.int z.toInt8.toInt32 = _; rw [hz]) (Or.inl ⟨rfl, Or.inr (Or.inr (Or.inl rfl)), _, rfl⟩) hd hc hs hQ
theorem g_ret0 (X : Stand p l e R s m args below meth c T locs cells slots) (hx : p.tables.exec = Jvm.exec) (hret : meth.sig.returnType = none) (hk : meth.locks = false) (hd : decode c.code pc = .ok (.return_, 1)) (hc : cells ≤ C) (hs : slots ≤ N) (hQ : Q none T.heap locs) :
    Goes p.tables e below (T.setTop (mkF m pc Ls [])) (Fin s C N Q) := by
  obtain ⟨fs, hr, hrun, hended, hW, hsame⟩ := X.leave (v := none) (fun _ => rfl) hk
  exact ⟨_, _, X.returnOut hx hret hd hr, hrun, hended, _, _, rfl, hQ, ⟨_, rfl⟩, hW, hsame.mono hc hs⟩
/-- the contract of a body, at these arguments and this heap -/
def Con (l : Launch) (Z : State) (y : MethodName) (bytes : ByteArray) (maxL : Nat) (ret : Option FieldType) (ws : List Jvm.Cond) (rm : Room) (C N : Nat) (as' : Array Value) (h : Heap) (Q : Option Value → Heap → List Loc → Prop) : Prop :=
  MetFree l y (head1 (Jvm.Cond.code y bytes maxL ret :: ws) rm) (fun a U => a = as' ∧ Z.Warmed39 U.vm ∧ U.heap = h) (fun _ _ _ _ _ => True) (fun _ U o U' => ∃ v L, o = .returned v ∧ Q v U'.heap L ∧ FrameEnd U o U' L C N)
theorem Con.body {y : MethodName} {bytes : ByteArray} {maxL : Nat} {ret : Option FieldType} {ws : List Jvm.Cond} {rm : Room} {as' : Array Value} (hp : plainFor y = true)
    (body : ∀ (p : Program) (e : Env) (s : State) (m : MethodId) (below : List Frame) (meth : Method) (c : Code) (T : State), p.tables.exec = Jvm.exec → c.code = bytes → c.maxLocals = maxL → s.vm.findClass y.cls = some m.cls → meth.name = y.name → Z.Warmed39 s.vm → meth.sig.returnType = ret → meth.locks = false →
      Stand p l e rm s m as' below meth c T [] 0 0 → T.heap = h → Goes p.tables e below (T.setTop (entryFrame m as' maxL)) (Fin s C N Q)) : Con l Z y bytes maxL ret ws rm C N as' h Q := by
  refine MetFree.of_bodySF hp hisR ?_
  intro p e s m args below meth c s₁ Bd hml hP hK
  obtain ⟨rfl, hZ, hh⟩ := hP
  exact body p e s m below meth c s₁ Bd.exec Bd.bytes hml (findClass_of_methodNamed Bd.named) (name_of_methodNamed Bd.named Bd.method).1 hZ Bd.returns (BodyLoose.notSynchronized Bd) (Stand.of_body Bd) (by rw [← hh, Bd.state]; rfl)
variable {y : MethodName} {bytes : ByteArray} {maxL : Nat} {ret : Option FieldType} {rm : Room} {as' : Array Value} {own : String} {index W : Nat} {argsL : List Value}
/-- a static call by the callee's contract -/
theorem g_callS (X : Stand p l e R s m args below meth c T locs cells slots) (hx : p.tables.exec = Jvm.exec) (hZ : Z.Warmed39 s.vm) (hown : s.vm.findClass own = some m.cls) (hml : Ls.size = c.maxLocals) (eT : T.heap = h)
    (wl : (Jvm.Cond.methodLink own index y).before a0 Z = true) (wt : (Jvm.Cond.static y).before a0 Z = true) (wz : (Jvm.Cond.initialized y.cls).before a0 Z = true) (wc : (Jvm.Cond.code y bytes maxL ret).before a0 Z = true)
    (hM : Con l Z y bytes maxL ret [] rm rm.cells rm.slots as' h Q) (argsL : List Value) (has : argsL.toArray = as') {S : List Value} (st : List Value) (hS : S = argsL.reverse ++ st) (hlen : ∀ sig, parseMethodDescriptor y.desc = some sig → argsL.length = sig.parameters.length)
    (hd : decode c.code pc = .ok (.invokestatic index, 3)) (hy : y.cls ≠ "java/lang/invoke/MethodHandle" ∧ y.cls ≠ "java/lang/invoke/VarHandle") (W : Nat) (hf : rm.frames + 1 ≤ R.frames) (hl : W + (maxL + 11) + rm.locals ≤ R.locals) (hW : (st.map fun v => v.category).sum ≤ W) (hc : cells + rm.cells ≤ R.cells) (hs : slots + rm.slots ≤ R.slots)
    (k : ∀ v T' L, Stand p l e R s m args below meth c T' (locs ++ L) (cells + rm.cells) (slots + rm.slots) → Q v T'.heap L → Goes p.tables e below (T'.setTop (mkF m (pc + 3) Ls (v.toList ++ st))) P) :
    Goes p.tables e below (T.setTop (mkF m pc Ls S)) P := by
  subst hS
  obtain ⟨v, vm₁, ⟨T', L', k', n'⟩, -, X', ⟨L, hQ, e1, e2, e3⟩, st'⟩ := Jvm.LawKit.callS X hx (y := y) hown (mvT hZ wl) (mvT hZ wt) (mvT hZ wz) (mvT hZ wc) hy (backOf (W := W) hM hZ wc wz hf hl) (g := mkF m pc Ls (argsL.reverse ++ st)) rfl hml (argsL := argsL) (rest := st) hlen rfl (by show 2 * 0 + _ ≤ _; omega) hd (fun _ _ => ⟨has, eT, hc, hs⟩)
  dsimp only [Pt.U, Pt.locs, Pt.cells, Pt.slots] at X' e1 e2 e3 st' hQ
  subst e1 e2 e3
  exact (k v T' L X' hQ).of st'
/-- a constructor by its contract -/
theorem g_callI (X : Stand p l e R s m args below meth c T locs cells slots) (hx : p.tables.exec = Jvm.exec) (hZ : Z.Warmed39 s.vm) (hown : s.vm.findClass own = some m.cls) (hml : Ls.size = c.maxLocals) (eT : T.heap = h) (hn : y.name = "<init>")
    (wl : (Jvm.Cond.methodLink own index y).before a0 Z = true) (wt : (Jvm.Cond.instanceMethod y).before a0 Z = true) (wz : (Jvm.Cond.initialized y.cls).before a0 Z = true) (wc : (Jvm.Cond.code y bytes maxL none).before a0 Z = true)
    (hM : Con l Z y bytes maxL none [] rm rm.cells rm.slots as' h Q) (a : Addr) (argsL : List Value) (has : (.ref a :: argsL).toArray = as') {S : List Value} (st : List Value) (hS : S = argsL.reverse ++ .ref a :: st) (hlen : ∀ sig, parseMethodDescriptor y.desc = some sig → argsL.length = sig.parameters.length)
    (hd : decode c.code pc = .ok (.invokespecial index, 3)) (hy : y.cls ≠ "java/lang/invoke/MethodHandle" ∧ y.cls ≠ "java/lang/invoke/VarHandle") (W : Nat) (hf : rm.frames + 1 ≤ R.frames) (hl : W + (maxL + 11) + rm.locals ≤ R.locals) (hW : (st.map fun v => v.category).sum ≤ W) (hc : cells + rm.cells ≤ R.cells) (hs : slots + rm.slots ≤ R.slots)
    (k : ∀ v T' L, Stand p l e R s m args below meth c T' (locs ++ L) (cells + rm.cells) (slots + rm.slots) → Q v T'.heap L → Goes p.tables e below (T'.setTop (mkF m (pc + 3) Ls (v.toList ++ st))) P) :
    Goes p.tables e below (T.setTop (mkF m pc Ls S)) P := by
  subst hS
  obtain ⟨v, vm₁, ⟨T', L', k', n'⟩, -, X', ⟨L, hQ, e1, e2, e3⟩, st'⟩ := X.specialBack hx (y := y) hn hown (mvT hZ wl) (mvT hZ wt) (mvT hZ wc) hy (backOf (W := W) hM hZ wc wz hf hl) (g := mkF m pc Ls (argsL.reverse ++ .ref a :: st)) rfl hml (Steps.refl _) (a := a) (argsL := argsL) (rest := st) hlen rfl (by show 2 * 0 + _ ≤ _; omega) hd (fun _ _ => ⟨has, eT, hc, hs⟩)
  dsimp only [Pt.U, Pt.locs, Pt.cells, Pt.slots] at X' e1 e2 e3 st' hQ
  subst e1 e2 e3
  exact (k v T' L X' hQ).tr st'
/-- an instance method by its contract -/
theorem g_callV (X : Stand p l e R s m args below meth c T locs cells slots) (hx : p.tables.exec = Jvm.exec) (hZ : Z.Warmed39 s.vm) (hown : s.vm.findClass own = some m.cls) (hml : Ls.size = c.maxLocals) (eT : T.heap = h) {K : String}
    (wl : (Jvm.Cond.methodLink own index y).before a0 Z = true) (wd : (Jvm.Cond.declares y).before a0 Z = true) (wv : (Jvm.Cond.selects K y y).before a0 Z = true) (wt : (Jvm.Cond.instanceMethod y).before a0 Z = true) (wz : (Jvm.Cond.initialized y.cls).before a0 Z = true) (wc : (Jvm.Cond.code y bytes maxL ret).before a0 Z = true)
    {a : Addr} (E : Exa Z h a K) (hM : Con l Z y bytes maxL ret [] rm rm.cells rm.slots as' h Q) (argsL : List Value) (has : (.ref a :: argsL).toArray = as') {S : List Value} (st : List Value) (hS : S = argsL.reverse ++ .ref a :: st) (hlen : ∀ sig, parseMethodDescriptor y.desc = some sig → argsL.length = sig.parameters.length)
    (hd : decode c.code pc = .ok (.invokevirtual index, 3)) (hy : y.cls ≠ "java/lang/invoke/MethodHandle" ∧ y.cls ≠ "java/lang/invoke/VarHandle") (W : Nat) (hf : rm.frames + 1 ≤ R.frames) (hl : W + (maxL + 11) + rm.locals ≤ R.locals) (hW : (st.map fun v => v.category).sum ≤ W) (hc : cells + rm.cells ≤ R.cells) (hs : slots + rm.slots ≤ R.slots)
    (k : ∀ v T' L, Stand p l e R s m args below meth c T' (locs ++ L) (cells + rm.cells) (slots + rm.slots) → Q v T'.heap L → Goes p.tables e below (T'.setTop (mkF m (pc + 3) Ls (v.toList ++ st))) P) :
    Goes p.tables e below (T.setTop (mkF m pc Ls S)) P := by
  subst hS
  obtain ⟨cq, kq, qa, qb, qc⟩ := isOf hZ eT E
  obtain ⟨v, vm₁, ⟨T', L', k', n'⟩, -, X', ⟨L, hQ, e1, e2, e3⟩, st'⟩ := X.virtualBack hx (y := y) (z := y) hown (mvT hZ wl) (mvT hZ wd) (notFace_of_selects (args := #[]) (mvT hZ wv)) (mvT hZ wv) (mvT hZ wt) hy (backOf (W := W) hM hZ wc wz hf hl) qa qc (g := mkF m pc Ls (argsL.reverse ++ .ref a :: st)) rfl hml (Steps.refl _) (argsL := argsL) (rest := st) hlen rfl (by show 2 * 0 + _ ≤ _; omega) hd (fun _ _ => ⟨has, eT, hc, hs⟩)
  dsimp only [Pt.U, Pt.locs, Pt.cells, Pt.slots] at X' e1 e2 e3 st' hQ
  subst e1 e2 e3
  exact (k v T' L X' hQ).tr st'
/-! objects -/
section Objects
variable {own K O R0 nm d host : String} {index kk : Nat} {a : Addr}
theorem g_new (X : Stand p l e R s m args below meth c T locs cells slots) (hx : p.tables.exec = Jvm.exec) (hZ : Z.Warmed39 s.vm) (hown : s.vm.findClass own = some m.cls) (eT : T.heap = h) (w : (Jvm.Cond.classLink own index K).before a0 Z = true) (wi : (Jvm.Cond.instantiable K kk).before a0 Z = true) (wz : (Jvm.Cond.initialized K).before a0 Z = true)
    (hd : decode c.code pc = .ok (.new index, 3)) (hc : cells + 1 ≤ R.cells) (hl : slots + kk ≤ R.slots)
    (k : ∀ T' h' a, a = h.size → Stand p l e R s m args below meth c T' locs (cells + 1) (slots + kk) → T'.heap = h' → Ext h h' → Exa Z h' a K → (∀ {O nm d : String} {ty : FieldType}, Laid Z a0 K O nm d → parseFieldDescriptor d = some ty → Fld Z h' a O nm d (defaultValue ty)) → Goes p.tables e below (T'.setTop (mkF m (pc + 3) Ls (.ref a :: st))) P) :
    Goes p.tables e below (T.setTop (mkF m pc Ls st)) P := by
  obtain ⟨T', h', X', e', E, A, D, -, st'⟩ := newO X hx hZ hown w wi wz eT (g := mkF m pc Ls st) rfl hd hc hl
  exact (k T' h' _ rfl X' e' E A D).of st'
theorem g_init0 (X : Stand p l e R s m args below meth c T locs cells slots) (hx : p.tables.exec = Jvm.exec) (hZ : Z.Warmed39 s.vm) (hown : s.vm.findClass own = some m.cls) (hml : Ls.size = c.maxLocals) (eT : T.heap = h) (w1 : (Jvm.Cond.methodLink own index Lib.objectInit).before a0 Z = true) (w2 : (Jvm.Cond.instanceMethod Lib.objectInit).before a0 Z = true)
    (w3 : (Jvm.Cond.code Lib.objectInit ⟨#[0xb1]⟩ 1 none).before a0 Z = true) (hd : decode c.code pc = .ok (.invokespecial index, 3)) (W : Nat) (hf : 1 ≤ R.frames) (hW : (st.map fun v => v.category).sum ≤ W) (hl : W + 12 ≤ R.locals)
    (k : ∀ T', Stand p l e R s m args below meth c T' locs cells slots → T'.heap = h → Goes p.tables e below (T'.setTop (mkF m (pc + 3) Ls st)) P) : Goes p.tables e below (T.setTop (mkF m pc Ls (.ref a :: st))) P := by
  obtain ⟨T', X', e', st'⟩ := initO X hx hZ hown w1 w2 w3 eT (g := mkF m pc Ls (.ref a :: st)) rfl hml rfl hd hf (W := W) (by show 2 * 0 + _ ≤ _; omega) hl
  exact (k T' X' e').of st'
theorem g_getF (X : Stand p l e R s m args below meth c T locs cells slots) (hx : p.tables.exec = Jvm.exec) (hZ : Z.Warmed39 s.vm) (hown : s.vm.findClass own = some m.cls) (eT : T.heap = h) (w : (Jvm.Cond.fieldLink own index R0 nm d).before a0 Z = true ∨ (Jvm.Cond.fieldLinkNest own index R0 nm d host).before a0 Z = true) (via : Via Z R0 O nm d)
    {v : Value} (F : Fld Z h a O nm d v) (hd : decode c.code pc = .ok (.getfield index, 3))
    (k : ∀ T', Stand p l e R s m args below meth c T' locs cells slots → T'.heap = h → Goes p.tables e below (T'.setTop (mkF m (pc + 3) Ls (v :: st))) P) : Goes p.tables e below (T.setTop (mkF m pc Ls (.ref a :: st))) P := by
  obtain ⟨T', X', e', st'⟩ := getF X hx hZ hown w via eT F (g := mkF m pc Ls (.ref a :: st)) rfl rfl hd
  exact (k T' X' e').of st'
theorem g_getS (X : Stand p l e R s m args below meth c T locs cells slots) (hx : p.tables.exec = Jvm.exec) (hZ : Z.Warmed39 s.vm) (hown : s.vm.findClass own = some m.cls) (eT : T.heap = h) (w : (Jvm.Cond.fieldLink own index O nm d).before a0 Z = true ∨ (Jvm.Cond.fieldLinkNest own index O nm d host).before a0 Z = true)
    {v : Value} (F : Sta Z h O nm d v) (hd : decode c.code pc = .ok (.getstatic index, 3))
    (k : ∀ T', Stand p l e R s m args below meth c T' locs cells slots → T'.heap = h → Goes p.tables e below (T'.setTop (mkF m (pc + 3) Ls (v :: st))) P) : Goes p.tables e below (T.setTop (mkF m pc Ls st)) P := by
  obtain ⟨T', X', e', st'⟩ := getS2 X hx hZ hown w Via.refl eT F (g := mkF m pc Ls st) rfl hd
  exact (k T' X' e').of st'
/-- a field's store; v': what the field then holds -/
theorem g_putF (X : Stand p l e R s m args below meth c T locs cells slots) (hx : p.tables.exec = Jvm.exec) (hZ : Z.Warmed39 s.vm) (hown : s.vm.findClass own = some m.cls) (eT : T.heap = h) (w : (Jvm.Cond.fieldLink own index R0 nm d).before a0 Z = true) (via : Via Z R0 O nm d)
    {v v' old : Value} (F : Fld Z h a O nm d old) (E : Exa Z h a K) (L : (Jvm.Cond.lays K O nm d).before a0 Z = true ∨ ((Jvm.Cond.laysFinal K O nm d).before a0 Z = true ∧ own = O ∧ meth.name = "<init>")) (wi : (Jvm.Cond.instantiable K kk).before a0 Z = true) {ty : FieldType} (hty : parseFieldDescriptor d = some ty) (hn : narrow ty v = v') (hf : fits ty v' = true)
    (hd : decode c.code pc = .ok (.putfield index, 3))
    (k : ∀ T' h', Stand p l e R s m args below meth c T' (locs ++ [⟨a, Jvm.RoadKit.slotOf Z O nm d⟩]) cells slots → T'.heap = h' → Wr h h' a (Jvm.RoadKit.slotOf Z O nm d) v' → Goes p.tables e below (T'.setTop (mkF m (pc + 3) Ls st)) P) : Goes p.tables e below (T.setTop (mkF m pc Ls (v :: .ref a :: st))) P := by
  obtain ⟨T', h', X', e', W', st'⟩ := putFN X hx hZ hown w via eT F E L wi hty hn hf (g := mkF m pc Ls (v :: .ref a :: st)) rfl rfl hd
  exact (k T' h' X' e' W').of st'
end Objects
/-! arrays: the components as a list -/
def Ar (Z : State) (h : Heap) (a : Addr) (ty : FieldType) (vs : List Value) : Prop := ∃ c : Cell, Arr Z h a c ty ∧ c.slots.toList = vs ∧ vs.length < 2 ^ 31 ∧ ∀ v ∈ vs, fits ty v = true
section Arrays
variable {a b : Addr} {ty : FieldType} {vs : List Value} {h' : Heap} {ws : List Addr}
theorem Ar.lt (F : Ar Z h a ty vs) : a < h.size := by obtain ⟨c, A, -⟩ := F; exact A.lt
theorem Ar.ext (F : Ar Z h a ty vs) (E : Ext h h') : Ar Z h' a ty vs := by obtain ⟨c, A, r⟩ := F; exact ⟨c, A.ext E, r⟩
theorem Ar.other (F : Ar Z h b ty vs) {sl : Nat} {v : Value} (W : Wr h h' a sl v) (q : b ≠ a) : Ar Z h' b ty vs := by obtain ⟨c, A, r⟩ := F; exact ⟨c, A.other W q, r⟩
theorem Ar.keep (F : Ar Z h a ty vs) (K : Keep h h' ws) (q : a ∉ ws) : Ar Z h' a ty vs := by obtain ⟨c, A, r⟩ := F; exact ⟨c, ⟨K.2.1 a c A.1 q, A.2⟩, r⟩
theorem own_nat {j : Int32} {i : Nat} (hj : j.toInt = i) : j.toNatClampNeg = i ∧ ¬ j < 0 := by
  have q : ¬ j < 0 := fun q => by have := Int32.lt_iff_toInt_lt.mp q; rw [show (0 : Int32).toInt = 0 from rfl] at this; omega
  have e := nat_of q
  exact ⟨by omega, q⟩
theorem own_in {j : Int32} {i : Nat} (hj : j.toInt = i) {c : Cell} (hs : c.slots.toList = vs) (hi : i < vs.length) : ¬ (j < 0 ∨ c.slots.size ≤ j.toNatClampNeg) := by
  obtain ⟨e, q⟩ := own_nat hj
  rintro (r | r)
  · exact q r
  · rw [← Array.length_toList, hs] at r; omega
theorem own_at {j : Int32} {i : Nat} (hj : j.toInt = i) {c : Cell} (hs : c.slots.toList = vs) {v : Value} (hv : vs[i]? = some v) : c.slots[j.toNatClampNeg]? = some v := by
  rw [(own_nat hj).1, ← Array.getElem?_toList, hs]; exact hv
theorem own_lt {i : Nat} {v : Value} (hv : vs[i]? = some v) : i < vs.length := (List.getElem?_eq_some_iff.mp hv).1
theorem Ar.set {j : Nat} {v : Value} (F : Ar Z h a ty vs) (W : Wr h h' a j v) (hf : fits ty v = true) : Ar Z h' a ty (vs.set j v) := by
  obtain ⟨c, A, hs, hl, hv⟩ := F
  refine ⟨c.setSlot j v, A.same W, by rw [← hs]; simp [Cell.setSlot], by rw [List.length_set]; exact hl, fun w hw => ?_⟩
  rcases List.mem_or_eq_of_mem_set hw with q | q
  · exact hv w q
  · rw [q]; exact hf
theorem g_iaload (X : Stand p l e R s m args below meth c T locs cells slots) (hx : p.tables.exec = Jvm.exec) (hZ : Z.Warmed39 s.vm) (eT : T.heap = h) (A : Ar Z h a .int vs) {j : Int32} {i : Nat} {v : Value} (hj : j.toInt = i) (hv : vs[i]? = some v) (hd : decode c.code pc = .ok (.iaload, 1))
    (hr : Goes p.tables e below (T.setTop (mkF m (pc + 1) Ls (v :: st))) P) : Goes p.tables e below (T.setTop (mkF m pc Ls (.int j :: .ref a :: st))) P := by
  obtain ⟨cl, A, hs, hl, -⟩ := A
  exact hr.of fun _ k => X.iaload hx (by rw [eT]; exact A.1) (State.isArrayOf_alike hZ.alike A.2.1) A.2.2 (own_in hj hs (own_lt hv)) (own_at hj hs hv) (g := mkF m pc Ls (.int j :: .ref a :: st)) rfl rfl hd _ k
theorem g_laload (X : Stand p l e R s m args below meth c T locs cells slots) (hx : p.tables.exec = Jvm.exec) (hZ : Z.Warmed39 s.vm) (eT : T.heap = h) (A : Ar Z h a .long vs) {j : Int32} {i : Nat} {v : Value} (hj : j.toInt = i) (hv : vs[i]? = some v) (hd : decode c.code pc = .ok (.laload, 1))
    (hr : Goes p.tables e below (T.setTop (mkF m (pc + 1) Ls (v :: st))) P) : Goes p.tables e below (T.setTop (mkF m pc Ls (.int j :: .ref a :: st))) P := by
  obtain ⟨cl, A, hs, hl, -⟩ := A
  exact hr.of fun _ k => X.laload hx (by rw [eT]; exact A.1) (State.isArrayOf_alike hZ.alike A.2.1) A.2.2 (own_in hj hs (own_lt hv)) (own_at hj hs hv) (g := mkF m pc Ls (.int j :: .ref a :: st)) rfl rfl hd _ k
theorem g_caload (X : Stand p l e R s m args below meth c T locs cells slots) (hx : p.tables.exec = Jvm.exec) (hZ : Z.Warmed39 s.vm) (eT : T.heap = h) (A : Ar Z h a .char vs) {j : Int32} {i : Nat} {v : Value} (hj : j.toInt = i) (hv : vs[i]? = some v) (hd : decode c.code pc = .ok (.caload, 1))
    (hr : Goes p.tables e below (T.setTop (mkF m (pc + 1) Ls (v :: st))) P) : Goes p.tables e below (T.setTop (mkF m pc Ls (.int j :: .ref a :: st))) P := by
  obtain ⟨cl, A, hs, hl, -⟩ := A
  exact hr.of fun _ k => X.caload hx (by rw [eT]; exact A.1) (State.isArrayOf_alike hZ.alike A.2.1) A.2.2 (own_in hj hs (own_lt hv)) (own_at hj hs hv) (g := mkF m pc Ls (.int j :: .ref a :: st)) rfl rfl hd _ k
theorem g_saload (X : Stand p l e R s m args below meth c T locs cells slots) (hx : p.tables.exec = Jvm.exec) (hZ : Z.Warmed39 s.vm) (eT : T.heap = h) (A : Ar Z h a .short vs) {j : Int32} {i : Nat} {v : Value} (hj : j.toInt = i) (hv : vs[i]? = some v) (hd : decode c.code pc = .ok (.saload, 1))
    (hr : Goes p.tables e below (T.setTop (mkF m (pc + 1) Ls (v :: st))) P) : Goes p.tables e below (T.setTop (mkF m pc Ls (.int j :: .ref a :: st))) P := by
  obtain ⟨cl, A, hs, hl, -⟩ := A
  exact hr.of fun _ k => X.saload hx (by rw [eT]; exact A.1) (State.isArrayOf_alike hZ.alike A.2.1) A.2.2 (own_in hj hs (own_lt hv)) (own_at hj hs hv) (g := mkF m pc Ls (.int j :: .ref a :: st)) rfl rfl hd _ k
theorem g_baload (X : Stand p l e R s m args below meth c T locs cells slots) (hx : p.tables.exec = Jvm.exec) (hZ : Z.Warmed39 s.vm) (eT : T.heap = h) (A : Ar Z h a .byte vs) {j : Int32} {i : Nat} {v : Value} (hj : j.toInt = i) (hv : vs[i]? = some v) (hd : decode c.code pc = .ok (.baload, 1))
    (hr : Goes p.tables e below (T.setTop (mkF m (pc + 1) Ls (v :: st))) P) : Goes p.tables e below (T.setTop (mkF m pc Ls (.int j :: .ref a :: st))) P := by
  obtain ⟨cl, A, hs, hl, -⟩ := A
  exact hr.of fun _ k => X.baloadBytes hx (by rw [eT]; exact A.1) (State.isArrayOf_alike hZ.alike A.2.1) A.2.2 (own_in hj hs (own_lt hv)) (own_at hj hs hv) (g := mkF m pc Ls (.int j :: .ref a :: st)) rfl rfl hd _ k
theorem g_zaload (X : Stand p l e R s m args below meth c T locs cells slots) (hx : p.tables.exec = Jvm.exec) (hZ : Z.Warmed39 s.vm) (eT : T.heap = h) (A : Ar Z h a .boolean vs) {j : Int32} {i : Nat} {v : Value} (hj : j.toInt = i) (hv : vs[i]? = some v) (hd : decode c.code pc = .ok (.baload, 1))
    (hr : Goes p.tables e below (T.setTop (mkF m (pc + 1) Ls (v :: st))) P) : Goes p.tables e below (T.setTop (mkF m pc Ls (.int j :: .ref a :: st))) P := by
  obtain ⟨cl, A, hs, hl, -⟩ := A
  exact hr.of fun _ k => X.baloadBooleans hx (by rw [eT]; exact A.1) (State.isArrayOf_alike hZ.alike A.2.1) A.2.2 (own_in hj hs (own_lt hv)) (own_at hj hs hv) (g := mkF m pc Ls (.int j :: .ref a :: st)) rfl rfl hd _ k
theorem g_aaload (X : Stand p l e R s m args below meth c T locs cells slots) (hx : p.tables.exec = Jvm.exec) (hZ : Z.Warmed39 s.vm) (eT : T.heap = h) (A : Ar Z h a ty vs) (hty : ty.isReference = true) {j : Int32} {i : Nat} {v : Value} (hj : j.toInt = i) (hv : vs[i]? = some v) (hd : decode c.code pc = .ok (.aaload, 1))
    (hr : Goes p.tables e below (T.setTop (mkF m (pc + 1) Ls (v :: st))) P) : Goes p.tables e below (T.setTop (mkF m pc Ls (.int j :: .ref a :: st))) P := by
  obtain ⟨cl, A, hs, hl, -⟩ := A
  exact hr.of fun _ k => X.aaload hx (by rw [eT]; exact A.1) (State.isArrayOf_alike hZ.alike A.2.1) hty A.2.2 (own_in hj hs (own_lt hv)) (own_at hj hs hv) (g := mkF m pc Ls (.int j :: .ref a :: st)) rfl rfl hd _ k
theorem g_alen (X : Stand p l e R s m args below meth c T locs cells slots) (hx : p.tables.exec = Jvm.exec) (hZ : Z.Warmed39 s.vm) (eT : T.heap = h) (A : Ar Z h a ty vs) (z : Int32) (hz : z.toInt = vs.length) (hd : decode c.code pc = .ok (.arraylength, 1))
    (hr : Goes p.tables e below (T.setTop (mkF m (pc + 1) Ls (.int z :: st))) P) : Goes p.tables e below (T.setTop (mkF m pc Ls (.ref a :: st))) P := by
  obtain ⟨cl, A, hs, hl, -⟩ := A
  have q : cl.slots.size.toInt32 = z := by
    have e1 : cl.slots.size = vs.length := by rw [← hs, Array.length_toList]
    exact Int32.toInt_inj.mp (by rw [len_toInt (by rw [e1]; exact hl), hz, e1])
  subst q
  exact hr.of fun _ k => X.arraylength hx (cell := cl) (by rw [eT]; exact A.1) (State.isArrayOf_alike hZ.alike A.2.1) (g := mkF m pc Ls (.ref a :: st)) rfl (rest := st) rfl hd _ k
theorem g_newarr (X : Stand p l e R s m args below meth c T locs cells slots) (hx : p.tables.exec = Jvm.exec) (hZ : Z.Warmed39 s.vm) (eT : T.heap = h) {aty : ArrayType} (w : (Jvm.Cond.arrayClass (newarray.typeOf aty)).before a0 Z = true) (hd : decode c.code pc = .ok (.newarray aty, 2)) {z : Int32} {n : Nat} (hz : z.toInt = n) (cap : Nat) (hcap : n ≤ cap) (hb : cap * 8 ≤ 536870912) (hc : cells + 1 ≤ R.cells) (hl : slots + cap ≤ R.slots) {ad : String} (had : "[" ++ (newarray.typeOf aty).toString = ad) (hfit : fits (newarray.typeOf aty) (defaultValue (newarray.typeOf aty)) = true)
    (k : ∀ T' h' a, a = h.size → Stand p l e R s m args below meth c T' locs (cells + 1) (slots + cap) → T'.heap = h' → Ext h h' → Ar Z h' a (newarray.typeOf aty) (List.replicate n (defaultValue (newarray.typeOf aty))) → Exa Z h' a ad → Goes p.tables e below (T'.setTop (mkF m (pc + 2) Ls (.ref a :: st))) P) :
    Goes p.tables e below (T.setTop (mkF m pc Ls (.int z :: st))) P := by
  obtain ⟨e1, q⟩ := own_nat hz
  obtain ⟨T', h', cA, X', e', E, A, F, st'⟩ := newPE X hx hZ w eT (g := mkF m pc Ls (.int z :: st)) rfl hd rfl q (cap := cap) (by rw [e1]; exact hcap) hb hc hl had
  refine (k T' h' _ rfl X' e' E ⟨_, A, ?_, ?_, ?_⟩ F).of st'
  · simp [newA, e1]
  · rw [List.length_replicate]; have := rng32 z; omega
  · intro v hv; rw [(List.mem_replicate.mp hv).2]; exact hfit
theorem g_iastore (X : Stand p l e R s m args below meth c T locs cells slots) (hx : p.tables.exec = Jvm.exec) (hZ : Z.Warmed39 s.vm) (eT : T.heap = h) (A : Ar Z h a .int vs) {j : Int32} {x : Int32} (i : Nat) (hj : j.toInt = i) (hi : i < vs.length) (hd : decode c.code pc = .ok (.iastore, 1))
    (k : ∀ T' h', Stand p l e R s m args below meth c T' (locs ++ [⟨a, i⟩]) cells slots → T'.heap = h' → Wr h h' a i (.int x) → Ar Z h' a .int (vs.set i (.int x)) → Goes p.tables e below (T'.setTop (mkF m (pc + 1) Ls st)) P) : Goes p.tables e below (T.setTop (mkF m pc Ls (.int x :: .int j :: .ref a :: st))) P := by
  have A' := A
  obtain ⟨cl, A, hs, hl, -⟩ := A
  obtain ⟨T', h', X', e', W', st'⟩ := stI X hx hZ eT A (own_in hj hs hi) (g := mkF m pc Ls (.int x :: .int j :: .ref a :: st)) rfl rfl hd
  rw [(own_nat hj).1] at X' W'
  exact (k T' h' X' e' W' (A'.set W' rfl)).of st'
theorem g_lastore (X : Stand p l e R s m args below meth c T locs cells slots) (hx : p.tables.exec = Jvm.exec) (hZ : Z.Warmed39 s.vm) (eT : T.heap = h) (A : Ar Z h a .long vs) {j : Int32} {x : Int64} (i : Nat) (hj : j.toInt = i) (hi : i < vs.length) (hd : decode c.code pc = .ok (.lastore, 1))
    (k : ∀ T' h', Stand p l e R s m args below meth c T' (locs ++ [⟨a, i⟩]) cells slots → T'.heap = h' → Wr h h' a i (.long x) → Ar Z h' a .long (vs.set i (.long x)) → Goes p.tables e below (T'.setTop (mkF m (pc + 1) Ls st)) P) : Goes p.tables e below (T.setTop (mkF m pc Ls (.long x :: .int j :: .ref a :: st))) P := by
  have A' := A
  obtain ⟨cl, A, hs, hl, -⟩ := A
  obtain ⟨T', h', X', e', W', st'⟩ := stJ X hx hZ eT A (own_in hj hs hi) (g := mkF m pc Ls (.long x :: .int j :: .ref a :: st)) rfl rfl hd
  rw [(own_nat hj).1] at X' W'
  exact (k T' h' X' e' W' (A'.set W' rfl)).of st'
theorem g_castore (X : Stand p l e R s m args below meth c T locs cells slots) (hx : p.tables.exec = Jvm.exec) (hZ : Z.Warmed39 s.vm) (eT : T.heap = h) (A : Ar Z h a .char vs) {j x : Int32} (i : Nat) (hj : j.toInt = i) (hi : i < vs.length) (x' : Int32) (hn : nar .char x = x') (hd : decode c.code pc = .ok (.castore, 1))
    (k : ∀ T' h', Stand p l e R s m args below meth c T' (locs ++ [⟨a, i⟩]) cells slots → T'.heap = h' → Wr h h' a i (.int x') → Ar Z h' a .char (vs.set i (.int x')) → Goes p.tables e below (T'.setTop (mkF m (pc + 1) Ls st)) P) : Goes p.tables e below (T.setTop (mkF m pc Ls (.int x :: .int j :: .ref a :: st))) P := by
  have A' := A
  obtain ⟨cl, A, hs, hl, -⟩ := A
  obtain ⟨T', h', X', e', W', st'⟩ := stC X hx hZ eT A (own_in hj hs hi) (g := mkF m pc Ls (.int x :: .int j :: .ref a :: st)) rfl rfl hd
  rw [(own_nat hj).1, hn] at W'
  rw [(own_nat hj).1] at X'
  exact (k T' h' X' e' W' (A'.set W' (by rw [← hn]; exact fits_nar_char x))).of st'
theorem g_bastore (X : Stand p l e R s m args below meth c T locs cells slots) (hx : p.tables.exec = Jvm.exec) (hZ : Z.Warmed39 s.vm) (eT : T.heap = h) (A : Ar Z h a .byte vs) {j x : Int32} (i : Nat) (hj : j.toInt = i) (hi : i < vs.length) (x' : Int32) (hn : nar .byte x = x') (hd : decode c.code pc = .ok (.bastore, 1))
    (k : ∀ T' h', Stand p l e R s m args below meth c T' (locs ++ [⟨a, i⟩]) cells slots → T'.heap = h' → Wr h h' a i (.int x') → Ar Z h' a .byte (vs.set i (.int x')) → Goes p.tables e below (T'.setTop (mkF m (pc + 1) Ls st)) P) : Goes p.tables e below (T.setTop (mkF m pc Ls (.int x :: .int j :: .ref a :: st))) P := by
  have A' := A
  obtain ⟨cl, A, hs, hl, -⟩ := A
  obtain ⟨T', h', X', e', W', st'⟩ := stB X hx hZ eT A (own_in hj hs hi) (g := mkF m pc Ls (.int x :: .int j :: .ref a :: st)) rfl rfl hd
  rw [(own_nat hj).1, hn] at W'
  rw [(own_nat hj).1] at X'
  exact (k T' h' X' e' W' (A'.set W' (by rw [← hn]; exact fits_nar_byte x))).of st'
theorem g_zastore (X : Stand p l e R s m args below meth c T locs cells slots) (hx : p.tables.exec = Jvm.exec) (hZ : Z.Warmed39 s.vm) (eT : T.heap = h) (A : Ar Z h a .boolean vs) {j x : Int32} (i : Nat) (hj : j.toInt = i) (hi : i < vs.length) (x' : Int32) (hn : nar .boolean x = x') (hd : decode c.code pc = .ok (.bastore, 1))
    (k : ∀ T' h', Stand p l e R s m args below meth c T' (locs ++ [⟨a, i⟩]) cells slots → T'.heap = h' → Wr h h' a i (.int x') → Ar Z h' a .boolean (vs.set i (.int x')) → Goes p.tables e below (T'.setTop (mkF m (pc + 1) Ls st)) P) : Goes p.tables e below (T.setTop (mkF m pc Ls (.int x :: .int j :: .ref a :: st))) P := by
  have A' := A
  obtain ⟨cl, A, hs, hl, -⟩ := A
  obtain ⟨T', h', X', e', W', st'⟩ := stZ X hx hZ eT A (own_in hj hs hi) (g := mkF m pc Ls (.int x :: .int j :: .ref a :: st)) rfl rfl hd
  rw [(own_nat hj).1, hn] at W'
  rw [(own_nat hj).1] at X'
  exact (k T' h' X' e' W' (A'.set W' (by rw [← hn]; exact fits_nar_bool x))).of st'
theorem g_clone (X : Stand p l e R s m args below meth c T locs cells slots) (hx : p.tables.exec = Jvm.exec) (hZ : Z.Warmed39 s.vm) {own ad : String} {index : Nat} (hown : s.vm.findClass own = some m.cls) (hml : Ls.size = c.maxLocals) (eT : T.heap = h)
    (w1 : (Jvm.Cond.methodLink own index ⟨ad, "clone", "()Ljava/lang/Object;"⟩).before a0 Z = true) (w2 : (Jvm.Cond.sameMethod ad "java/lang/Object" "clone" "()Ljava/lang/Object;").before a0 Z = true) (w3 : (Jvm.Cond.native ⟨"java/lang/Object", "clone", "()Ljava/lang/Object;"⟩).before a0 Z = true)
    (w4 : (Jvm.Cond.instanceMethod ⟨"java/lang/Object", "clone", "()Ljava/lang/Object;"⟩).before a0 Z = true) (w5 : (Jvm.Cond.selects ad ⟨ad, "clone", "()Ljava/lang/Object;"⟩ ⟨"java/lang/Object", "clone", "()Ljava/lang/Object;"⟩).before a0 Z = true) (w6 : (Jvm.Cond.castable ad "java/lang/Cloneable").before a0 Z = true)
    (A : Ar Z h a ty vs) (E : Exa Z h a ad) (hd : decode c.code pc = .ok (.invokevirtual index, 3)) (W cap : Nat) (hf : 1 ≤ R.frames) (hW : (st.map fun v => v.category).sum ≤ W) (hl : W + 14 ≤ R.locals) (hcap : vs.length ≤ cap) (hc : cells + 1 ≤ R.cells) (hsl : slots + cap ≤ R.slots)
    (k : ∀ T' h' b, b = h.size → Stand p l e R s m args below meth c T' locs (cells + 1) (slots + cap) → T'.heap = h' → Ext h h' → Ar Z h' b ty vs → Exa Z h' b ad → Goes p.tables e below (T'.setTop (mkF m (pc + 3) Ls (.ref b :: st))) P) :
    Goes p.tables e below (T.setTop (mkF m pc Ls (.ref a :: st))) P := by
  obtain ⟨cl, A, hs, hln, hft⟩ := A
  have hsz : cl.slots.size = vs.length := by rw [← hs, Array.length_toList]
  obtain ⟨T', h', X', e', Ex, A', E', st'⟩ := cloneA X hx hZ hown w1 w2 w3 w4 w5 w6 eT A E (fitC_of A (fun i hi v hv => hft v (by rw [← hs]; exact Array.mem_toList_iff.mpr (Array.mem_of_getElem? hv)))) (g := mkF m pc Ls (.ref a :: st)) rfl hml rfl hd hf (W := W) (cap := cap) (by show 2 * 0 + _ ≤ _; omega) hl (by rw [hsz]; exact hcap) hc hsl
  exact (k T' h' _ rfl X' e' Ex ⟨_, A', hs, hln, hft⟩ E').of st'
theorem g_cast (X : Stand p l e R s m args below meth c T locs cells slots) (hx : p.tables.exec = Jvm.exec) (hZ : Z.Warmed39 s.vm) {own K : String} {index : Nat} (hown : s.vm.findClass own = some m.cls) (eT : T.heap = h) (w : (Jvm.Cond.classLink own index K).before a0 Z = true) (F : Ins Z h a K true) (hd : decode c.code pc = .ok (.checkcast index, 3))
    (k : ∀ T', Stand p l e R s m args below meth c T' locs cells slots → T'.heap = h → Goes p.tables e below (T'.setTop (mkF m (pc + 3) Ls (.ref a :: st))) P) : Goes p.tables e below (T.setTop (mkF m pc Ls (.ref a :: st))) P := by
  obtain ⟨T', X', e', st'⟩ := castY X hx hZ hown w eT F (g := mkF m pc Ls (.ref a :: st)) rfl rfl hd
  exact (k T' X' e').of st'
theorem Ar.toV (F : Ar Z h a ty vs) (d : Value) : ∃ k, Arv Z h a k ty (Int32.ofNat vs.length) vs d := by
  obtain ⟨cl, A, hs, hl, hf⟩ := F
  have e1 : cl.slots.size = vs.length := by rw [← hs, Array.length_toList]
  obtain ⟨e2, q⟩ := own_nat (j := Int32.ofNat vs.length) (i := vs.length) (Int32.toInt_ofNat_of_lt (by omega))
  refine ⟨cl.cls, cl, A, rfl, by rw [e2, e1], q, fun i hi => ?_, fun i hi => ?_⟩
  · rw [← Array.getElem?_toList, hs, List.getD_eq_getElem?_getD, List.getElem?_eq_getElem (by omega)]; rfl
  · rw [List.getD_eq_getElem?_getD, List.getElem?_eq_getElem (by omega)]; exact hf _ (List.getElem_mem _)
theorem Ar.ofV {k : ClassId} {z : Int32} {d : Value} (F : Arv Z h a k ty z vs d) (hl : vs.length = z.toNatClampNeg) (hb : vs.length < 2 ^ 31) : Ar Z h a ty vs := by
  obtain ⟨cl, A, -, hs, -, H, G⟩ := F
  have e : cl.slots.toList = vs := by
    apply List.ext_getElem?
    intro i
    by_cases hi : i < cl.slots.size
    · rw [Array.getElem?_toList, H i hi, List.getD_eq_getElem?_getD, List.getElem?_eq_getElem (by omega)]; rfl
    · rw [List.getElem?_eq_none (by rw [Array.length_toList]; omega), List.getElem?_eq_none (by omega)]
  refine ⟨cl, A, e, hb, fun v hv => ?_⟩
  obtain ⟨i, hi, rfl⟩ := List.getElem_of_mem hv
  have q := G i (by omega)
  rwa [List.getD_eq_getElem?_getD, List.getElem?_eq_getElem hi] at q
theorem own_rangeTake (vs : List Value) (d : Value) (n : Nat) (hn : n ≤ vs.length) : (List.range n).map (fun i => vs.getD (0 + i) d) = vs.take n := by
  apply List.ext_getElem
  · simp; omega
  · intro i h1 h2
    simp at h1 h2
    simp [List.getElem?_eq_getElem (show i < vs.length by omega)]
theorem g_acopy (X : Stand p l e R s m args below meth c T locs cells slots) (hx : p.tables.exec = Jvm.exec) (hZ : Z.Warmed39 s.vm) {own : String} {index : Nat} (hown : s.vm.findClass own = some m.cls) (hml : Ls.size = c.maxLocals) (eT : T.heap = h)
    (w1 : (Jvm.Cond.methodLink own index Jvm.Stand.acN).before a0 Z = true) (w2 : (Jvm.Cond.native Jvm.Stand.acN).before a0 Z = true) (w3 : (Jvm.Cond.static Jvm.Stand.acN).before a0 Z = true) (w4 : (Jvm.Cond.initialized "java/lang/System").before a0 Z = true)
    {vd : List Value} (A : Ar Z h a ty vs) (B : Ar Z h b ty vd) (hp : refKind ty = false) {nn : Int32} {n : Nat} (hn : nn.toInt = n) (h1 : n ≤ vs.length) (h2 : n ≤ vd.length) {n0 : Nat} (N : Fr n0 locs) (ge : n0 ≤ b) (hd : decode c.code pc = .ok (.invokestatic index, 3))
    (W : Nat) (hf : 1 ≤ R.frames) (hW : (st.map fun v => v.category).sum ≤ W) (hlo : W + (nativeFrameWords "java/lang/System" "arraycopy" 5 + 11) ≤ R.locals)
    (k : ∀ T' h' L, Stand p l e R s m args below meth c T' L cells slots → T'.heap = h' → Fr n0 L → Keep h h' [b] → Ar Z h' b ty (vs.take n ++ vd.drop n) → Goes p.tables e below (T'.setTop (mkF m (pc + 3) Ls st)) P) :
    Goes p.tables e below (T.setTop (mkF m pc Ls (.int nn :: .int 0 :: .ref b :: .int 0 :: .ref a :: st))) P := by
  obtain ⟨k1, A1⟩ := A.toV .null
  obtain ⟨k2, B1⟩ := B.toV .null
  obtain ⟨en, qn⟩ := own_nat hn
  have lv : vs.length < 2 ^ 31 := by obtain ⟨_, _, _, q, _⟩ := A; exact q
  have ld : vd.length < 2 ^ 31 := by obtain ⟨_, _, _, q, _⟩ := B; exact q
  have ev : (Int32.ofNat vs.length).toNatClampNeg = vs.length := (own_nat (Int32.toInt_ofNat_of_lt (by omega))).1
  have ed : (Int32.ofNat vd.length).toNatClampNeg = vd.length := (own_nat (Int32.toInt_ofNat_of_lt (by omega))).1
  have e0 : (0 : Int32).toNatClampNeg = 0 := rfl
  obtain ⟨T', h', L, X', e', N', K', B', st'⟩ := cpA X hx hZ hown w1 w2 w3 w4 eT A1 B1 (sp := 0) (dp := 0) (nn := nn) (Or.inl ⟨rfl, hp⟩) (by decide) (by decide) qn (by rw [e0, en, ev]; omega) (by rw [e0, en, ed]; omega) rfl (by rw [e0, en]; omega) N ge (g := mkF m pc Ls (.int nn :: .int 0 :: .ref b :: .int 0 :: .ref a :: st)) rfl hml rfl hd hf (W := W) (by show 2 * 0 + _ ≤ _; omega) hlo
  rw [e0, en, own_rangeTake vs _ n h1, List.take_zero, List.nil_append, Nat.zero_add] at B'
  have hlen : (vs.take n ++ vd.drop n).length = vd.length := by rw [List.length_append, List.length_take, List.length_drop]; omega
  exact (k T' h' L X' e' N' K' (Ar.ofV B' (by rw [hlen, ed]) (by rw [hlen]; exact ld))).of st'
end Arrays
theorem own_nst {a : Addr} {K : String} (E : Exa Z h a K) : ∀ c : Cell, h[a]? = some c → c.vm.isStatics = false := fun c hc => by
  obtain ⟨cell, k, h1, -, -, h4, -⟩ := E
  cases h1.symm.trans hc
  exact h4
theorem own_stakeep {h' : Heap} {K n d : String} {v : Value} {ws : List Addr} (F : Sta Z h K n d v) (hK : Keep h h' ws) (q : ∀ x ∈ ws, ∀ c : Cell, h[x]? = some c → c.vm.isStatics = false) : Sta Z h' K n d v := by
  obtain ⟨cf, i, k, f, sa, cell, h1, h2, h3, h4, h5, h6, h7⟩ := F
  exact ⟨cf, i, k, f, sa, cell, h1, h2, h3, h4, hK.2.1 sa cell h5 (fun hm => by rw [q sa hm cell h5] at h6; cases h6), h6, h7⟩
/-! words on statics -/
section Words
variable {first : State} {o : Option Outcome} {idx : List Nat} {ta tb : Term}
theorem own_eqR {y : Addr} (h : (Jvm.Cond.eq ta tb).value args first o s idx = some true) (hb : tb.eval args first o idx s = some (.ref y)) : ta.eval args first o idx s = some (.ref y) := by
  obtain ⟨x, z, ha, hb', k1, k2⟩ := cmp_v (Or.inl h)
  cases hb.symm.trans hb'
  have e := gotT (eq_R ha hb k2.2 rfl) h
  rw [ha, e]
theorem own_eqI {y : Int32} (h : (Jvm.Cond.eq ta tb).value args first o s idx = some true) (hb : tb.eval args first o idx s = some (.int y)) : ta.eval args first o idx s = some (.int y) := by
  obtain ⟨x, z, ha, hb', k1, k2⟩ := cmp_v (Or.inl h)
  cases hb.symm.trans hb'
  obtain ⟨w, rfl⟩ := k2
  simp [Jvm.Cond.value, ha, hb] at h
  rw [ha, h]
end Words
end Walk
end Jvm.OwnW
namespace Jvm.Pilot.@@N@@
open Jvm Jvm.ClassFile Sem Op Lib Jvm.Free Jvm.Stand Jvm.LawKit Jvm.RoadKit Bundle Jvm.OwnW Jvm.Pilot.@@N@@.Jvm.D
theorem d5_0 : decode jdk_29_method_59_code 0 = .ok (.iload_n 0, 1) := by decide +kernel
theorem d5_1 : decode jdk_29_method_59_code 1 = .ok (.ifCond .ge 8, 3) := by decide +kernel
theorem d5_4 : decode jdk_29_method_59_code 4 = .ok (.iload_n 0, 1) := by decide +kernel
theorem d5_5 : decode jdk_29_method_59_code 5 = .ok (.ineg, 1) := by decide +kernel
theorem d5_6 : decode jdk_29_method_59_code 6 = .ok (.goto 4, 3) := by decide +kernel
theorem d5_9 : decode jdk_29_method_59_code 9 = .ok (.iload_n 0, 1) := by decide +kernel
theorem d5_10 : decode jdk_29_method_59_code 10 = .ok (.ireturn, 1) := by decide +kernel
theorem pd_5 : parseMethodDescriptor "(I)I" = some ⟨[.int], some .int⟩ := by decide +kernel
theorem ef_5 (m : MethodId) (p0 : Int32) : entryFrame m #[(.int p0)] 1 = mkF m 0 #[.val (.int p0)] [] := by first | (simp [entryFrame, mkF, argsToLocals, Value.category]; done) | rfl
def absV (p0 : Int32) : Int32 := (if p0 < 0 then (-p0) else p0)
set_option maxRecDepth 65536 in
set_option maxHeartbeats 40000000 in
theorem rmAbs (l : Launch) (Z : State) (a0 : Array Value) (hw : ∀ d ∈ tables_1, d.before a0 Z = true) (p0 : Int32) (h0 : Heap)  :
    Con l Z (⟨"java/lang/Math", "abs", "(I)I"⟩ : MethodName) jdk_29_method_59_code 1 (some .int) [] ({ frames := 0, cells := 0, slots := 0, locals := 0 } : Room) 0 0 #[(.int p0)] h0 (fun v h L => v = some (.int (absV p0)) ∧ h = h0 ∧ L = []) := by
  refine Con.body (Jvm.Free.JP.mathPlain rfl (by decide +kernel)) ?_
  intro p e s m below meth c T0 hx hby hml hown hnm hZ hret hlk X0 e0
  refine Goes.cast (ef_5 m p0) ?_
  show Goes p.tables e below (T0.setTop (mkF m 0 #[.val (.int p0)] [])) _
  refine g_iloadN X0 hx (hb hby d5_0) rfl ?_
  show Goes p.tables e below (T0.setTop (mkF m 1 #[.val (.int p0)] [(.int p0)])) _
  refine g_if_ge X0 hx (hb hby d5_1) (by decide) (pc' := 9) (by decide) (fun c1 => ?_) (fun c1 => ?_)
  · skip
    show Goes p.tables e below (T0.setTop (mkF m 9 #[.val (.int p0)] [])) _
    refine g_iloadN X0 hx (hb hby d5_9) rfl ?_
    show Goes p.tables e below (T0.setTop (mkF m 10 #[.val (.int p0)] [(.int p0)])) _
    exact g_retI X0 hx hret hlk (hb hby d5_10) (by decide) (by decide) ⟨by rw [absV, if_neg c1], e0, rfl⟩
  · skip
    show Goes p.tables e below (T0.setTop (mkF m 4 #[.val (.int p0)] [])) _
    refine g_iloadN X0 hx (hb hby d5_4) rfl ?_
    show Goes p.tables e below (T0.setTop (mkF m 5 #[.val (.int p0)] [(.int p0)])) _
    refine g_ineg X0 hx (hb hby d5_5) ?_
    show Goes p.tables e below (T0.setTop (mkF m 6 #[.val (.int p0)] [(.int (-p0))])) _
    refine g_goto X0 hx (hb hby d5_6) (by decide) (pc' := 10) (by decide) ?_
    show Goes p.tables e below (T0.setTop (mkF m 10 #[.val (.int p0)] [(.int (-p0))])) _
    exact g_retI X0 hx hret hlk (hb hby d5_10) (by decide) (by decide) ⟨by rw [absV, if_pos c1], e0, rfl⟩
theorem d4_0 : decode prog_34_method_4_code 0 = .ok (.iload_n 1, 1) := by decide +kernel
theorem d4_1 : decode prog_34_method_4_code 1 = .ok (.ifCond .ne 11, 3) := by decide +kernel
theorem d4_4 : decode prog_34_method_4_code 4 = .ok (.iload_n 0, 1) := by decide +kernel
theorem d4_5 : decode prog_34_method_4_code 5 = .ok (.iload_n 0, 1) := by decide +kernel
theorem d4_6 : decode prog_34_method_4_code 6 = .ok (.imul, 1) := by decide +kernel
theorem d4_7 : decode prog_34_method_4_code 7 = .ok (.iconst 1, 1) := by decide +kernel
theorem d4_8 : decode prog_34_method_4_code 8 = .ok (.isub, 1) := by decide +kernel
theorem d4_9 : decode prog_34_method_4_code 9 = .ok (.goto 6, 3) := by decide +kernel
theorem d4_12 : decode prog_34_method_4_code 12 = .ok (.iload_n 1, 1) := by decide +kernel
theorem d4_13 : decode prog_34_method_4_code 13 = .ok (.iconst 1, 1) := by decide +kernel
theorem d4_14 : decode prog_34_method_4_code 14 = .ok (.isub, 1) := by decide +kernel
theorem d4_15 : decode prog_34_method_4_code 15 = .ok (.ireturn, 1) := by decide +kernel
theorem pd_4 : parseMethodDescriptor "(II)I" = some ⟨[.int, .int], some .int⟩ := by decide +kernel
theorem ef_4 (m : MethodId) (p0 : Int32) (p1 : Int32) : entryFrame m #[(.int p0), (.int p1)] 2 = mkF m 0 #[.val (.int p0), .val (.int p1)] [] := by first | (simp [entryFrame, mkF, argsToLocals, Value.category]; done) | rfl
def goalV (p0 : Int32) (p1 : Int32) : Int32 := (if p1 = 0 then ((p0 * p0) - (1 : Int32)) else (p1 - (1 : Int32)))
set_option maxRecDepth 65536 in
set_option maxHeartbeats 40000000 in
theorem rmGo (l : Launch) (Z : State) (a0 : Array Value) (hw : ∀ d ∈ tables_1, d.before a0 Z = true) (p0 : Int32) (p1 : Int32) (h0 : Heap)  :
    Con l Z (⟨"com/example/slidewise/slidewise/model/Puzzle", "goalCell", "(II)I"⟩ : MethodName) prog_34_method_4_code 2 (some .int) [] ({ frames := 0, cells := 0, slots := 0, locals := 0 } : Room) 0 0 #[(.int p0), (.int p1)] h0 (fun v h L => v = some (.int (goalV p0 p1)) ∧ h = h0 ∧ L = []) := by
  refine Con.body (plainFor_of_name (by first | (simp [plainName, overriddenIn]; done) | decide +kernel)) ?_
  intro p e s m below meth c T0 hx hby hml hown hnm hZ hret hlk X0 e0
  refine Goes.cast (ef_4 m p0 p1) ?_
  show Goes p.tables e below (T0.setTop (mkF m 0 #[.val (.int p0), .val (.int p1)] [])) _
  refine g_iloadN X0 hx (hb hby d4_0) rfl ?_
  show Goes p.tables e below (T0.setTop (mkF m 1 #[.val (.int p0), .val (.int p1)] [(.int p1)])) _
  refine g_if_ne X0 hx (hb hby d4_1) (by decide) (pc' := 12) (by decide) (fun c1 => ?_) (fun c1 => ?_)
  · skip
    show Goes p.tables e below (T0.setTop (mkF m 12 #[.val (.int p0), .val (.int p1)] [])) _
    refine g_iloadN X0 hx (hb hby d4_12) rfl ?_
    show Goes p.tables e below (T0.setTop (mkF m 13 #[.val (.int p0), .val (.int p1)] [(.int p1)])) _
    refine g_iconst X0 hx (1 : Int32) (hb hby d4_13) rfl ?_
    show Goes p.tables e below (T0.setTop (mkF m 14 #[.val (.int p0), .val (.int p1)] [(.int (1 : Int32)), (.int p1)])) _
    refine g_isub X0 hx (hb hby d4_14) ?_
    show Goes p.tables e below (T0.setTop (mkF m 15 #[.val (.int p0), .val (.int p1)] [(.int (p1 - (1 : Int32)))])) _
    exact g_retI X0 hx hret hlk (hb hby d4_15) (by decide) (by decide) ⟨by rw [goalV, if_neg c1], e0, rfl⟩
  · skip
    show Goes p.tables e below (T0.setTop (mkF m 4 #[.val (.int p0), .val (.int p1)] [])) _
    refine g_iloadN X0 hx (hb hby d4_4) rfl ?_
    show Goes p.tables e below (T0.setTop (mkF m 5 #[.val (.int p0), .val (.int p1)] [(.int p0)])) _
    refine g_iloadN X0 hx (hb hby d4_5) rfl ?_
    show Goes p.tables e below (T0.setTop (mkF m 6 #[.val (.int p0), .val (.int p1)] [(.int p0), (.int p0)])) _
    refine g_imul X0 hx (hb hby d4_6) ?_
    show Goes p.tables e below (T0.setTop (mkF m 7 #[.val (.int p0), .val (.int p1)] [(.int (p0 * p0))])) _
    refine g_iconst X0 hx (1 : Int32) (hb hby d4_7) rfl ?_
    show Goes p.tables e below (T0.setTop (mkF m 8 #[.val (.int p0), .val (.int p1)] [(.int (1 : Int32)), (.int (p0 * p0))])) _
    refine g_isub X0 hx (hb hby d4_8) ?_
    show Goes p.tables e below (T0.setTop (mkF m 9 #[.val (.int p0), .val (.int p1)] [(.int ((p0 * p0) - (1 : Int32)))])) _
    refine g_goto X0 hx (hb hby d4_9) (by decide) (pc' := 15) (by decide) ?_
    show Goes p.tables e below (T0.setTop (mkF m 15 #[.val (.int p0), .val (.int p1)] [(.int ((p0 * p0) - (1 : Int32)))])) _
    exact g_retI X0 hx hret hlk (hb hby d4_15) (by decide) (by decide) ⟨by rw [goalV, if_pos c1], e0, rfl⟩
theorem d3_0 : decode prog_34_method_5_code 0 = .ok (.iload_n 0, 1) := by decide +kernel
theorem d3_1 : decode prog_34_method_5_code 1 = .ok (.iload_n 1, 1) := by decide +kernel
theorem d3_2 : decode prog_34_method_5_code 2 = .ok (.invokestatic 44, 3) := by decide +kernel
theorem d3_5 : decode prog_34_method_5_code 5 = .ok (.istore_n 3, 1) := by decide +kernel
theorem d3_6 : decode prog_34_method_5_code 6 = .ok (.iload_n 3, 1) := by decide +kernel
theorem d3_7 : decode prog_34_method_5_code 7 = .ok (.iload_n 0, 1) := by decide +kernel
theorem d3_8 : decode prog_34_method_5_code 8 = .ok (.idiv, 1) := by decide +kernel
theorem d3_9 : decode prog_34_method_5_code 9 = .ok (.iload_n 2, 1) := by decide +kernel
theorem d3_10 : decode prog_34_method_5_code 10 = .ok (.iload_n 0, 1) := by decide +kernel
theorem d3_11 : decode prog_34_method_5_code 11 = .ok (.idiv, 1) := by decide +kernel
theorem d3_12 : decode prog_34_method_5_code 12 = .ok (.isub, 1) := by decide +kernel
theorem d3_13 : decode prog_34_method_5_code 13 = .ok (.invokestatic 52, 3) := by decide +kernel
theorem d3_16 : decode prog_34_method_5_code 16 = .ok (.iload_n 3, 1) := by decide +kernel
theorem d3_17 : decode prog_34_method_5_code 17 = .ok (.iload_n 0, 1) := by decide +kernel
theorem d3_18 : decode prog_34_method_5_code 18 = .ok (.irem, 1) := by decide +kernel
theorem d3_19 : decode prog_34_method_5_code 19 = .ok (.iload_n 2, 1) := by decide +kernel
theorem d3_20 : decode prog_34_method_5_code 20 = .ok (.iload_n 0, 1) := by decide +kernel
theorem d3_21 : decode prog_34_method_5_code 21 = .ok (.irem, 1) := by decide +kernel
theorem d3_22 : decode prog_34_method_5_code 22 = .ok (.isub, 1) := by decide +kernel
theorem d3_23 : decode prog_34_method_5_code 23 = .ok (.invokestatic 52, 3) := by decide +kernel
theorem d3_26 : decode prog_34_method_5_code 26 = .ok (.iadd, 1) := by decide +kernel
theorem d3_27 : decode prog_34_method_5_code 27 = .ok (.ireturn, 1) := by decide +kernel
theorem pd_3 : parseMethodDescriptor "(III)I" = some ⟨[.int, .int, .int], some .int⟩ := by decide +kernel
theorem ef_3 (m : MethodId) (p0 : Int32) (p1 : Int32) (p2 : Int32) : entryFrame m #[(.int p0), (.int p1), (.int p2)] 4 = mkF m 0 #[.val (.int p0), .val (.int p1), .val (.int p2), .unset] [] := by first | (simp [entryFrame, mkF, argsToLocals, Value.category]; done) | rfl
def distV (s n c : Int32) : Int32 := absV (goalV s n / s - c / s) + absV (goalV s n % s - c % s)
set_option maxRecDepth 65536 in
set_option maxHeartbeats 40000000 in
theorem rmDi (l : Launch) (Z : State) (a0 : Array Value) (hw : ∀ d ∈ tables_1, d.before a0 Z = true) (p0 : Int32) (p1 : Int32) (p2 : Int32) (h0 : Heap) (hs : p0 ≠ 0) :
    Con l Z (⟨"com/example/slidewise/slidewise/model/Puzzle", "distance", "(III)I"⟩ : MethodName) prog_34_method_5_code 4 (some .int) [] ({ frames := 1, cells := 0, slots := 0, locals := 13 } : Room) 0 0 #[(.int p0), (.int p1), (.int p2)] h0 (fun v h L => v = some (.int (distV p0 p1 p2)) ∧ h = h0 ∧ L = []) := by
  refine Con.body (plainFor_of_name (by first | (simp [plainName, overriddenIn]; done) | decide +kernel)) ?_
  intro p e s m below meth c T0 hx hby hml hown hnm hZ hret hlk X0 e0
  refine Goes.cast (ef_3 m p0 p1 p2) ?_
  show Goes p.tables e below (T0.setTop (mkF m 0 #[.val (.int p0), .val (.int p1), .val (.int p2), .unset] [])) _
  refine g_iloadN X0 hx (hb hby d3_0) rfl ?_
  show Goes p.tables e below (T0.setTop (mkF m 1 #[.val (.int p0), .val (.int p1), .val (.int p2), .unset] [(.int p0)])) _
  refine g_iloadN X0 hx (hb hby d3_1) rfl ?_
  show Goes p.tables e below (T0.setTop (mkF m 2 #[.val (.int p0), .val (.int p1), .val (.int p2), .unset] [(.int p1), (.int p0)])) _
  refine g_callS X0 hx hZ hown (by rw [hml]; rfl) e0 (hw _ (List.mem_of_getElem? (i := 20) rfl)) (hw _ (List.mem_of_getElem? (i := 21) rfl)) (hw _ (List.mem_of_getElem? (i := 18) rfl)) (hw _ (List.mem_of_getElem? (i := 22) rfl)) (rmGo l Z a0 hw p0 p1 h0) [(.int p0), (.int p1)] rfl [] rfl (lenOf pd_4 rfl) (hb hby d3_2) (by decide) 0 (by decide) (by decide) (by first | decide | exact Nat.le_refl _) (by decide) (by decide) (fun v T1 L1 X1 hQ1 => ?_)
  obtain ⟨rfl, e1, rfl⟩ := hQ1
  show Goes p.tables e below (T1.setTop (mkF m 5 #[.val (.int p0), .val (.int p1), .val (.int p2), .unset] [(.int (goalV p0 p1))])) _
  obtain ⟨v2, hv2⟩ : ∃ z : Int32, z = (goalV p0 p1) := ⟨_, rfl⟩
  refine g_nameI hv2 ?_
  show Goes p.tables e below (T1.setTop (mkF m 5 #[.val (.int p0), .val (.int p1), .val (.int p2), .unset] [(.int v2)])) _
  refine g_istoreN X1 hx (hb hby d3_5) (l' := #[.val (.int p0), .val (.int p1), .val (.int p2), .val (.int v2)]) rfl ?_
  show Goes p.tables e below (T1.setTop (mkF m 6 #[.val (.int p0), .val (.int p1), .val (.int p2), .val (.int v2)] [])) _
  refine g_iloadN X1 hx (hb hby d3_6) rfl ?_
  show Goes p.tables e below (T1.setTop (mkF m 7 #[.val (.int p0), .val (.int p1), .val (.int p2), .val (.int v2)] [(.int v2)])) _
  refine g_iloadN X1 hx (hb hby d3_7) rfl ?_
  show Goes p.tables e below (T1.setTop (mkF m 8 #[.val (.int p0), .val (.int p1), .val (.int p2), .val (.int v2)] [(.int p0), (.int v2)])) _
  refine g_idiv X1 hx (hb hby d3_8) hs ?_
  show Goes p.tables e below (T1.setTop (mkF m 9 #[.val (.int p0), .val (.int p1), .val (.int p2), .val (.int v2)] [(.int (v2 / p0))])) _
  refine g_iloadN X1 hx (hb hby d3_9) rfl ?_
  show Goes p.tables e below (T1.setTop (mkF m 10 #[.val (.int p0), .val (.int p1), .val (.int p2), .val (.int v2)] [(.int p2), (.int (v2 / p0))])) _
  refine g_iloadN X1 hx (hb hby d3_10) rfl ?_
  show Goes p.tables e below (T1.setTop (mkF m 11 #[.val (.int p0), .val (.int p1), .val (.int p2), .val (.int v2)] [(.int p0), (.int p2), (.int (v2 / p0))])) _
  refine g_idiv X1 hx (hb hby d3_11) hs ?_
  show Goes p.tables e below (T1.setTop (mkF m 12 #[.val (.int p0), .val (.int p1), .val (.int p2), .val (.int v2)] [(.int (p2 / p0)), (.int (v2 / p0))])) _
  refine g_isub X1 hx (hb hby d3_12) ?_
  show Goes p.tables e below (T1.setTop (mkF m 13 #[.val (.int p0), .val (.int p1), .val (.int p2), .val (.int v2)] [(.int ((v2 / p0) - (p2 / p0)))])) _
  refine g_callS X1 hx hZ hown (by rw [hml]; rfl) e1 (hw _ (List.mem_of_getElem? (i := 23) rfl)) (hw _ (List.mem_of_getElem? (i := 24) rfl)) (hw _ (List.mem_of_getElem? (i := 25) rfl)) (hw _ (List.mem_of_getElem? (i := 26) rfl)) (rmAbs l Z a0 hw ((v2 / p0) - (p2 / p0)) h0) [(.int ((v2 / p0) - (p2 / p0)))] rfl [] rfl (lenOf pd_5 rfl) (hb hby d3_13) (by decide) 0 (by decide) (by decide) (by first | decide | exact Nat.le_refl _) (by decide) (by decide) (fun v T3 L3 X3 hQ3 => ?_)
  obtain ⟨rfl, e3, rfl⟩ := hQ3
  show Goes p.tables e below (T3.setTop (mkF m 16 #[.val (.int p0), .val (.int p1), .val (.int p2), .val (.int v2)] [(.int (absV ((v2 / p0) - (p2 / p0))))])) _
  refine g_iloadN X3 hx (hb hby d3_16) rfl ?_
  show Goes p.tables e below (T3.setTop (mkF m 17 #[.val (.int p0), .val (.int p1), .val (.int p2), .val (.int v2)] [(.int v2), (.int (absV ((v2 / p0) - (p2 / p0))))])) _
  refine g_iloadN X3 hx (hb hby d3_17) rfl ?_
  show Goes p.tables e below (T3.setTop (mkF m 18 #[.val (.int p0), .val (.int p1), .val (.int p2), .val (.int v2)] [(.int p0), (.int v2), (.int (absV ((v2 / p0) - (p2 / p0))))])) _
  refine g_irem X3 hx (hb hby d3_18) hs ?_
  show Goes p.tables e below (T3.setTop (mkF m 19 #[.val (.int p0), .val (.int p1), .val (.int p2), .val (.int v2)] [(.int (v2 % p0)), (.int (absV ((v2 / p0) - (p2 / p0))))])) _
  refine g_iloadN X3 hx (hb hby d3_19) rfl ?_
  show Goes p.tables e below (T3.setTop (mkF m 20 #[.val (.int p0), .val (.int p1), .val (.int p2), .val (.int v2)] [(.int p2), (.int (v2 % p0)), (.int (absV ((v2 / p0) - (p2 / p0))))])) _
  refine g_iloadN X3 hx (hb hby d3_20) rfl ?_
  show Goes p.tables e below (T3.setTop (mkF m 21 #[.val (.int p0), .val (.int p1), .val (.int p2), .val (.int v2)] [(.int p0), (.int p2), (.int (v2 % p0)), (.int (absV ((v2 / p0) - (p2 / p0))))])) _
  refine g_irem X3 hx (hb hby d3_21) hs ?_
  show Goes p.tables e below (T3.setTop (mkF m 22 #[.val (.int p0), .val (.int p1), .val (.int p2), .val (.int v2)] [(.int (p2 % p0)), (.int (v2 % p0)), (.int (absV ((v2 / p0) - (p2 / p0))))])) _
  refine g_isub X3 hx (hb hby d3_22) ?_
  show Goes p.tables e below (T3.setTop (mkF m 23 #[.val (.int p0), .val (.int p1), .val (.int p2), .val (.int v2)] [(.int ((v2 % p0) - (p2 % p0))), (.int (absV ((v2 / p0) - (p2 / p0))))])) _
  refine g_callS X3 hx hZ hown (by rw [hml]; rfl) e3 (hw _ (List.mem_of_getElem? (i := 23) rfl)) (hw _ (List.mem_of_getElem? (i := 24) rfl)) (hw _ (List.mem_of_getElem? (i := 25) rfl)) (hw _ (List.mem_of_getElem? (i := 26) rfl)) (rmAbs l Z a0 hw ((v2 % p0) - (p2 % p0)) h0) [(.int ((v2 % p0) - (p2 % p0)))] rfl [(.int (absV ((v2 / p0) - (p2 / p0))))] rfl (lenOf pd_5 rfl) (hb hby d3_23) (by decide) 1 (by decide) (by decide) (by first | decide | exact Nat.le_refl _) (by decide) (by decide) (fun v T4 L4 X4 hQ4 => ?_)
  obtain ⟨rfl, e4, rfl⟩ := hQ4
  show Goes p.tables e below (T4.setTop (mkF m 26 #[.val (.int p0), .val (.int p1), .val (.int p2), .val (.int v2)] [(.int (absV ((v2 % p0) - (p2 % p0)))), (.int (absV ((v2 / p0) - (p2 / p0))))])) _
  refine g_iadd X4 hx (hb hby d3_26) ?_
  show Goes p.tables e below (T4.setTop (mkF m 27 #[.val (.int p0), .val (.int p1), .val (.int p2), .val (.int v2)] [(.int ((absV ((v2 / p0) - (p2 / p0))) + (absV ((v2 % p0) - (p2 % p0)))))])) _
  exact g_retI X4 hx hret hlk (hb hby d3_27) (by decide) (by decide) ⟨by subst_vars; rfl, e4, rfl⟩
def dt (side : Int32) (i j : Nat) : Int32 := if i = 0 then 0 else distV side (Int32.ofNat i) (Int32.ofNat j)
def sumV (f : Nat → Int32) : Nat → Int32
  | 0 => 0
  | k + 1 => sumV f k + f k
theorem own_of {n : Nat} (h : n < 2147483648) : (Int32.ofNat n).toInt = n := Int32.toInt_ofNat_of_lt (by omega)
theorem own_succ (n : Nat) : Int32.ofNat n + (1 : Int32) = Int32.ofNat (n + 1) := by
  rw [show (1 : Int32) = Int32.ofNat 1 from rfl, ← Int32.ofNat_add]
theorem own_lin {x y z : Int32} {a b d : Nat} (hx : x.toInt = a) (hy : y.toInt = b) (hz : z.toInt = d) (ba : a ≤ 100) (bb : b ≤ 100) (bd : d ≤ 100) : (x * y + z).toInt = (a * b + d : Nat) := by
  have m := c_imul x y
  have s := c_iadd (x * y) z
  have r1 := rng32 (x * y)
  have r2 := rng32 (x * y + z)
  have pb : a * b ≤ 100 * 100 := Nat.mul_le_mul ba bb
  rw [hx, hy, ← Int.natCast_mul] at m
  generalize a * b = q at *
  omega
theorem own_mul {x y : Int32} {a b : Nat} (hx : x.toInt = a) (hy : y.toInt = b) (ba : a ≤ 100) (bb : b ≤ 100) : (x * y).toInt = (a * b : Nat) := by
  have m := c_imul x y
  have r1 := rng32 (x * y)
  have pb : a * b ≤ 100 * 100 := Nat.mul_le_mul ba bb
  rw [hx, hy, ← Int.natCast_mul] at m
  generalize a * b = q at *
  omega
theorem own_idx {i j n c s : Nat} (hj : j < s) (hc : c < s) (h : i * s + j = n * s + c) : i = n ∧ j = c := by
  have hs : 0 < s := by omega
  have e1 : (i * s + j) / s = i := by rw [Nat.mul_comm, Nat.mul_add_div hs, Nat.div_eq_of_lt hj, Nat.add_zero]
  have e2 : (n * s + c) / s = n := by rw [Nat.mul_comm, Nat.mul_add_div hs, Nat.div_eq_of_lt hc, Nat.add_zero]
  have e3 : i = n := by rw [← e1, ← e2, h]
  subst e3
  exact ⟨rfl, by omega⟩
theorem own_inb {i j s : Nat} (hi : i < s) (hj : j < s) : i * s + j < s * s := by
  have : (i + 1) * s ≤ s * s := Nat.mul_le_mul_right s hi
  rw [Nat.add_mul, Nat.one_mul] at this
  omega
/-- the table up to row n, cell c -/
def TI (side : Int32) (S n c : Nat) (ds : List Value) : Prop := ds.length = S * S ∧ ∀ i j, i < S → j < S → (i < n ∨ (i = n ∧ j < c)) → ds[i * S + j]? = some (.int (dt side i j))
theorem TI.set {side : Int32} {S n c : Nat} {ds : List Value} (h : TI side S n c ds) (hn : n < S) (hc : c < S) (h1 : 1 ≤ n) {v : Int32} (hv : v = distV side (Int32.ofNat n) (Int32.ofNat c)) : TI side S n (c + 1) (ds.set (n * S + c) (.int v)) := by
  refine ⟨by rw [List.length_set]; exact h.1, fun i j hi hj q => ?_⟩
  by_cases e : i * S + j = n * S + c
  · obtain ⟨rfl, rfl⟩ := own_idx hj hc e
    rw [List.getElem?_set_self (by rw [h.1]; exact own_inb hi hj), hv, dt, if_neg (by omega)]
  · rw [List.getElem?_set_ne (fun z => e z.symm)]
    refine h.2 i j hi hj ?_
    rcases q with q | ⟨q, r⟩
    · exact Or.inl q
    · right
      refine ⟨q, ?_⟩
      subst q
      have : j ≠ c := fun z => e (by rw [z])
      omega
theorem TI.row {side : Int32} {S n : Nat} {ds : List Value} (h : TI side S n S ds) : TI side S (n + 1) 0 ds := by
  refine ⟨h.1, fun i j hi hj q => h.2 i j hi hj ?_⟩
  rcases q with q | q <;> omega
theorem TI.first (side : Int32) (S : Nat) : TI side S 1 0 (List.replicate (S * S) (.int 0)) := by
  refine ⟨List.length_replicate, fun i j hi hj q => ?_⟩
  have e : i = 0 := by omega
  subst e
  rw [List.getElem?_replicate, if_pos (own_inb hi hj), dt, if_pos rfl]

theorem d1_0 : decode prog_52_method_1_code 0 = .ok (.aload_n 0, 1) := by decide +kernel
theorem d1_1 : decode prog_52_method_1_code 1 = .ok (.invokespecial 1, 3) := by decide +kernel
theorem d1_4 : decode prog_52_method_1_code 4 = .ok (.aload_n 0, 1) := by decide +kernel
theorem d1_5 : decode prog_52_method_1_code 5 = .ok (.iload_n 1, 1) := by decide +kernel
theorem d1_6 : decode prog_52_method_1_code 6 = .ok (.iload_n 1, 1) := by decide +kernel
theorem d1_7 : decode prog_52_method_1_code 7 = .ok (.imul, 1) := by decide +kernel
theorem d1_8 : decode prog_52_method_1_code 8 = .ok (.putfield 7, 3) := by decide +kernel
theorem d1_11 : decode prog_52_method_1_code 11 = .ok (.aload_n 0, 1) := by decide +kernel
theorem d1_12 : decode prog_52_method_1_code 12 = .ok (.aload_n 0, 1) := by decide +kernel
theorem d1_13 : decode prog_52_method_1_code 13 = .ok (.getfield 7, 3) := by decide +kernel
theorem d1_16 : decode prog_52_method_1_code 16 = .ok (.aload_n 0, 1) := by decide +kernel
theorem d1_17 : decode prog_52_method_1_code 17 = .ok (.getfield 7, 3) := by decide +kernel
theorem d1_20 : decode prog_52_method_1_code 20 = .ok (.imul, 1) := by decide +kernel
theorem d1_21 : decode prog_52_method_1_code 21 = .ok (.newarray .int, 2) := by decide +kernel
theorem d1_23 : decode prog_52_method_1_code 23 = .ok (.putfield 13, 3) := by decide +kernel
theorem d1_26 : decode prog_52_method_1_code 26 = .ok (.iconst 1, 1) := by decide +kernel
theorem d1_27 : decode prog_52_method_1_code 27 = .ok (.istore_n 3, 1) := by decide +kernel
theorem d1_28 : decode prog_52_method_1_code 28 = .ok (.iload_n 3, 1) := by decide +kernel
theorem d1_29 : decode prog_52_method_1_code 29 = .ok (.aload_n 0, 1) := by decide +kernel
theorem d1_30 : decode prog_52_method_1_code 30 = .ok (.getfield 7, 3) := by decide +kernel
theorem d1_33 : decode prog_52_method_1_code 33 = .ok (.if_icmp .ge 48, 3) := by decide +kernel
theorem d1_36 : decode prog_52_method_1_code 36 = .ok (.iconst 0, 1) := by decide +kernel
theorem d1_37 : decode prog_52_method_1_code 37 = .ok (.istore 4, 2) := by decide +kernel
theorem d1_39 : decode prog_52_method_1_code 39 = .ok (.iload 4, 2) := by decide +kernel
theorem d1_41 : decode prog_52_method_1_code 41 = .ok (.aload_n 0, 1) := by decide +kernel
theorem d1_42 : decode prog_52_method_1_code 42 = .ok (.getfield 7, 3) := by decide +kernel
theorem d1_45 : decode prog_52_method_1_code 45 = .ok (.if_icmp .ge 30, 3) := by decide +kernel
theorem d1_48 : decode prog_52_method_1_code 48 = .ok (.aload_n 0, 1) := by decide +kernel
theorem d1_49 : decode prog_52_method_1_code 49 = .ok (.getfield 13, 3) := by decide +kernel
theorem d1_52 : decode prog_52_method_1_code 52 = .ok (.iload_n 3, 1) := by decide +kernel
theorem d1_53 : decode prog_52_method_1_code 53 = .ok (.aload_n 0, 1) := by decide +kernel
theorem d1_54 : decode prog_52_method_1_code 54 = .ok (.getfield 7, 3) := by decide +kernel
theorem d1_57 : decode prog_52_method_1_code 57 = .ok (.imul, 1) := by decide +kernel
theorem d1_58 : decode prog_52_method_1_code 58 = .ok (.iload 4, 2) := by decide +kernel
theorem d1_60 : decode prog_52_method_1_code 60 = .ok (.iadd, 1) := by decide +kernel
theorem d1_61 : decode prog_52_method_1_code 61 = .ok (.iload_n 1, 1) := by decide +kernel
theorem d1_62 : decode prog_52_method_1_code 62 = .ok (.iload_n 3, 1) := by decide +kernel
theorem d1_63 : decode prog_52_method_1_code 63 = .ok (.iload 4, 2) := by decide +kernel
theorem d1_65 : decode prog_52_method_1_code 65 = .ok (.invokestatic 17, 3) := by decide +kernel
theorem d1_68 : decode prog_52_method_1_code 68 = .ok (.iastore, 1) := by decide +kernel
theorem d1_69 : decode prog_52_method_1_code 69 = .ok (.iinc 4 1, 3) := by decide +kernel
theorem d1_72 : decode prog_52_method_1_code 72 = .ok (.goto (-33), 3) := by decide +kernel
theorem d1_75 : decode prog_52_method_1_code 75 = .ok (.iinc 3 1, 3) := by decide +kernel
theorem d1_78 : decode prog_52_method_1_code 78 = .ok (.goto (-50), 3) := by decide +kernel
theorem d1_81 : decode prog_52_method_1_code 81 = .ok (.iconst 0, 1) := by decide +kernel
theorem d1_82 : decode prog_52_method_1_code 82 = .ok (.istore_n 3, 1) := by decide +kernel
theorem d1_83 : decode prog_52_method_1_code 83 = .ok (.iload_n 3, 1) := by decide +kernel
theorem d1_84 : decode prog_52_method_1_code 84 = .ok (.aload_n 0, 1) := by decide +kernel
theorem d1_85 : decode prog_52_method_1_code 85 = .ok (.getfield 7, 3) := by decide +kernel
theorem d1_88 : decode prog_52_method_1_code 88 = .ok (.if_icmp .ge 33, 3) := by decide +kernel
theorem d1_91 : decode prog_52_method_1_code 91 = .ok (.aload_n 0, 1) := by decide +kernel
theorem d1_92 : decode prog_52_method_1_code 92 = .ok (.dup, 1) := by decide +kernel
theorem d1_93 : decode prog_52_method_1_code 93 = .ok (.getfield 23, 3) := by decide +kernel
theorem d1_96 : decode prog_52_method_1_code 96 = .ok (.aload_n 0, 1) := by decide +kernel
theorem d1_97 : decode prog_52_method_1_code 97 = .ok (.getfield 13, 3) := by decide +kernel
theorem d1_100 : decode prog_52_method_1_code 100 = .ok (.aload_n 2, 1) := by decide +kernel
theorem d1_101 : decode prog_52_method_1_code 101 = .ok (.iload_n 3, 1) := by decide +kernel
theorem d1_102 : decode prog_52_method_1_code 102 = .ok (.baload, 1) := by decide +kernel
theorem d1_103 : decode prog_52_method_1_code 103 = .ok (.aload_n 0, 1) := by decide +kernel
theorem d1_104 : decode prog_52_method_1_code 104 = .ok (.getfield 7, 3) := by decide +kernel
theorem d1_107 : decode prog_52_method_1_code 107 = .ok (.imul, 1) := by decide +kernel
theorem d1_108 : decode prog_52_method_1_code 108 = .ok (.iload_n 3, 1) := by decide +kernel
theorem d1_109 : decode prog_52_method_1_code 109 = .ok (.iadd, 1) := by decide +kernel
theorem d1_110 : decode prog_52_method_1_code 110 = .ok (.iaload, 1) := by decide +kernel
theorem d1_111 : decode prog_52_method_1_code 111 = .ok (.iadd, 1) := by decide +kernel
theorem d1_112 : decode prog_52_method_1_code 112 = .ok (.putfield 23, 3) := by decide +kernel
theorem d1_115 : decode prog_52_method_1_code 115 = .ok (.iinc 3 1, 3) := by decide +kernel
theorem d1_118 : decode prog_52_method_1_code 118 = .ok (.goto (-35), 3) := by decide +kernel
theorem d1_121 : decode prog_52_method_1_code 121 = .ok (.return_, 1) := by decide +kernel
theorem pd_1 : parseMethodDescriptor "(I[B)V" = some ⟨[.int, (.array .byte)], none⟩ := by decide +kernel
theorem ef_1 (m : MethodId) (p0 : Addr) (p1 : Int32) (p2 : Addr) : entryFrame m #[(.ref p0), (.int p1), (.ref p2)] 5 = mkF m 0 #[.val (.ref p0), .val (.int p1), .val (.ref p2), .unset, .unset] [] := by first | (simp [entryFrame, mkF, argsToLocals, Value.category]; done) | rfl
set_option maxRecDepth 65536 in
set_option maxHeartbeats 40000000 in
theorem rmIni (l : Launch) (Z : State) (a0 : Array Value) (hw : ∀ d ∈ tables_1, d.before a0 Z = true) (p0 : Addr) (p1 : Int32) (p2 : Addr) (h0 : Heap) (n0 : Nat) (Z0 : n0 ≤ h0.size) (sd S : Nat) (hsd : p1.toInt = sd) (hS : S = sd * sd) (h1d : 1 ≤ sd) (h4d : sd ≤ 4) (ns : List Value) (bs : Nat → Int32) (hns : ∀ c, c < S → ns[c]? = some (.int (bs c)) ∧ 0 ≤ (bs c).toInt ∧ (bs c).toInt < S) (f1 : Fld Z h0 p0 "com/example/slidewise/slidewise/search/ManhattanTracker" "squares" "I" (.int (0 : Int32))) (f2 : Fld Z h0 p0 "com/example/slidewise/slidewise/search/ManhattanTracker" "distances" "[I" .null) (f3 : Fld Z h0 p0 "com/example/slidewise/slidewise/search/ManhattanTracker" "value" "I" (.int (0 : Int32))) (E0 : Exa Z h0 p0 "com/example/slidewise/slidewise/search/ManhattanTracker") (B0 : Ar Z h0 p2 .byte ns) (ga : n0 ≤ p0) (nbp : p2 ≠ p0) :
    Con l Z (⟨"com/example/slidewise/slidewise/search/ManhattanTracker", "<init>", "(I[B)V"⟩ : MethodName) prog_52_method_1_code 5 none [] ({ frames := 2, cells := 1, slots := 256, locals := 30 } : Room) 1 256 #[(.ref p0), (.int p1), (.ref p2)] h0 (fun v h L => v = none ∧ Fr n0 L ∧ Keep h0 h [p0] ∧ ∃ d ds, n0 ≤ d ∧ h0.size ≤ d ∧ Fld Z h p0 "com/example/slidewise/slidewise/search/ManhattanTracker" "squares" "I" (.int (p1 * p1)) ∧ Fld Z h p0 "com/example/slidewise/slidewise/search/ManhattanTracker" "distances" "[I" (.ref d) ∧ Fld Z h p0 "com/example/slidewise/slidewise/search/ManhattanTracker" "value" "I" (.int (sumV (fun c => dt p1 (bs c).toInt.toNat c) S)) ∧ Ar Z h d .int ds ∧ TI p1 S S 0 ds) := by
  refine Con.body (plainFor_of_name (by first | (simp [plainName, overriddenIn]; done) | decide +kernel)) ?_
  intro p e s m below meth c T0 hx hby hml hown hnm hZ hret hlk X0 e0
  refine Goes.cast (ef_1 m p0 p1 p2) ?_
  have N0 := Fr.nil n0
  have K0 : Keep h0 h0 [p0] := Keep.refl _ _
  have hside : p1 ≠ 0 := fun z => by rw [z] at hsd; have : (0 : Int32).toInt = 0 := rfl; omega
  have hS16 : S ≤ 16 := by rw [hS]; exact Nat.mul_le_mul h4d h4d
  have hS1 : 1 ≤ S := by rw [hS]; exact Nat.mul_le_mul h1d h1d
  have hsq : (p1 * p1).toInt = (S : Nat) := by rw [hS]; exact own_mul hsd hsd (by omega) (by omega)
  show Goes p.tables e below (T0.setTop (mkF m 0 #[.val (.ref p0), .val (.int p1), .val (.ref p2), .unset, .unset] [])) _
  refine g_aloadN X0 hx (hb hby d1_0) rfl rfl ?_
  show Goes p.tables e below (T0.setTop (mkF m 1 #[.val (.ref p0), .val (.int p1), .val (.ref p2), .unset, .unset] [(.ref p0)])) _
  refine g_init0 X0 hx hZ hown (by rw [hml]; rfl) e0 (hw _ (List.mem_of_getElem? (i := 9) rfl)) (hw _ (List.mem_of_getElem? (i := 10) rfl)) (hw _ (List.mem_of_getElem? (i := 11) rfl)) (hb hby d1_1) 0 (by decide) (by first | decide | exact Nat.le_refl _) (by first | decide | exact Nat.le_refl _) (fun T1 X1 e1 => ?_)
  show Goes p.tables e below (T1.setTop (mkF m 4 #[.val (.ref p0), .val (.int p1), .val (.ref p2), .unset, .unset] [])) _
  refine g_aloadN X1 hx (hb hby d1_4) rfl rfl ?_
  show Goes p.tables e below (T1.setTop (mkF m 5 #[.val (.ref p0), .val (.int p1), .val (.ref p2), .unset, .unset] [(.ref p0)])) _
  refine g_iloadN X1 hx (hb hby d1_5) rfl ?_
  show Goes p.tables e below (T1.setTop (mkF m 6 #[.val (.ref p0), .val (.int p1), .val (.ref p2), .unset, .unset] [(.int p1), (.ref p0)])) _
  refine g_iloadN X1 hx (hb hby d1_6) rfl ?_
  show Goes p.tables e below (T1.setTop (mkF m 7 #[.val (.ref p0), .val (.int p1), .val (.ref p2), .unset, .unset] [(.int p1), (.int p1), (.ref p0)])) _
  refine g_imul X1 hx (hb hby d1_7) ?_
  show Goes p.tables e below (T1.setTop (mkF m 8 #[.val (.ref p0), .val (.int p1), .val (.ref p2), .unset, .unset] [(.int (p1 * p1)), (.ref p0)])) _
  refine g_putF X1 hx hZ hown e1 (hw _ (List.mem_of_getElem? (i := 12) rfl)) Via.refl (v' := (.int (p1 * p1))) f1 E0 (Or.inr ⟨(hw _ (List.mem_of_getElem? (i := 13) rfl)), rfl, hnm⟩) (hw _ (List.mem_of_getElem? (i := 4) rfl)) (ty := .int) (by decide) rfl rfl (hb hby d1_8) (fun T2 h2 X2 e2 W2 => ?_)
  have fx3 : Fld Z h2 p0 "com/example/slidewise/slidewise/search/ManhattanTracker" "distances" "[I" .null := Fld.other W2 f2 (Or.inr (slot_ne (t := (.array .int)) (t' := .int) (Or.inr (hw _ (List.mem_of_getElem? (i := 15) rfl))) (Or.inr (hw _ (List.mem_of_getElem? (i := 13) rfl))) (by decide) (by decide) (by decide)))
  have fx4 : Fld Z h2 p0 "com/example/slidewise/slidewise/search/ManhattanTracker" "value" "I" (.int (0 : Int32)) := Fld.other W2 f3 (Or.inr (slot_ne (t := .int) (t' := .int) (Or.inl (hw _ (List.mem_of_getElem? (i := 28) rfl))) (Or.inr (hw _ (List.mem_of_getElem? (i := 13) rfl))) (by decide) (by decide) (by decide)))
  have fx5 : Exa Z h2 p0 "com/example/slidewise/slidewise/search/ManhattanTracker" := Exa.wr W2 E0
  have fx6 : Ar Z h2 p2 .byte ns := Ar.other B0 W2 nbp
  have fx7 : Fld Z h2 p0 "com/example/slidewise/slidewise/search/ManhattanTracker" "squares" "I" (.int (p1 * p1)) := Fld.same W2 f1
  have N8 := Fr.snoc X2 N0 ga
  have Z9 : n0 ≤ h2.size := by rw [W2.size]; exact Z0
  have K10 : Keep h0 h2 [p0] := Keep.wr K0 W2 (Or.inl (List.mem_of_getElem? (i := 0) rfl))
  show Goes p.tables e below (T2.setTop (mkF m 11 #[.val (.ref p0), .val (.int p1), .val (.ref p2), .unset, .unset] [])) _
  refine g_aloadN X2 hx (hb hby d1_11) rfl rfl ?_
  show Goes p.tables e below (T2.setTop (mkF m 12 #[.val (.ref p0), .val (.int p1), .val (.ref p2), .unset, .unset] [(.ref p0)])) _
  refine g_aloadN X2 hx (hb hby d1_12) rfl rfl ?_
  show Goes p.tables e below (T2.setTop (mkF m 13 #[.val (.ref p0), .val (.int p1), .val (.ref p2), .unset, .unset] [(.ref p0), (.ref p0)])) _
  refine g_getF X2 hx hZ hown e2 (host := "") (Or.inl (hw _ (List.mem_of_getElem? (i := 12) rfl))) Via.refl fx7 (hb hby d1_13) (fun T11 X11 e11 => ?_)
  show Goes p.tables e below (T11.setTop (mkF m 16 #[.val (.ref p0), .val (.int p1), .val (.ref p2), .unset, .unset] [(.int (p1 * p1)), (.ref p0)])) _
  refine g_aloadN X11 hx (hb hby d1_16) rfl rfl ?_
  show Goes p.tables e below (T11.setTop (mkF m 17 #[.val (.ref p0), .val (.int p1), .val (.ref p2), .unset, .unset] [(.ref p0), (.int (p1 * p1)), (.ref p0)])) _
  refine g_getF X11 hx hZ hown e11 (host := "") (Or.inl (hw _ (List.mem_of_getElem? (i := 12) rfl))) Via.refl fx7 (hb hby d1_17) (fun T12 X12 e12 => ?_)
  show Goes p.tables e below (T12.setTop (mkF m 20 #[.val (.ref p0), .val (.int p1), .val (.ref p2), .unset, .unset] [(.int (p1 * p1)), (.int (p1 * p1)), (.ref p0)])) _
  refine g_imul X12 hx (hb hby d1_20) ?_
  show Goes p.tables e below (T12.setTop (mkF m 21 #[.val (.ref p0), .val (.int p1), .val (.ref p2), .unset, .unset] [(.int ((p1 * p1) * (p1 * p1))), (.ref p0)])) _
  have hSS : S * S ≤ 256 := Nat.mul_le_mul hS16 hS16
  show Goes p.tables e below (T12.setTop (mkF m 21 #[.val (.ref p0), .val (.int p1), .val (.ref p2), .unset, .unset] [(.int ((p1 * p1) * (p1 * p1))), (.ref p0)])) _
  refine g_newarr X12 hx hZ e12 (hw _ (List.mem_of_getElem? (i := 0) rfl)) (hb hby d1_21) (n := (S * S)) (own_mul hsq hsq (by omega) (by omega)) 256 (by omega) (by decide) (by decide) (by decide) (ad := "[I") (by decide) rfl (fun T13 h13 a13 ga13 X13 e13 Ex13 Aa13 Ea13 => ?_)
  have ne14 : p0 ≠ a13 := Nat.ne_of_lt (by rw [ga13]; exact fx3.lt)
  have ne15 : p2 ≠ a13 := Nat.ne_of_lt (by rw [ga13]; exact fx6.lt)
  have ge16 : n0 ≤ a13 := by rw [ga13]; exact Z9
  have ge17 : h0.size ≤ a13 := by rw [ga13]; exact K10.1
  have fx18 : Fld Z h13 p0 "com/example/slidewise/slidewise/search/ManhattanTracker" "distances" "[I" .null := Fld.ext Ex13 fx3
  have fx19 : Fld Z h13 p0 "com/example/slidewise/slidewise/search/ManhattanTracker" "value" "I" (.int (0 : Int32)) := Fld.ext Ex13 fx4
  have fx20 : Exa Z h13 p0 "com/example/slidewise/slidewise/search/ManhattanTracker" := Exa.ext Ex13 fx5
  have fx21 : Ar Z h13 p2 .byte ns := Ar.ext fx6 Ex13
  have fx22 : Fld Z h13 p0 "com/example/slidewise/slidewise/search/ManhattanTracker" "squares" "I" (.int (p1 * p1)) := Fld.ext Ex13 fx7
  have Z23 : n0 ≤ h13.size := Nat.le_trans Z9 Ex13.1
  have K24 : Keep h0 h13 [p0] := Keep.ext K10 Ex13
  have fx25 : Ar Z h13 a13 .int (List.replicate (S * S) (.int (0 : Int32))) := Aa13
  show Goes p.tables e below (T13.setTop (mkF m 23 #[.val (.ref p0), .val (.int p1), .val (.ref p2), .unset, .unset] [(.ref a13), (.ref p0)])) _
  refine g_putF X13 hx hZ hown e13 (hw _ (List.mem_of_getElem? (i := 14) rfl)) Via.refl (v' := (.ref a13)) fx18 fx20 (Or.inr ⟨(hw _ (List.mem_of_getElem? (i := 15) rfl)), rfl, hnm⟩) (hw _ (List.mem_of_getElem? (i := 4) rfl)) (ty := (.array .int)) (by decide) rfl rfl (hb hby d1_23) (fun T26 h26 X26 e26 W26 => ?_)
  have fx27 : Fld Z h26 p0 "com/example/slidewise/slidewise/search/ManhattanTracker" "value" "I" (.int (0 : Int32)) := Fld.other W26 fx19 (Or.inr (slot_ne (t := .int) (t' := (.array .int)) (Or.inl (hw _ (List.mem_of_getElem? (i := 28) rfl))) (Or.inr (hw _ (List.mem_of_getElem? (i := 15) rfl))) (by decide) (by decide) (by decide)))
  have fx28 : Exa Z h26 p0 "com/example/slidewise/slidewise/search/ManhattanTracker" := Exa.wr W26 fx20
  have fx29 : Ar Z h26 p2 .byte ns := Ar.other fx21 W26 nbp
  have fx30 : Fld Z h26 p0 "com/example/slidewise/slidewise/search/ManhattanTracker" "squares" "I" (.int (p1 * p1)) := Fld.other W26 fx22 (Or.inr (slot_ne (t := .int) (t' := (.array .int)) (Or.inr (hw _ (List.mem_of_getElem? (i := 13) rfl))) (Or.inr (hw _ (List.mem_of_getElem? (i := 15) rfl))) (by decide) (by decide) (by decide)))
  have fx31 : Ar Z h26 a13 .int (List.replicate (S * S) (.int (0 : Int32))) := Ar.other fx25 W26 (Ne.symm ne14)
  have fx32 : Exa Z h26 a13 "[I" := Exa.wr W26 Ea13
  have fx33 : Fld Z h26 p0 "com/example/slidewise/slidewise/search/ManhattanTracker" "distances" "[I" (.ref a13) := Fld.same W26 fx18
  have N34 := Fr.snoc X26 N8 ga
  have Z35 : n0 ≤ h26.size := by rw [W26.size]; exact Z23
  have K36 : Keep h0 h26 [p0] := Keep.wr K24 W26 (Or.inl (List.mem_of_getElem? (i := 0) rfl))
  show Goes p.tables e below (T26.setTop (mkF m 26 #[.val (.ref p0), .val (.int p1), .val (.ref p2), .unset, .unset] [])) _
  refine g_iconst X26 hx (1 : Int32) (hb hby d1_26) rfl ?_
  show Goes p.tables e below (T26.setTop (mkF m 27 #[.val (.ref p0), .val (.int p1), .val (.ref p2), .unset, .unset] [(.int (1 : Int32))])) _
  refine g_istoreN X26 hx (hb hby d1_27) (l' := #[.val (.ref p0), .val (.int p1), .val (.ref p2), .val (.int (1 : Int32)), .unset]) rfl ?_
  have nbd : p2 ≠ a13 := ne15
  have npd : p0 ≠ a13 := ne14
  have gd : n0 ≤ a13 := ge16
  have g0d : h0.size ≤ a13 := ge17
  have loop3 : ∀ k c9 : Nat, ∀ (sl : Slot), S - c9 = k → c9 ≤ S → ∀ (T : State) (locs : List Loc) (h : Heap) (ds : List Value), Stand p l e ({ frames := 2, cells := 1, slots := 256, locals := 30 } : Room) s m #[(.ref p0), (.int p1), (.ref p2)] below meth c T locs (0 + 1) (0 + 256) → T.heap = h → Fr n0 locs → n0 ≤ h.size → Keep h0 h [p0] → Exa Z h p0 "com/example/slidewise/slidewise/search/ManhattanTracker" ∧ Fld Z h p0 "com/example/slidewise/slidewise/search/ManhattanTracker" "squares" "I" (.int (p1 * p1)) ∧ Fld Z h p0 "com/example/slidewise/slidewise/search/ManhattanTracker" "distances" "[I" (.ref a13) ∧ Fld Z h p0 "com/example/slidewise/slidewise/search/ManhattanTracker" "value" "I" (.int (sumV (fun c => dt p1 (bs c).toInt.toNat c) c9)) ∧ Ar Z h a13 .int ds ∧ Ar Z h p2 .byte ns → TI p1 S S 0 ds → Goes p.tables e below (T.setTop (mkF m 83 #[.val (.ref p0), .val (.int p1), .val (.ref p2), .val (.int (Int32.ofNat c9)), sl] [])) (Fin s 1 256 (fun v h L => v = none ∧ Fr n0 L ∧ Keep h0 h [p0] ∧ ∃ d ds, n0 ≤ d ∧ h0.size ≤ d ∧ Fld Z h p0 "com/example/slidewise/slidewise/search/ManhattanTracker" "squares" "I" (.int (p1 * p1)) ∧ Fld Z h p0 "com/example/slidewise/slidewise/search/ManhattanTracker" "distances" "[I" (.ref d) ∧ Fld Z h p0 "com/example/slidewise/slidewise/search/ManhattanTracker" "value" "I" (.int (sumV (fun c => dt p1 (bs c).toInt.toNat c) S)) ∧ Ar Z h d .int ds ∧ TI p1 S S 0 ds)) := by
    intro k
    induction k using Nat.strongRecOn with
    | _ k ih =>
      intro c9 sl hk hc9 T locs h ds X9 e9 N9 Z9 K9 hts hti
      obtain ⟨E9, fS, fD, fV, A9, B9⟩ := hts
      show Goes p.tables e below (T.setTop (mkF m 83 #[.val (.ref p0), .val (.int p1), .val (.ref p2), .val (.int (Int32.ofNat c9)), sl] [])) _
      refine g_iloadN X9 hx (hb hby d1_83) rfl ?_
      show Goes p.tables e below (T.setTop (mkF m 84 #[.val (.ref p0), .val (.int p1), .val (.ref p2), .val (.int (Int32.ofNat c9)), sl] [(.int (Int32.ofNat c9))])) _
      refine g_aloadN X9 hx (hb hby d1_84) rfl rfl ?_
      show Goes p.tables e below (T.setTop (mkF m 85 #[.val (.ref p0), .val (.int p1), .val (.ref p2), .val (.int (Int32.ofNat c9)), sl] [(.ref p0), (.int (Int32.ofNat c9))])) _
      refine g_getF X9 hx hZ hown e9 (host := "") (Or.inl (hw _ (List.mem_of_getElem? (i := 12) rfl))) Via.refl fS (hb hby d1_85) (fun T37 X37 e37 => ?_)
      show Goes p.tables e below (T37.setTop (mkF m 88 #[.val (.ref p0), .val (.int p1), .val (.ref p2), .val (.int (Int32.ofNat c9)), sl] [(.int (p1 * p1)), (.int (Int32.ofNat c9))])) _
      refine g_icmp_ge X37 hx (hb hby d1_88) (by decide) (pc' := 121) (by decide) (fun c88 => ?_) (fun c88 => ?_)
      · skip
        show Goes p.tables e below (T37.setTop (mkF m 121 #[.val (.ref p0), .val (.int p1), .val (.ref p2), .val (.int (Int32.ofNat c9)), sl] [])) _
        exact g_ret0 X37 hx hret hlk (hb hby d1_121) (by decide) (by decide) (by rw [e37]; exact ⟨rfl, N9, K9, a13, ds, gd, g0d, fS, fD, (by rw [show S = c9 from by have q : ¬ _ < _ := fun z => c88 (Int32.lt_iff_toInt_lt.mpr z); rw [own_of (by omega), hsq] at q; omega]; exact fV), A9, hti⟩)
      · skip
        show Goes p.tables e below (T37.setTop (mkF m 91 #[.val (.ref p0), .val (.int p1), .val (.ref p2), .val (.int (Int32.ofNat c9)), sl] [])) _
        have hlt : c9 < S := (by have q := Int32.lt_iff_toInt_lt.mp c88; rw [own_of (by omega), hsq] at q; omega)
        obtain ⟨hn1, hn2, hn3⟩ := hns c9 hlt
        have hbn : (bs c9).toInt = ((bs c9).toInt.toNat : Nat) := by omega
        show Goes p.tables e below (T37.setTop (mkF m 91 #[.val (.ref p0), .val (.int p1), .val (.ref p2), .val (.int (Int32.ofNat c9)), sl] [])) _
        refine g_aloadN X37 hx (hb hby d1_91) rfl rfl ?_
        show Goes p.tables e below (T37.setTop (mkF m 92 #[.val (.ref p0), .val (.int p1), .val (.ref p2), .val (.int (Int32.ofNat c9)), sl] [(.ref p0)])) _
        refine g_dup X37 hx (hb hby d1_92) rfl ?_
        show Goes p.tables e below (T37.setTop (mkF m 93 #[.val (.ref p0), .val (.int p1), .val (.ref p2), .val (.int (Int32.ofNat c9)), sl] [(.ref p0), (.ref p0)])) _
        refine g_getF X37 hx hZ hown e37 (host := "") (Or.inl (hw _ (List.mem_of_getElem? (i := 27) rfl))) Via.refl fV (hb hby d1_93) (fun T38 X38 e38 => ?_)
        show Goes p.tables e below (T38.setTop (mkF m 96 #[.val (.ref p0), .val (.int p1), .val (.ref p2), .val (.int (Int32.ofNat c9)), sl] [(.int (sumV (fun c => dt p1 (bs c).toInt.toNat c) c9)), (.ref p0)])) _
        refine g_aloadN X38 hx (hb hby d1_96) rfl rfl ?_
        show Goes p.tables e below (T38.setTop (mkF m 97 #[.val (.ref p0), .val (.int p1), .val (.ref p2), .val (.int (Int32.ofNat c9)), sl] [(.ref p0), (.int (sumV (fun c => dt p1 (bs c).toInt.toNat c) c9)), (.ref p0)])) _
        refine g_getF X38 hx hZ hown e38 (host := "") (Or.inl (hw _ (List.mem_of_getElem? (i := 14) rfl))) Via.refl fD (hb hby d1_97) (fun T39 X39 e39 => ?_)
        show Goes p.tables e below (T39.setTop (mkF m 100 #[.val (.ref p0), .val (.int p1), .val (.ref p2), .val (.int (Int32.ofNat c9)), sl] [(.ref a13), (.int (sumV (fun c => dt p1 (bs c).toInt.toNat c) c9)), (.ref p0)])) _
        refine g_aloadN X39 hx (hb hby d1_100) rfl rfl ?_
        show Goes p.tables e below (T39.setTop (mkF m 101 #[.val (.ref p0), .val (.int p1), .val (.ref p2), .val (.int (Int32.ofNat c9)), sl] [(.ref p2), (.ref a13), (.int (sumV (fun c => dt p1 (bs c).toInt.toNat c) c9)), (.ref p0)])) _
        refine g_iloadN X39 hx (hb hby d1_101) rfl ?_
        show Goes p.tables e below (T39.setTop (mkF m 102 #[.val (.ref p0), .val (.int p1), .val (.ref p2), .val (.int (Int32.ofNat c9)), sl] [(.int (Int32.ofNat c9)), (.ref p2), (.ref a13), (.int (sumV (fun c => dt p1 (bs c).toInt.toNat c) c9)), (.ref p0)])) _
        refine g_baload X39 hx hZ e39 B9 (i := c9) (v := (.int (bs c9))) (own_of (by omega)) hn1 (hb hby d1_102) ?_
        show Goes p.tables e below (T39.setTop (mkF m 103 #[.val (.ref p0), .val (.int p1), .val (.ref p2), .val (.int (Int32.ofNat c9)), sl] [(.int (bs c9)), (.ref a13), (.int (sumV (fun c => dt p1 (bs c).toInt.toNat c) c9)), (.ref p0)])) _
        refine g_aloadN X39 hx (hb hby d1_103) rfl rfl ?_
        show Goes p.tables e below (T39.setTop (mkF m 104 #[.val (.ref p0), .val (.int p1), .val (.ref p2), .val (.int (Int32.ofNat c9)), sl] [(.ref p0), (.int (bs c9)), (.ref a13), (.int (sumV (fun c => dt p1 (bs c).toInt.toNat c) c9)), (.ref p0)])) _
        refine g_getF X39 hx hZ hown e39 (host := "") (Or.inl (hw _ (List.mem_of_getElem? (i := 12) rfl))) Via.refl fS (hb hby d1_104) (fun T40 X40 e40 => ?_)
        show Goes p.tables e below (T40.setTop (mkF m 107 #[.val (.ref p0), .val (.int p1), .val (.ref p2), .val (.int (Int32.ofNat c9)), sl] [(.int (p1 * p1)), (.int (bs c9)), (.ref a13), (.int (sumV (fun c => dt p1 (bs c).toInt.toNat c) c9)), (.ref p0)])) _
        refine g_imul X40 hx (hb hby d1_107) ?_
        show Goes p.tables e below (T40.setTop (mkF m 108 #[.val (.ref p0), .val (.int p1), .val (.ref p2), .val (.int (Int32.ofNat c9)), sl] [(.int ((bs c9) * (p1 * p1))), (.ref a13), (.int (sumV (fun c => dt p1 (bs c).toInt.toNat c) c9)), (.ref p0)])) _
        refine g_iloadN X40 hx (hb hby d1_108) rfl ?_
        show Goes p.tables e below (T40.setTop (mkF m 109 #[.val (.ref p0), .val (.int p1), .val (.ref p2), .val (.int (Int32.ofNat c9)), sl] [(.int (Int32.ofNat c9)), (.int ((bs c9) * (p1 * p1))), (.ref a13), (.int (sumV (fun c => dt p1 (bs c).toInt.toNat c) c9)), (.ref p0)])) _
        refine g_iadd X40 hx (hb hby d1_109) ?_
        show Goes p.tables e below (T40.setTop (mkF m 110 #[.val (.ref p0), .val (.int p1), .val (.ref p2), .val (.int (Int32.ofNat c9)), sl] [(.int (((bs c9) * (p1 * p1)) + (Int32.ofNat c9))), (.ref a13), (.int (sumV (fun c => dt p1 (bs c).toInt.toNat c) c9)), (.ref p0)])) _
        refine g_iaload X40 hx hZ e40 A9 (i := ((bs c9).toInt.toNat * S + c9)) (v := (.int (dt p1 (bs c9).toInt.toNat c9))) (own_lin hbn hsq (own_of (by omega)) (by omega) (by omega) (by omega)) (hti.2 _ _ (by omega) hlt (Or.inl (by omega))) (hb hby d1_110) ?_
        show Goes p.tables e below (T40.setTop (mkF m 111 #[.val (.ref p0), .val (.int p1), .val (.ref p2), .val (.int (Int32.ofNat c9)), sl] [(.int (dt p1 (bs c9).toInt.toNat c9)), (.int (sumV (fun c => dt p1 (bs c).toInt.toNat c) c9)), (.ref p0)])) _
        refine g_iadd X40 hx (hb hby d1_111) ?_
        show Goes p.tables e below (T40.setTop (mkF m 112 #[.val (.ref p0), .val (.int p1), .val (.ref p2), .val (.int (Int32.ofNat c9)), sl] [(.int ((sumV (fun c => dt p1 (bs c).toInt.toNat c) c9) + (dt p1 (bs c9).toInt.toNat c9))), (.ref p0)])) _
        refine g_putF X40 hx hZ hown e40 (hw _ (List.mem_of_getElem? (i := 27) rfl)) Via.refl (v' := (.int ((sumV (fun c => dt p1 (bs c).toInt.toNat c) c9) + (dt p1 (bs c9).toInt.toNat c9)))) fV E9 (Or.inl (hw _ (List.mem_of_getElem? (i := 28) rfl))) (hw _ (List.mem_of_getElem? (i := 4) rfl)) (ty := .int) (by decide) rfl rfl (hb hby d1_112) (fun T41 h41 X41 e41 W41 => ?_)
        have fx42 : Fld Z h41 p0 "com/example/slidewise/slidewise/search/ManhattanTracker" "squares" "I" (.int (p1 * p1)) := Fld.other W41 fS (Or.inr (slot_ne (t := .int) (t' := .int) (Or.inr (hw _ (List.mem_of_getElem? (i := 13) rfl))) (Or.inl (hw _ (List.mem_of_getElem? (i := 28) rfl))) (by decide) (by decide) (by decide)))
        have fx43 : Fld Z h41 p0 "com/example/slidewise/slidewise/search/ManhattanTracker" "distances" "[I" (.ref a13) := Fld.other W41 fD (Or.inr (slot_ne (t := (.array .int)) (t' := .int) (Or.inr (hw _ (List.mem_of_getElem? (i := 15) rfl))) (Or.inl (hw _ (List.mem_of_getElem? (i := 28) rfl))) (by decide) (by decide) (by decide)))
        have fx44 : Exa Z h41 p0 "com/example/slidewise/slidewise/search/ManhattanTracker" := Exa.wr W41 E9
        have fx45 : Ar Z h41 p2 .byte ns := Ar.other B9 W41 nbp
        have fx46 : Ar Z h41 a13 .int ds := Ar.other A9 W41 (Ne.symm npd)
        have fx47 : Fld Z h41 p0 "com/example/slidewise/slidewise/search/ManhattanTracker" "value" "I" (.int ((sumV (fun c => dt p1 (bs c).toInt.toNat c) c9) + (dt p1 (bs c9).toInt.toNat c9))) := Fld.same W41 fV
        have N48 := Fr.snoc X41 N9 ga
        have Z49 : n0 ≤ h41.size := by rw [W41.size]; exact Z9
        have K50 : Keep h0 h41 [p0] := Keep.wr K9 W41 (Or.inl (List.mem_of_getElem? (i := 0) rfl))
        show Goes p.tables e below (T41.setTop (mkF m 115 #[.val (.ref p0), .val (.int p1), .val (.ref p2), .val (.int (Int32.ofNat c9)), sl] [])) _
        refine g_iinc X41 hx (1 : Int32) (hb hby d1_115) rfl rfl (l' := #[.val (.ref p0), .val (.int p1), .val (.ref p2), .val (.int ((Int32.ofNat c9) + (1 : Int32))), sl]) rfl ?_
        show Goes p.tables e below (T41.setTop (mkF m 118 #[.val (.ref p0), .val (.int p1), .val (.ref p2), .val (.int ((Int32.ofNat c9) + (1 : Int32))), sl] [])) _
        refine g_goto X41 hx (hb hby d1_118) (by decide) (pc' := 83) (by decide) ?_
        rw [own_succ]
        exact ih (S - (c9 + 1)) (by omega) (c9 + 1) sl rfl (by omega) _ _ _ _ X41 e41 N48 Z49 K50 ⟨fx44, fx42, fx43, fx47, fx46, fx45⟩ hti
  have loop1 : ∀ k n9 : Nat, ∀ (sl : Slot), One sl → S - n9 = k → 1 ≤ n9 → n9 ≤ S → ∀ (T : State) (locs : List Loc) (h : Heap) (ds : List Value), Stand p l e ({ frames := 2, cells := 1, slots := 256, locals := 30 } : Room) s m #[(.ref p0), (.int p1), (.ref p2)] below meth c T locs (0 + 1) (0 + 256) → T.heap = h → Fr n0 locs → n0 ≤ h.size → Keep h0 h [p0] → Exa Z h p0 "com/example/slidewise/slidewise/search/ManhattanTracker" ∧ Fld Z h p0 "com/example/slidewise/slidewise/search/ManhattanTracker" "squares" "I" (.int (p1 * p1)) ∧ Fld Z h p0 "com/example/slidewise/slidewise/search/ManhattanTracker" "distances" "[I" (.ref a13) ∧ Fld Z h p0 "com/example/slidewise/slidewise/search/ManhattanTracker" "value" "I" (.int (0 : Int32)) ∧ Ar Z h a13 .int ds ∧ Ar Z h p2 .byte ns → TI p1 S n9 0 ds → Goes p.tables e below (T.setTop (mkF m 28 #[.val (.ref p0), .val (.int p1), .val (.ref p2), .val (.int (Int32.ofNat n9)), sl] [])) (Fin s 1 256 (fun v h L => v = none ∧ Fr n0 L ∧ Keep h0 h [p0] ∧ ∃ d ds, n0 ≤ d ∧ h0.size ≤ d ∧ Fld Z h p0 "com/example/slidewise/slidewise/search/ManhattanTracker" "squares" "I" (.int (p1 * p1)) ∧ Fld Z h p0 "com/example/slidewise/slidewise/search/ManhattanTracker" "distances" "[I" (.ref d) ∧ Fld Z h p0 "com/example/slidewise/slidewise/search/ManhattanTracker" "value" "I" (.int (sumV (fun c => dt p1 (bs c).toInt.toNat c) S)) ∧ Ar Z h d .int ds ∧ TI p1 S S 0 ds)) := by
    intro k
    induction k using Nat.strongRecOn with
    | _ k ih =>
      intro n9 sl hsl hk h1n hn9 T locs h ds X9 e9 N9 Z9 K9 hts hti
      obtain ⟨E9, fS, fD, fV, A9, B9⟩ := hts
      show Goes p.tables e below (T.setTop (mkF m 28 #[.val (.ref p0), .val (.int p1), .val (.ref p2), .val (.int (Int32.ofNat n9)), sl] [])) _
      refine g_iloadN X9 hx (hb hby d1_28) rfl ?_
      show Goes p.tables e below (T.setTop (mkF m 29 #[.val (.ref p0), .val (.int p1), .val (.ref p2), .val (.int (Int32.ofNat n9)), sl] [(.int (Int32.ofNat n9))])) _
      refine g_aloadN X9 hx (hb hby d1_29) rfl rfl ?_
      show Goes p.tables e below (T.setTop (mkF m 30 #[.val (.ref p0), .val (.int p1), .val (.ref p2), .val (.int (Int32.ofNat n9)), sl] [(.ref p0), (.int (Int32.ofNat n9))])) _
      refine g_getF X9 hx hZ hown e9 (host := "") (Or.inl (hw _ (List.mem_of_getElem? (i := 12) rfl))) Via.refl fS (hb hby d1_30) (fun T51 X51 e51 => ?_)
      refine g_icmp_ge X51 hx (hb hby d1_33) (by decide) (pc' := 81) (by decide) (fun c33 => ?_) (fun c33 => ?_)
      · skip
        show Goes p.tables e below (T51.setTop (mkF m 81 #[.val (.ref p0), .val (.int p1), .val (.ref p2), .val (.int (Int32.ofNat n9)), sl] [])) _
        refine g_iconst X51 hx (0 : Int32) (hb hby d1_81) rfl ?_
        show Goes p.tables e below (T51.setTop (mkF m 82 #[.val (.ref p0), .val (.int p1), .val (.ref p2), .val (.int (Int32.ofNat n9)), sl] [(.int (0 : Int32))])) _
        refine g_istoreN X51 hx (hb hby d1_82) (l' := #[.val (.ref p0), .val (.int p1), .val (.ref p2), .val (.int (0 : Int32)), sl]) rfl ?_
        have en : n9 = S := (by have q : ¬ _ < _ := fun z => c33 (Int32.lt_iff_toInt_lt.mpr z); rw [own_of (by omega), hsq] at q; omega)
        subst en
        exact loop3 _ 0 sl rfl (Nat.zero_le _) _ _ _ _ X51 e51 N9 Z9 K9 ⟨E9, fS, fD, fV, A9, B9⟩ hti
      · skip
        show Goes p.tables e below (T51.setTop (mkF m 36 #[.val (.ref p0), .val (.int p1), .val (.ref p2), .val (.int (Int32.ofNat n9)), sl] [])) _
        have hlt : n9 < S := (by have q := Int32.lt_iff_toInt_lt.mp c33; rw [own_of (by omega), hsq] at q; omega)
        have inner : ∀ k2 c9 : Nat, S - c9 = k2 → c9 ≤ S → ∀ (T : State) (locs : List Loc) (h : Heap) (ds : List Value), Stand p l e ({ frames := 2, cells := 1, slots := 256, locals := 30 } : Room) s m #[(.ref p0), (.int p1), (.ref p2)] below meth c T locs (0 + 1) (0 + 256) → T.heap = h → Fr n0 locs → n0 ≤ h.size → Keep h0 h [p0] → Exa Z h p0 "com/example/slidewise/slidewise/search/ManhattanTracker" ∧ Fld Z h p0 "com/example/slidewise/slidewise/search/ManhattanTracker" "squares" "I" (.int (p1 * p1)) ∧ Fld Z h p0 "com/example/slidewise/slidewise/search/ManhattanTracker" "distances" "[I" (.ref a13) ∧ Fld Z h p0 "com/example/slidewise/slidewise/search/ManhattanTracker" "value" "I" (.int (0 : Int32)) ∧ Ar Z h a13 .int ds ∧ Ar Z h p2 .byte ns → TI p1 S n9 c9 ds → Goes p.tables e below (T.setTop (mkF m 39 #[.val (.ref p0), .val (.int p1), .val (.ref p2), .val (.int (Int32.ofNat n9)), .val (.int (Int32.ofNat c9))] [])) (Fin s 1 256 (fun v h L => v = none ∧ Fr n0 L ∧ Keep h0 h [p0] ∧ ∃ d ds, n0 ≤ d ∧ h0.size ≤ d ∧ Fld Z h p0 "com/example/slidewise/slidewise/search/ManhattanTracker" "squares" "I" (.int (p1 * p1)) ∧ Fld Z h p0 "com/example/slidewise/slidewise/search/ManhattanTracker" "distances" "[I" (.ref d) ∧ Fld Z h p0 "com/example/slidewise/slidewise/search/ManhattanTracker" "value" "I" (.int (sumV (fun c => dt p1 (bs c).toInt.toNat c) S)) ∧ Ar Z h d .int ds ∧ TI p1 S S 0 ds)) := by
          intro k2
          induction k2 using Nat.strongRecOn with
          | _ k2 ih2 =>
            intro c9 hk2 hc9 T locs h ds X9 e9 N9 Z9 K9 hts hti
            obtain ⟨E9, fS, fD, fV, A9, B9⟩ := hts
            show Goes p.tables e below (T.setTop (mkF m 39 #[.val (.ref p0), .val (.int p1), .val (.ref p2), .val (.int (Int32.ofNat n9)), .val (.int (Int32.ofNat c9))] [])) _
            refine g_iload X9 hx (hb hby d1_39) rfl ?_
            show Goes p.tables e below (T.setTop (mkF m 41 #[.val (.ref p0), .val (.int p1), .val (.ref p2), .val (.int (Int32.ofNat n9)), .val (.int (Int32.ofNat c9))] [(.int (Int32.ofNat c9))])) _
            refine g_aloadN X9 hx (hb hby d1_41) rfl rfl ?_
            show Goes p.tables e below (T.setTop (mkF m 42 #[.val (.ref p0), .val (.int p1), .val (.ref p2), .val (.int (Int32.ofNat n9)), .val (.int (Int32.ofNat c9))] [(.ref p0), (.int (Int32.ofNat c9))])) _
            refine g_getF X9 hx hZ hown e9 (host := "") (Or.inl (hw _ (List.mem_of_getElem? (i := 12) rfl))) Via.refl fS (hb hby d1_42) (fun T52 X52 e52 => ?_)
            refine g_icmp_ge X52 hx (hb hby d1_45) (by decide) (pc' := 75) (by decide) (fun c45 => ?_) (fun c45 => ?_)
            · skip
              show Goes p.tables e below (T52.setTop (mkF m 75 #[.val (.ref p0), .val (.int p1), .val (.ref p2), .val (.int (Int32.ofNat n9)), .val (.int (Int32.ofNat c9))] [])) _
              refine g_iinc X52 hx (1 : Int32) (hb hby d1_75) rfl rfl (l' := #[.val (.ref p0), .val (.int p1), .val (.ref p2), .val (.int ((Int32.ofNat n9) + (1 : Int32))), .val (.int (Int32.ofNat c9))]) rfl ?_
              show Goes p.tables e below (T52.setTop (mkF m 78 #[.val (.ref p0), .val (.int p1), .val (.ref p2), .val (.int ((Int32.ofNat n9) + (1 : Int32))), .val (.int (Int32.ofNat c9))] [])) _
              refine g_goto X52 hx (hb hby d1_78) (by decide) (pc' := 28) (by decide) ?_
              have ec : c9 = S := (by have q : ¬ _ < _ := fun z => c45 (Int32.lt_iff_toInt_lt.mpr z); rw [own_of (by omega), hsq] at q; omega)
              subst ec
              rw [own_succ]
              exact ih (c9 - (n9 + 1)) (by omega) (n9 + 1) _ (One.val rfl) rfl (by omega) (by omega) _ _ _ _ X52 e52 N9 Z9 K9 ⟨E9, fS, fD, fV, A9, B9⟩ hti.row
            · skip
              show Goes p.tables e below (T52.setTop (mkF m 48 #[.val (.ref p0), .val (.int p1), .val (.ref p2), .val (.int (Int32.ofNat n9)), .val (.int (Int32.ofNat c9))] [])) _
              have hlc : c9 < S := (by have q := Int32.lt_iff_toInt_lt.mp c45; rw [own_of (by omega), hsq] at q; omega)
              refine g_aloadN X52 hx (hb hby d1_48) rfl rfl ?_
              show Goes p.tables e below (T52.setTop (mkF m 49 #[.val (.ref p0), .val (.int p1), .val (.ref p2), .val (.int (Int32.ofNat n9)), .val (.int (Int32.ofNat c9))] [(.ref p0)])) _
              refine g_getF X52 hx hZ hown e52 (host := "") (Or.inl (hw _ (List.mem_of_getElem? (i := 14) rfl))) Via.refl fD (hb hby d1_49) (fun T53 X53 e53 => ?_)
              show Goes p.tables e below (T53.setTop (mkF m 52 #[.val (.ref p0), .val (.int p1), .val (.ref p2), .val (.int (Int32.ofNat n9)), .val (.int (Int32.ofNat c9))] [(.ref a13)])) _
              refine g_iloadN X53 hx (hb hby d1_52) rfl ?_
              show Goes p.tables e below (T53.setTop (mkF m 53 #[.val (.ref p0), .val (.int p1), .val (.ref p2), .val (.int (Int32.ofNat n9)), .val (.int (Int32.ofNat c9))] [(.int (Int32.ofNat n9)), (.ref a13)])) _
              refine g_aloadN X53 hx (hb hby d1_53) rfl rfl ?_
              show Goes p.tables e below (T53.setTop (mkF m 54 #[.val (.ref p0), .val (.int p1), .val (.ref p2), .val (.int (Int32.ofNat n9)), .val (.int (Int32.ofNat c9))] [(.ref p0), (.int (Int32.ofNat n9)), (.ref a13)])) _
              refine g_getF X53 hx hZ hown e53 (host := "") (Or.inl (hw _ (List.mem_of_getElem? (i := 12) rfl))) Via.refl fS (hb hby d1_54) (fun T54 X54 e54 => ?_)
              show Goes p.tables e below (T54.setTop (mkF m 57 #[.val (.ref p0), .val (.int p1), .val (.ref p2), .val (.int (Int32.ofNat n9)), .val (.int (Int32.ofNat c9))] [(.int (p1 * p1)), (.int (Int32.ofNat n9)), (.ref a13)])) _
              refine g_imul X54 hx (hb hby d1_57) ?_
              show Goes p.tables e below (T54.setTop (mkF m 58 #[.val (.ref p0), .val (.int p1), .val (.ref p2), .val (.int (Int32.ofNat n9)), .val (.int (Int32.ofNat c9))] [(.int ((Int32.ofNat n9) * (p1 * p1))), (.ref a13)])) _
              refine g_iload X54 hx (hb hby d1_58) rfl ?_
              show Goes p.tables e below (T54.setTop (mkF m 60 #[.val (.ref p0), .val (.int p1), .val (.ref p2), .val (.int (Int32.ofNat n9)), .val (.int (Int32.ofNat c9))] [(.int (Int32.ofNat c9)), (.int ((Int32.ofNat n9) * (p1 * p1))), (.ref a13)])) _
              refine g_iadd X54 hx (hb hby d1_60) ?_
              show Goes p.tables e below (T54.setTop (mkF m 61 #[.val (.ref p0), .val (.int p1), .val (.ref p2), .val (.int (Int32.ofNat n9)), .val (.int (Int32.ofNat c9))] [(.int (((Int32.ofNat n9) * (p1 * p1)) + (Int32.ofNat c9))), (.ref a13)])) _
              refine g_iloadN X54 hx (hb hby d1_61) rfl ?_
              show Goes p.tables e below (T54.setTop (mkF m 62 #[.val (.ref p0), .val (.int p1), .val (.ref p2), .val (.int (Int32.ofNat n9)), .val (.int (Int32.ofNat c9))] [(.int p1), (.int (((Int32.ofNat n9) * (p1 * p1)) + (Int32.ofNat c9))), (.ref a13)])) _
              refine g_iloadN X54 hx (hb hby d1_62) rfl ?_
              show Goes p.tables e below (T54.setTop (mkF m 63 #[.val (.ref p0), .val (.int p1), .val (.ref p2), .val (.int (Int32.ofNat n9)), .val (.int (Int32.ofNat c9))] [(.int (Int32.ofNat n9)), (.int p1), (.int (((Int32.ofNat n9) * (p1 * p1)) + (Int32.ofNat c9))), (.ref a13)])) _
              refine g_iload X54 hx (hb hby d1_63) rfl ?_
              show Goes p.tables e below (T54.setTop (mkF m 65 #[.val (.ref p0), .val (.int p1), .val (.ref p2), .val (.int (Int32.ofNat n9)), .val (.int (Int32.ofNat c9))] [(.int (Int32.ofNat c9)), (.int (Int32.ofNat n9)), (.int p1), (.int (((Int32.ofNat n9) * (p1 * p1)) + (Int32.ofNat c9))), (.ref a13)])) _
              refine g_callS X54 hx hZ hown (by rw [hml]; rfl) e54 (hw _ (List.mem_of_getElem? (i := 16) rfl)) (hw _ (List.mem_of_getElem? (i := 17) rfl)) (hw _ (List.mem_of_getElem? (i := 18) rfl)) (hw _ (List.mem_of_getElem? (i := 19) rfl)) (rmDi l Z a0 hw p1 (Int32.ofNat n9) (Int32.ofNat c9) h hside) [(.int p1), (.int (Int32.ofNat n9)), (.int (Int32.ofNat c9))] rfl [(.int (((Int32.ofNat n9) * (p1 * p1)) + (Int32.ofNat c9))), (.ref a13)] rfl (lenOf pd_3 rfl) (hb hby d1_65) (by decide) 2 (by decide) (by decide) (by first | decide | exact Nat.le_refl _) (by decide) (by decide) (fun v T55 L55 X55 hQ55 => ?_)
              obtain ⟨rfl, e55, rfl⟩ := hQ55
              have N56 := Fr.app N9 (Fr.nil n0)
              show Goes p.tables e below (T55.setTop (mkF m 68 #[.val (.ref p0), .val (.int p1), .val (.ref p2), .val (.int (Int32.ofNat n9)), .val (.int (Int32.ofNat c9))] [(.int (distV p1 (Int32.ofNat n9) (Int32.ofNat c9))), (.int (((Int32.ofNat n9) * (p1 * p1)) + (Int32.ofNat c9))), (.ref a13)])) _
              refine g_iastore X55 hx hZ e55 A9 (n9 * S + c9) (own_lin (own_of (by omega)) hsq (own_of (by omega)) (by omega) (by omega) (by omega)) (by rw [hti.1]; exact own_inb hlt hlc) (hb hby d1_68) (fun T57 h57 X57 e57 W57 A57 => ?_)
              have fx58 : Fld Z h57 p0 "com/example/slidewise/slidewise/search/ManhattanTracker" "squares" "I" (.int (p1 * p1)) := Fld.other W57 fS (Or.inl npd)
              have fx59 : Fld Z h57 p0 "com/example/slidewise/slidewise/search/ManhattanTracker" "distances" "[I" (.ref a13) := Fld.other W57 fD (Or.inl npd)
              have fx60 : Fld Z h57 p0 "com/example/slidewise/slidewise/search/ManhattanTracker" "value" "I" (.int (0 : Int32)) := Fld.other W57 fV (Or.inl npd)
              have fx61 : Exa Z h57 p0 "com/example/slidewise/slidewise/search/ManhattanTracker" := Exa.wr W57 E9
              have fx62 : Ar Z h57 p2 .byte ns := Ar.other B9 W57 nbd
              have fx63 : Ar Z h57 a13 .int (List.set ds (n9 * S + c9) (.int (distV p1 (Int32.ofNat n9) (Int32.ofNat c9)))) := A57
              have N64 := Fr.snoc X57 N56 gd
              have Z65 : n0 ≤ h57.size := by rw [W57.size]; exact Z9
              have K66 : Keep h0 h57 [p0] := Keep.wr K9 W57 (Or.inr g0d)
              show Goes p.tables e below (T57.setTop (mkF m 69 #[.val (.ref p0), .val (.int p1), .val (.ref p2), .val (.int (Int32.ofNat n9)), .val (.int (Int32.ofNat c9))] [])) _
              refine g_iinc X57 hx (1 : Int32) (hb hby d1_69) rfl rfl (l' := #[.val (.ref p0), .val (.int p1), .val (.ref p2), .val (.int (Int32.ofNat n9)), .val (.int ((Int32.ofNat c9) + (1 : Int32)))]) rfl ?_
              show Goes p.tables e below (T57.setTop (mkF m 72 #[.val (.ref p0), .val (.int p1), .val (.ref p2), .val (.int (Int32.ofNat n9)), .val (.int ((Int32.ofNat c9) + (1 : Int32)))] [])) _
              refine g_goto X57 hx (hb hby d1_72) (by decide) (pc' := 39) (by decide) ?_
              rw [own_succ]
              exact ih2 (S - (c9 + 1)) (by omega) (c9 + 1) rfl (by omega) _ _ _ _ X57 e57 N64 Z65 K66 ⟨fx61, fx58, fx59, fx60, fx63, fx62⟩ (hti.set hlt hlc h1n rfl)
        show Goes p.tables e below (T51.setTop (mkF m 36 #[.val (.ref p0), .val (.int p1), .val (.ref p2), .val (.int (Int32.ofNat n9)), sl] [])) _
        refine g_iconst X51 hx (0 : Int32) (hb hby d1_36) rfl ?_
        show Goes p.tables e below (T51.setTop (mkF m 37 #[.val (.ref p0), .val (.int p1), .val (.ref p2), .val (.int (Int32.ofNat n9)), sl] [(.int (0 : Int32))])) _
        refine g_istoreS X51 hx (hb hby d1_37) rfl hsl ?_
        exact inner _ 0 rfl (Nat.zero_le _) _ _ _ _ X51 e51 N9 Z9 K9 ⟨E9, fS, fD, fV, A9, B9⟩ hti
  exact loop1 _ 1 .unset One.u rfl (Nat.le_refl _) hS1 _ _ _ _ X26 e26 N34 Z35 K36 ⟨fx28, fx30, fx33, fx27, fx31, fx29⟩ (TI.first p1 S)
theorem d6_0 : decode prog_52_method_2_code 0 = .ok (.aload_n 0, 1) := by decide +kernel
theorem d6_1 : decode prog_52_method_2_code 1 = .ok (.getfield 23, 3) := by decide +kernel
theorem d6_4 : decode prog_52_method_2_code 4 = .ok (.ireturn, 1) := by decide +kernel
theorem pd_6 : parseMethodDescriptor "()I" = some ⟨[], some .int⟩ := by decide +kernel
theorem ef_6 (m : MethodId) (p0 : Addr) : entryFrame m #[(.ref p0)] 1 = mkF m 0 #[.val (.ref p0)] [] := by first | (simp [entryFrame, mkF, argsToLocals, Value.category]; done) | rfl
set_option maxRecDepth 65536 in
set_option maxHeartbeats 40000000 in
theorem rmVal (l : Launch) (Z : State) (a0 : Array Value) (hw : ∀ d ∈ tables_1, d.before a0 Z = true) (p0 : Addr) (h0 : Heap) (n0 : Nat) (Z0 : n0 ≤ h0.size) (x : Int32) (f1 : Fld Z h0 p0 "com/example/slidewise/slidewise/search/ManhattanTracker" "value" "I" (.int x)) :
    Con l Z (⟨"com/example/slidewise/slidewise/search/ManhattanTracker", "value", "()I"⟩ : MethodName) prog_52_method_2_code 1 (some .int) [] ({ frames := 0, cells := 0, slots := 0, locals := 0 } : Room) 0 0 #[(.ref p0)] h0 (fun v h L => v = some (.int x) ∧ h = h0 ∧ L = []) := by
  refine Con.body (plainFor_of_name (by first | (simp [plainName, overriddenIn]; done) | decide +kernel)) ?_
  intro p e s m below meth c T0 hx hby hml hown hnm hZ hret hlk X0 e0
  refine Goes.cast (ef_6 m p0) ?_
  have N0 := Fr.nil n0
  show Goes p.tables e below (T0.setTop (mkF m 0 #[.val (.ref p0)] [])) _
  refine g_aloadN X0 hx (hb hby d6_0) rfl rfl ?_
  show Goes p.tables e below (T0.setTop (mkF m 1 #[.val (.ref p0)] [(.ref p0)])) _
  refine g_getF X0 hx hZ hown e0 (host := "") (Or.inl (hw _ (List.mem_of_getElem? (i := 27) rfl))) Via.refl f1 (hb hby d6_1) (fun T1 X1 e1 => ?_)
  show Goes p.tables e below (T1.setTop (mkF m 4 #[.val (.ref p0)] [(.int x)])) _
  exact g_retI X1 hx hret hlk (hb hby d6_4) (by decide) (by decide) ⟨rfl, e1, rfl⟩
theorem d10_0 : decode prog_52_method_3_code 0 = .ok (.aload_n 0, 1) := by decide +kernel
theorem d10_1 : decode prog_52_method_3_code 1 = .ok (.dup, 1) := by decide +kernel
theorem d10_2 : decode prog_52_method_3_code 2 = .ok (.getfield 23, 3) := by decide +kernel
theorem d10_5 : decode prog_52_method_3_code 5 = .ok (.aload_n 0, 1) := by decide +kernel
theorem d10_6 : decode prog_52_method_3_code 6 = .ok (.getfield 13, 3) := by decide +kernel
theorem d10_9 : decode prog_52_method_3_code 9 = .ok (.iload_n 1, 1) := by decide +kernel
theorem d10_10 : decode prog_52_method_3_code 10 = .ok (.aload_n 0, 1) := by decide +kernel
theorem d10_11 : decode prog_52_method_3_code 11 = .ok (.getfield 7, 3) := by decide +kernel
theorem d10_14 : decode prog_52_method_3_code 14 = .ok (.imul, 1) := by decide +kernel
theorem d10_15 : decode prog_52_method_3_code 15 = .ok (.iload_n 3, 1) := by decide +kernel
theorem d10_16 : decode prog_52_method_3_code 16 = .ok (.iadd, 1) := by decide +kernel
theorem d10_17 : decode prog_52_method_3_code 17 = .ok (.iaload, 1) := by decide +kernel
theorem d10_18 : decode prog_52_method_3_code 18 = .ok (.aload_n 0, 1) := by decide +kernel
theorem d10_19 : decode prog_52_method_3_code 19 = .ok (.getfield 13, 3) := by decide +kernel
theorem d10_22 : decode prog_52_method_3_code 22 = .ok (.iload_n 1, 1) := by decide +kernel
theorem d10_23 : decode prog_52_method_3_code 23 = .ok (.aload_n 0, 1) := by decide +kernel
theorem d10_24 : decode prog_52_method_3_code 24 = .ok (.getfield 7, 3) := by decide +kernel
theorem d10_27 : decode prog_52_method_3_code 27 = .ok (.imul, 1) := by decide +kernel
theorem d10_28 : decode prog_52_method_3_code 28 = .ok (.iload_n 2, 1) := by decide +kernel
theorem d10_29 : decode prog_52_method_3_code 29 = .ok (.iadd, 1) := by decide +kernel
theorem d10_30 : decode prog_52_method_3_code 30 = .ok (.iaload, 1) := by decide +kernel
theorem d10_31 : decode prog_52_method_3_code 31 = .ok (.isub, 1) := by decide +kernel
theorem d10_32 : decode prog_52_method_3_code 32 = .ok (.iadd, 1) := by decide +kernel
theorem d10_33 : decode prog_52_method_3_code 33 = .ok (.putfield 23, 3) := by decide +kernel
theorem d10_36 : decode prog_52_method_3_code 36 = .ok (.return_, 1) := by decide +kernel
theorem pd_10 : parseMethodDescriptor "(III)V" = some ⟨[.int, .int, .int], none⟩ := by decide +kernel
theorem ef_10 (m : MethodId) (p0 : Addr) (p1 : Int32) (p2 : Int32) (p3 : Int32) : entryFrame m #[(.ref p0), (.int p1), (.int p2), (.int p3)] 4 = mkF m 0 #[.val (.ref p0), .val (.int p1), .val (.int p2), .val (.int p3)] [] := by first | (simp [entryFrame, mkF, argsToLocals, Value.category]; done) | rfl
set_option maxRecDepth 65536 in
set_option maxHeartbeats 40000000 in
theorem rmSl (l : Launch) (Z : State) (a0 : Array Value) (hw : ∀ d ∈ tables_1, d.before a0 Z = true) (p0 : Addr) (p1 : Int32) (p2 : Int32) (p3 : Int32) (h0 : Heap) (n0 : Nat) (Z0 : n0 ≤ h0.size) (d : Addr) (ds : List Value) (sd sq y : Int32) (S : Nat) (hsq : sq.toInt = S) (hS16 : S ≤ 16) (hti : TI sd S S 0 ds) (t1 : 0 ≤ p1.toInt ∧ p1.toInt < S) (t2 : 0 ≤ p2.toInt ∧ p2.toInt < S) (t3 : 0 ≤ p3.toInt ∧ p3.toInt < S) (f1 : Fld Z h0 p0 "com/example/slidewise/slidewise/search/ManhattanTracker" "squares" "I" (.int sq)) (f2 : Fld Z h0 p0 "com/example/slidewise/slidewise/search/ManhattanTracker" "distances" "[I" (.ref d)) (f3 : Fld Z h0 p0 "com/example/slidewise/slidewise/search/ManhattanTracker" "value" "I" (.int y)) (E0 : Exa Z h0 p0 "com/example/slidewise/slidewise/search/ManhattanTracker") (A0 : Ar Z h0 d .int ds) (ga : n0 ≤ p0) (nd : d ≠ p0) :
    Con l Z (⟨"com/example/slidewise/slidewise/search/ManhattanTracker", "slide", "(III)V"⟩ : MethodName) prog_52_method_3_code 4 none [] ({ frames := 0, cells := 0, slots := 0, locals := 0 } : Room) 0 0 #[(.ref p0), (.int p1), (.int p2), (.int p3)] h0 (fun v h L => v = none ∧ Fr n0 L ∧ Keep h0 h [p0] ∧ Fld Z h p0 "com/example/slidewise/slidewise/search/ManhattanTracker" "squares" "I" (.int sq) ∧ Fld Z h p0 "com/example/slidewise/slidewise/search/ManhattanTracker" "distances" "[I" (.ref d) ∧ Fld Z h p0 "com/example/slidewise/slidewise/search/ManhattanTracker" "value" "I" (.int (y + (dt sd (p1.toInt.toNat) (p3.toInt.toNat) - dt sd (p1.toInt.toNat) (p2.toInt.toNat)))) ∧ Ar Z h d .int ds) := by
  refine Con.body (plainFor_of_name (by first | (simp [plainName, overriddenIn]; done) | decide +kernel)) ?_
  intro p e s m below meth c T0 hx hby hml hown hnm hZ hret hlk X0 e0
  refine Goes.cast (ef_10 m p0 p1 p2 p3) ?_
  have N0 := Fr.nil n0
  have K0 : Keep h0 h0 [p0] := Keep.refl _ _
  show Goes p.tables e below (T0.setTop (mkF m 0 #[.val (.ref p0), .val (.int p1), .val (.int p2), .val (.int p3)] [])) _
  refine g_aloadN X0 hx (hb hby d10_0) rfl rfl ?_
  show Goes p.tables e below (T0.setTop (mkF m 1 #[.val (.ref p0), .val (.int p1), .val (.int p2), .val (.int p3)] [(.ref p0)])) _
  refine g_dup X0 hx (hb hby d10_1) rfl ?_
  show Goes p.tables e below (T0.setTop (mkF m 2 #[.val (.ref p0), .val (.int p1), .val (.int p2), .val (.int p3)] [(.ref p0), (.ref p0)])) _
  refine g_getF X0 hx hZ hown e0 (host := "") (Or.inl (hw _ (List.mem_of_getElem? (i := 27) rfl))) Via.refl f3 (hb hby d10_2) (fun T1 X1 e1 => ?_)
  show Goes p.tables e below (T1.setTop (mkF m 5 #[.val (.ref p0), .val (.int p1), .val (.int p2), .val (.int p3)] [(.int y), (.ref p0)])) _
  refine g_aloadN X1 hx (hb hby d10_5) rfl rfl ?_
  show Goes p.tables e below (T1.setTop (mkF m 6 #[.val (.ref p0), .val (.int p1), .val (.int p2), .val (.int p3)] [(.ref p0), (.int y), (.ref p0)])) _
  refine g_getF X1 hx hZ hown e1 (host := "") (Or.inl (hw _ (List.mem_of_getElem? (i := 14) rfl))) Via.refl f2 (hb hby d10_6) (fun T2 X2 e2 => ?_)
  show Goes p.tables e below (T2.setTop (mkF m 9 #[.val (.ref p0), .val (.int p1), .val (.int p2), .val (.int p3)] [(.ref d), (.int y), (.ref p0)])) _
  refine g_iloadN X2 hx (hb hby d10_9) rfl ?_
  show Goes p.tables e below (T2.setTop (mkF m 10 #[.val (.ref p0), .val (.int p1), .val (.int p2), .val (.int p3)] [(.int p1), (.ref d), (.int y), (.ref p0)])) _
  refine g_aloadN X2 hx (hb hby d10_10) rfl rfl ?_
  show Goes p.tables e below (T2.setTop (mkF m 11 #[.val (.ref p0), .val (.int p1), .val (.int p2), .val (.int p3)] [(.ref p0), (.int p1), (.ref d), (.int y), (.ref p0)])) _
  refine g_getF X2 hx hZ hown e2 (host := "") (Or.inl (hw _ (List.mem_of_getElem? (i := 12) rfl))) Via.refl f1 (hb hby d10_11) (fun T3 X3 e3 => ?_)
  show Goes p.tables e below (T3.setTop (mkF m 14 #[.val (.ref p0), .val (.int p1), .val (.int p2), .val (.int p3)] [(.int sq), (.int p1), (.ref d), (.int y), (.ref p0)])) _
  refine g_imul X3 hx (hb hby d10_14) ?_
  show Goes p.tables e below (T3.setTop (mkF m 15 #[.val (.ref p0), .val (.int p1), .val (.int p2), .val (.int p3)] [(.int (p1 * sq)), (.ref d), (.int y), (.ref p0)])) _
  refine g_iloadN X3 hx (hb hby d10_15) rfl ?_
  show Goes p.tables e below (T3.setTop (mkF m 16 #[.val (.ref p0), .val (.int p1), .val (.int p2), .val (.int p3)] [(.int p3), (.int (p1 * sq)), (.ref d), (.int y), (.ref p0)])) _
  refine g_iadd X3 hx (hb hby d10_16) ?_
  show Goes p.tables e below (T3.setTop (mkF m 17 #[.val (.ref p0), .val (.int p1), .val (.int p2), .val (.int p3)] [(.int ((p1 * sq) + p3)), (.ref d), (.int y), (.ref p0)])) _
  refine g_iaload X3 hx hZ e3 A0 (i := (p1.toInt.toNat * S + p3.toInt.toNat)) (v := (.int (dt sd (p1.toInt.toNat) (p3.toInt.toNat)))) (own_lin (show p1.toInt = (p1.toInt.toNat : Nat) by omega) hsq (show p3.toInt = (p3.toInt.toNat : Nat) by omega) (by omega) (by omega) (by omega)) (hti.2 _ _ (by omega) (by omega) (Or.inl (by omega))) (hb hby d10_17) ?_
  show Goes p.tables e below (T3.setTop (mkF m 18 #[.val (.ref p0), .val (.int p1), .val (.int p2), .val (.int p3)] [(.int (dt sd (p1.toInt.toNat) (p3.toInt.toNat))), (.int y), (.ref p0)])) _
  refine g_aloadN X3 hx (hb hby d10_18) rfl rfl ?_
  show Goes p.tables e below (T3.setTop (mkF m 19 #[.val (.ref p0), .val (.int p1), .val (.int p2), .val (.int p3)] [(.ref p0), (.int (dt sd (p1.toInt.toNat) (p3.toInt.toNat))), (.int y), (.ref p0)])) _
  refine g_getF X3 hx hZ hown e3 (host := "") (Or.inl (hw _ (List.mem_of_getElem? (i := 14) rfl))) Via.refl f2 (hb hby d10_19) (fun T4 X4 e4 => ?_)
  show Goes p.tables e below (T4.setTop (mkF m 22 #[.val (.ref p0), .val (.int p1), .val (.int p2), .val (.int p3)] [(.ref d), (.int (dt sd (p1.toInt.toNat) (p3.toInt.toNat))), (.int y), (.ref p0)])) _
  refine g_iloadN X4 hx (hb hby d10_22) rfl ?_
  show Goes p.tables e below (T4.setTop (mkF m 23 #[.val (.ref p0), .val (.int p1), .val (.int p2), .val (.int p3)] [(.int p1), (.ref d), (.int (dt sd (p1.toInt.toNat) (p3.toInt.toNat))), (.int y), (.ref p0)])) _
  refine g_aloadN X4 hx (hb hby d10_23) rfl rfl ?_
  show Goes p.tables e below (T4.setTop (mkF m 24 #[.val (.ref p0), .val (.int p1), .val (.int p2), .val (.int p3)] [(.ref p0), (.int p1), (.ref d), (.int (dt sd (p1.toInt.toNat) (p3.toInt.toNat))), (.int y), (.ref p0)])) _
  refine g_getF X4 hx hZ hown e4 (host := "") (Or.inl (hw _ (List.mem_of_getElem? (i := 12) rfl))) Via.refl f1 (hb hby d10_24) (fun T5 X5 e5 => ?_)
  show Goes p.tables e below (T5.setTop (mkF m 27 #[.val (.ref p0), .val (.int p1), .val (.int p2), .val (.int p3)] [(.int sq), (.int p1), (.ref d), (.int (dt sd (p1.toInt.toNat) (p3.toInt.toNat))), (.int y), (.ref p0)])) _
  refine g_imul X5 hx (hb hby d10_27) ?_
  show Goes p.tables e below (T5.setTop (mkF m 28 #[.val (.ref p0), .val (.int p1), .val (.int p2), .val (.int p3)] [(.int (p1 * sq)), (.ref d), (.int (dt sd (p1.toInt.toNat) (p3.toInt.toNat))), (.int y), (.ref p0)])) _
  refine g_iloadN X5 hx (hb hby d10_28) rfl ?_
  show Goes p.tables e below (T5.setTop (mkF m 29 #[.val (.ref p0), .val (.int p1), .val (.int p2), .val (.int p3)] [(.int p2), (.int (p1 * sq)), (.ref d), (.int (dt sd (p1.toInt.toNat) (p3.toInt.toNat))), (.int y), (.ref p0)])) _
  refine g_iadd X5 hx (hb hby d10_29) ?_
  show Goes p.tables e below (T5.setTop (mkF m 30 #[.val (.ref p0), .val (.int p1), .val (.int p2), .val (.int p3)] [(.int ((p1 * sq) + p2)), (.ref d), (.int (dt sd (p1.toInt.toNat) (p3.toInt.toNat))), (.int y), (.ref p0)])) _
  refine g_iaload X5 hx hZ e5 A0 (i := (p1.toInt.toNat * S + p2.toInt.toNat)) (v := (.int (dt sd (p1.toInt.toNat) (p2.toInt.toNat)))) (own_lin (show p1.toInt = (p1.toInt.toNat : Nat) by omega) hsq (show p2.toInt = (p2.toInt.toNat : Nat) by omega) (by omega) (by omega) (by omega)) (hti.2 _ _ (by omega) (by omega) (Or.inl (by omega))) (hb hby d10_30) ?_
  show Goes p.tables e below (T5.setTop (mkF m 31 #[.val (.ref p0), .val (.int p1), .val (.int p2), .val (.int p3)] [(.int (dt sd (p1.toInt.toNat) (p2.toInt.toNat))), (.int (dt sd (p1.toInt.toNat) (p3.toInt.toNat))), (.int y), (.ref p0)])) _
  refine g_isub X5 hx (hb hby d10_31) ?_
  show Goes p.tables e below (T5.setTop (mkF m 32 #[.val (.ref p0), .val (.int p1), .val (.int p2), .val (.int p3)] [(.int ((dt sd (p1.toInt.toNat) (p3.toInt.toNat)) - (dt sd (p1.toInt.toNat) (p2.toInt.toNat)))), (.int y), (.ref p0)])) _
  refine g_iadd X5 hx (hb hby d10_32) ?_
  show Goes p.tables e below (T5.setTop (mkF m 33 #[.val (.ref p0), .val (.int p1), .val (.int p2), .val (.int p3)] [(.int (y + ((dt sd (p1.toInt.toNat) (p3.toInt.toNat)) - (dt sd (p1.toInt.toNat) (p2.toInt.toNat))))), (.ref p0)])) _
  refine g_putF X5 hx hZ hown e5 (hw _ (List.mem_of_getElem? (i := 27) rfl)) Via.refl (v' := (.int (y + ((dt sd (p1.toInt.toNat) (p3.toInt.toNat)) - (dt sd (p1.toInt.toNat) (p2.toInt.toNat)))))) f3 E0 (Or.inl (hw _ (List.mem_of_getElem? (i := 28) rfl))) (hw _ (List.mem_of_getElem? (i := 4) rfl)) (ty := .int) (by decide) rfl rfl (hb hby d10_33) (fun T6 h6 X6 e6 W6 => ?_)
  have fx7 : Fld Z h6 p0 "com/example/slidewise/slidewise/search/ManhattanTracker" "squares" "I" (.int sq) := Fld.other W6 f1 (Or.inr (slot_ne (t := .int) (t' := .int) (Or.inr (hw _ (List.mem_of_getElem? (i := 13) rfl))) (Or.inl (hw _ (List.mem_of_getElem? (i := 28) rfl))) (by decide) (by decide) (by decide)))
  have fx8 : Fld Z h6 p0 "com/example/slidewise/slidewise/search/ManhattanTracker" "distances" "[I" (.ref d) := Fld.other W6 f2 (Or.inr (slot_ne (t := (.array .int)) (t' := .int) (Or.inr (hw _ (List.mem_of_getElem? (i := 15) rfl))) (Or.inl (hw _ (List.mem_of_getElem? (i := 28) rfl))) (by decide) (by decide) (by decide)))
  have fx9 : Exa Z h6 p0 "com/example/slidewise/slidewise/search/ManhattanTracker" := Exa.wr W6 E0
  have fx10 : Ar Z h6 d .int ds := Ar.other A0 W6 nd
  have fx11 : Fld Z h6 p0 "com/example/slidewise/slidewise/search/ManhattanTracker" "value" "I" (.int (y + ((dt sd (p1.toInt.toNat) (p3.toInt.toNat)) - (dt sd (p1.toInt.toNat) (p2.toInt.toNat))))) := Fld.same W6 f3
  have N12 := Fr.snoc X6 N0 ga
  have Z13 : n0 ≤ h6.size := by rw [W6.size]; exact Z0
  have K14 : Keep h0 h6 [p0] := Keep.wr K0 W6 (Or.inl (List.mem_of_getElem? (i := 0) rfl))
  show Goes p.tables e below (T6.setTop (mkF m 36 #[.val (.ref p0), .val (.int p1), .val (.int p2), .val (.int p3)] [])) _
  exact g_ret0 X6 hx hret hlk (hb hby d10_36) (by decide) (by decide) (by rw [e6]; exact ⟨rfl, N12, K14, fx7, fx8, fx11, fx10⟩)
theorem d9_0 : decode method_4_code 0 = .ok (.iload_n 0, 1) := by decide +kernel
theorem d9_1 : decode method_4_code 1 = .ok (.iconst 3, 1) := by decide +kernel
theorem d9_2 : decode method_4_code 2 = .ok (.idiv, 1) := by decide +kernel
theorem d9_3 : decode method_4_code 3 = .ok (.istore_n 2, 1) := by decide +kernel
theorem d9_4 : decode method_4_code 4 = .ok (.iload_n 0, 1) := by decide +kernel
theorem d9_5 : decode method_4_code 5 = .ok (.iconst 3, 1) := by decide +kernel
theorem d9_6 : decode method_4_code 6 = .ok (.irem, 1) := by decide +kernel
theorem d9_7 : decode method_4_code 7 = .ok (.istore_n 3, 1) := by decide +kernel
theorem d9_8 : decode method_4_code 8 = .ok (.iload_n 1, 1) := by decide +kernel
theorem d9_9 : decode method_4_code 9 = .ok (.ifCond .ne 18, 3) := by decide +kernel
theorem d9_12 : decode method_4_code 12 = .ok (.iload_n 2, 1) := by decide +kernel
theorem d9_13 : decode method_4_code 13 = .ok (.iconst 2, 1) := by decide +kernel
theorem d9_14 : decode method_4_code 14 = .ok (.if_icmp .ge 9, 3) := by decide +kernel
theorem d9_17 : decode method_4_code 17 = .ok (.iload_n 0, 1) := by decide +kernel
theorem d9_18 : decode method_4_code 18 = .ok (.iconst 3, 1) := by decide +kernel
theorem d9_19 : decode method_4_code 19 = .ok (.iadd, 1) := by decide +kernel
theorem d9_20 : decode method_4_code 20 = .ok (.goto 6, 3) := by decide +kernel
theorem d9_23 : decode method_4_code 23 = .ok (.iload_n 0, 1) := by decide +kernel
theorem d9_24 : decode method_4_code 24 = .ok (.iconst 3, 1) := by decide +kernel
theorem d9_25 : decode method_4_code 25 = .ok (.isub, 1) := by decide +kernel
theorem d9_26 : decode method_4_code 26 = .ok (.ireturn, 1) := by decide +kernel
theorem d9_27 : decode method_4_code 27 = .ok (.iload_n 1, 1) := by decide +kernel
theorem d9_28 : decode method_4_code 28 = .ok (.iconst 1, 1) := by decide +kernel
theorem d9_29 : decode method_4_code 29 = .ok (.if_icmp .ne 17, 3) := by decide +kernel
theorem d9_32 : decode method_4_code 32 = .ok (.iload_n 2, 1) := by decide +kernel
theorem d9_33 : decode method_4_code 33 = .ok (.ifCond .le 9, 3) := by decide +kernel
theorem d9_36 : decode method_4_code 36 = .ok (.iload_n 0, 1) := by decide +kernel
theorem d9_37 : decode method_4_code 37 = .ok (.iconst 3, 1) := by decide +kernel
theorem d9_38 : decode method_4_code 38 = .ok (.isub, 1) := by decide +kernel
theorem d9_39 : decode method_4_code 39 = .ok (.goto 6, 3) := by decide +kernel
theorem d9_42 : decode method_4_code 42 = .ok (.iload_n 0, 1) := by decide +kernel
theorem d9_43 : decode method_4_code 43 = .ok (.iconst 3, 1) := by decide +kernel
theorem d9_44 : decode method_4_code 44 = .ok (.iadd, 1) := by decide +kernel
theorem d9_45 : decode method_4_code 45 = .ok (.ireturn, 1) := by decide +kernel
theorem d9_46 : decode method_4_code 46 = .ok (.iload_n 1, 1) := by decide +kernel
theorem d9_47 : decode method_4_code 47 = .ok (.iconst 2, 1) := by decide +kernel
theorem d9_48 : decode method_4_code 48 = .ok (.if_icmp .ne 18, 3) := by decide +kernel
theorem d9_51 : decode method_4_code 51 = .ok (.iload_n 3, 1) := by decide +kernel
theorem d9_52 : decode method_4_code 52 = .ok (.iconst 2, 1) := by decide +kernel
theorem d9_53 : decode method_4_code 53 = .ok (.if_icmp .ge 9, 3) := by decide +kernel
theorem d9_56 : decode method_4_code 56 = .ok (.iload_n 0, 1) := by decide +kernel
theorem d9_57 : decode method_4_code 57 = .ok (.iconst 1, 1) := by decide +kernel
theorem d9_58 : decode method_4_code 58 = .ok (.iadd, 1) := by decide +kernel
theorem d9_59 : decode method_4_code 59 = .ok (.goto 6, 3) := by decide +kernel
theorem d9_62 : decode method_4_code 62 = .ok (.iload_n 0, 1) := by decide +kernel
theorem d9_63 : decode method_4_code 63 = .ok (.iconst 1, 1) := by decide +kernel
theorem d9_64 : decode method_4_code 64 = .ok (.isub, 1) := by decide +kernel
theorem d9_65 : decode method_4_code 65 = .ok (.ireturn, 1) := by decide +kernel
theorem d9_66 : decode method_4_code 66 = .ok (.iload_n 3, 1) := by decide +kernel
theorem d9_67 : decode method_4_code 67 = .ok (.ifCond .le 9, 3) := by decide +kernel
theorem d9_70 : decode method_4_code 70 = .ok (.iload_n 0, 1) := by decide +kernel
theorem d9_71 : decode method_4_code 71 = .ok (.iconst 1, 1) := by decide +kernel
theorem d9_72 : decode method_4_code 72 = .ok (.isub, 1) := by decide +kernel
theorem d9_73 : decode method_4_code 73 = .ok (.goto 6, 3) := by decide +kernel
theorem d9_76 : decode method_4_code 76 = .ok (.iload_n 0, 1) := by decide +kernel
theorem d9_77 : decode method_4_code 77 = .ok (.iconst 1, 1) := by decide +kernel
theorem d9_78 : decode method_4_code 78 = .ok (.iadd, 1) := by decide +kernel
theorem d9_79 : decode method_4_code 79 = .ok (.ireturn, 1) := by decide +kernel
theorem pd_9 : parseMethodDescriptor "(II)I" = some ⟨[.int, .int], some .int⟩ := by decide +kernel
theorem ef_9 (m : MethodId) (p0 : Int32) (p1 : Int32) : entryFrame m #[(.int p0), (.int p1)] 4 = mkF m 0 #[.val (.int p0), .val (.int p1), .unset, .unset] [] := by first | (simp [entryFrame, mkF, argsToLocals, Value.category]; done) | rfl
def nbV (p0 : Int32) (p1 : Int32) : Int32 := (if p1 = 0 then (if (p0 / (3 : Int32)) < (2 : Int32) then (p0 + (3 : Int32)) else (p0 - (3 : Int32))) else (if p1 = (1 : Int32) then (if 0 < (p0 / (3 : Int32)) then (p0 - (3 : Int32)) else (p0 + (3 : Int32))) else (if p1 = (2 : Int32) then (if (p0 % (3 : Int32)) < (2 : Int32) then (p0 + (1 : Int32)) else (p0 - (1 : Int32))) else (if 0 < (p0 % (3 : Int32)) then (p0 - (1 : Int32)) else (p0 + (1 : Int32))))))
set_option maxRecDepth 65536 in
set_option maxHeartbeats 40000000 in
theorem rmNb (l : Launch) (Z : State) (a0 : Array Value) (hw : ∀ d ∈ tables_1, d.before a0 Z = true) (p0 : Int32) (p1 : Int32) (h0 : Heap)  :
    Con l Z (⟨"com/example/slidewise/slidewise/search/ManhattanTrackerSlidePinLaw", "neighbor", "(II)I"⟩ : MethodName) method_4_code 4 (some .int) [] ({ frames := 0, cells := 0, slots := 0, locals := 0 } : Room) 0 0 #[(.int p0), (.int p1)] h0 (fun v h L => v = some (.int (nbV p0 p1)) ∧ h = h0 ∧ L = []) := by
  refine Con.body (plainFor_of_name (by first | (simp [plainName, overriddenIn]; done) | decide +kernel)) ?_
  intro p e s m below meth c T0 hx hby hml hown hnm hZ hret hlk X0 e0
  refine Goes.cast (ef_9 m p0 p1) ?_
  show Goes p.tables e below (T0.setTop (mkF m 0 #[.val (.int p0), .val (.int p1), .unset, .unset] [])) _
  refine g_iloadN X0 hx (hb hby d9_0) rfl ?_
  show Goes p.tables e below (T0.setTop (mkF m 1 #[.val (.int p0), .val (.int p1), .unset, .unset] [(.int p0)])) _
  refine g_iconst X0 hx (3 : Int32) (hb hby d9_1) rfl ?_
  show Goes p.tables e below (T0.setTop (mkF m 2 #[.val (.int p0), .val (.int p1), .unset, .unset] [(.int (3 : Int32)), (.int p0)])) _
  refine g_idiv X0 hx (hb hby d9_2) (by decide) ?_
  show Goes p.tables e below (T0.setTop (mkF m 3 #[.val (.int p0), .val (.int p1), .unset, .unset] [(.int (p0 / (3 : Int32)))])) _
  refine g_istoreN X0 hx (hb hby d9_3) (l' := #[.val (.int p0), .val (.int p1), .val (.int (p0 / (3 : Int32))), .unset]) rfl ?_
  show Goes p.tables e below (T0.setTop (mkF m 4 #[.val (.int p0), .val (.int p1), .val (.int (p0 / (3 : Int32))), .unset] [])) _
  refine g_iloadN X0 hx (hb hby d9_4) rfl ?_
  show Goes p.tables e below (T0.setTop (mkF m 5 #[.val (.int p0), .val (.int p1), .val (.int (p0 / (3 : Int32))), .unset] [(.int p0)])) _
  refine g_iconst X0 hx (3 : Int32) (hb hby d9_5) rfl ?_
  show Goes p.tables e below (T0.setTop (mkF m 6 #[.val (.int p0), .val (.int p1), .val (.int (p0 / (3 : Int32))), .unset] [(.int (3 : Int32)), (.int p0)])) _
  refine g_irem X0 hx (hb hby d9_6) (by decide) ?_
  show Goes p.tables e below (T0.setTop (mkF m 7 #[.val (.int p0), .val (.int p1), .val (.int (p0 / (3 : Int32))), .unset] [(.int (p0 % (3 : Int32)))])) _
  refine g_istoreN X0 hx (hb hby d9_7) (l' := #[.val (.int p0), .val (.int p1), .val (.int (p0 / (3 : Int32))), .val (.int (p0 % (3 : Int32)))]) rfl ?_
  show Goes p.tables e below (T0.setTop (mkF m 8 #[.val (.int p0), .val (.int p1), .val (.int (p0 / (3 : Int32))), .val (.int (p0 % (3 : Int32)))] [])) _
  refine g_iloadN X0 hx (hb hby d9_8) rfl ?_
  show Goes p.tables e below (T0.setTop (mkF m 9 #[.val (.int p0), .val (.int p1), .val (.int (p0 / (3 : Int32))), .val (.int (p0 % (3 : Int32)))] [(.int p1)])) _
  refine g_if_ne X0 hx (hb hby d9_9) (by decide) (pc' := 27) (by decide) (fun c9 => ?_) (fun c9 => ?_)
  · skip
    show Goes p.tables e below (T0.setTop (mkF m 27 #[.val (.int p0), .val (.int p1), .val (.int (p0 / (3 : Int32))), .val (.int (p0 % (3 : Int32)))] [])) _
    refine g_iloadN X0 hx (hb hby d9_27) rfl ?_
    show Goes p.tables e below (T0.setTop (mkF m 28 #[.val (.int p0), .val (.int p1), .val (.int (p0 / (3 : Int32))), .val (.int (p0 % (3 : Int32)))] [(.int p1)])) _
    refine g_iconst X0 hx (1 : Int32) (hb hby d9_28) rfl ?_
    show Goes p.tables e below (T0.setTop (mkF m 29 #[.val (.int p0), .val (.int p1), .val (.int (p0 / (3 : Int32))), .val (.int (p0 % (3 : Int32)))] [(.int (1 : Int32)), (.int p1)])) _
    refine g_icmp_ne X0 hx (hb hby d9_29) (by decide) (pc' := 46) (by decide) (fun c29 => ?_) (fun c29 => ?_)
    · skip
      show Goes p.tables e below (T0.setTop (mkF m 46 #[.val (.int p0), .val (.int p1), .val (.int (p0 / (3 : Int32))), .val (.int (p0 % (3 : Int32)))] [])) _
      refine g_iloadN X0 hx (hb hby d9_46) rfl ?_
      show Goes p.tables e below (T0.setTop (mkF m 47 #[.val (.int p0), .val (.int p1), .val (.int (p0 / (3 : Int32))), .val (.int (p0 % (3 : Int32)))] [(.int p1)])) _
      refine g_iconst X0 hx (2 : Int32) (hb hby d9_47) rfl ?_
      show Goes p.tables e below (T0.setTop (mkF m 48 #[.val (.int p0), .val (.int p1), .val (.int (p0 / (3 : Int32))), .val (.int (p0 % (3 : Int32)))] [(.int (2 : Int32)), (.int p1)])) _
      refine g_icmp_ne X0 hx (hb hby d9_48) (by decide) (pc' := 66) (by decide) (fun c48 => ?_) (fun c48 => ?_)
      · skip
        show Goes p.tables e below (T0.setTop (mkF m 66 #[.val (.int p0), .val (.int p1), .val (.int (p0 / (3 : Int32))), .val (.int (p0 % (3 : Int32)))] [])) _
        refine g_iloadN X0 hx (hb hby d9_66) rfl ?_
        show Goes p.tables e below (T0.setTop (mkF m 67 #[.val (.int p0), .val (.int p1), .val (.int (p0 / (3 : Int32))), .val (.int (p0 % (3 : Int32)))] [(.int (p0 % (3 : Int32)))])) _
        refine g_if_le X0 hx (hb hby d9_67) (by decide) (pc' := 76) (by decide) (fun c67 => ?_) (fun c67 => ?_)
        · skip
          show Goes p.tables e below (T0.setTop (mkF m 76 #[.val (.int p0), .val (.int p1), .val (.int (p0 / (3 : Int32))), .val (.int (p0 % (3 : Int32)))] [])) _
          refine g_iloadN X0 hx (hb hby d9_76) rfl ?_
          show Goes p.tables e below (T0.setTop (mkF m 77 #[.val (.int p0), .val (.int p1), .val (.int (p0 / (3 : Int32))), .val (.int (p0 % (3 : Int32)))] [(.int p0)])) _
          refine g_iconst X0 hx (1 : Int32) (hb hby d9_77) rfl ?_
          show Goes p.tables e below (T0.setTop (mkF m 78 #[.val (.int p0), .val (.int p1), .val (.int (p0 / (3 : Int32))), .val (.int (p0 % (3 : Int32)))] [(.int (1 : Int32)), (.int p0)])) _
          refine g_iadd X0 hx (hb hby d9_78) ?_
          show Goes p.tables e below (T0.setTop (mkF m 79 #[.val (.int p0), .val (.int p1), .val (.int (p0 / (3 : Int32))), .val (.int (p0 % (3 : Int32)))] [(.int (p0 + (1 : Int32)))])) _
          exact g_retI X0 hx hret hlk (hb hby d9_79) (by decide) (by decide) ⟨by rw [nbV, if_neg c9, if_neg c29, if_neg c48, if_neg c67], e0, rfl⟩
        · skip
          show Goes p.tables e below (T0.setTop (mkF m 70 #[.val (.int p0), .val (.int p1), .val (.int (p0 / (3 : Int32))), .val (.int (p0 % (3 : Int32)))] [])) _
          refine g_iloadN X0 hx (hb hby d9_70) rfl ?_
          show Goes p.tables e below (T0.setTop (mkF m 71 #[.val (.int p0), .val (.int p1), .val (.int (p0 / (3 : Int32))), .val (.int (p0 % (3 : Int32)))] [(.int p0)])) _
          refine g_iconst X0 hx (1 : Int32) (hb hby d9_71) rfl ?_
          show Goes p.tables e below (T0.setTop (mkF m 72 #[.val (.int p0), .val (.int p1), .val (.int (p0 / (3 : Int32))), .val (.int (p0 % (3 : Int32)))] [(.int (1 : Int32)), (.int p0)])) _
          refine g_isub X0 hx (hb hby d9_72) ?_
          show Goes p.tables e below (T0.setTop (mkF m 73 #[.val (.int p0), .val (.int p1), .val (.int (p0 / (3 : Int32))), .val (.int (p0 % (3 : Int32)))] [(.int (p0 - (1 : Int32)))])) _
          refine g_goto X0 hx (hb hby d9_73) (by decide) (pc' := 79) (by decide) ?_
          show Goes p.tables e below (T0.setTop (mkF m 79 #[.val (.int p0), .val (.int p1), .val (.int (p0 / (3 : Int32))), .val (.int (p0 % (3 : Int32)))] [(.int (p0 - (1 : Int32)))])) _
          exact g_retI X0 hx hret hlk (hb hby d9_79) (by decide) (by decide) ⟨by rw [nbV, if_neg c9, if_neg c29, if_neg c48, if_pos c67], e0, rfl⟩
      · skip
        show Goes p.tables e below (T0.setTop (mkF m 51 #[.val (.int p0), .val (.int p1), .val (.int (p0 / (3 : Int32))), .val (.int (p0 % (3 : Int32)))] [])) _
        refine g_iloadN X0 hx (hb hby d9_51) rfl ?_
        show Goes p.tables e below (T0.setTop (mkF m 52 #[.val (.int p0), .val (.int p1), .val (.int (p0 / (3 : Int32))), .val (.int (p0 % (3 : Int32)))] [(.int (p0 % (3 : Int32)))])) _
        refine g_iconst X0 hx (2 : Int32) (hb hby d9_52) rfl ?_
        show Goes p.tables e below (T0.setTop (mkF m 53 #[.val (.int p0), .val (.int p1), .val (.int (p0 / (3 : Int32))), .val (.int (p0 % (3 : Int32)))] [(.int (2 : Int32)), (.int (p0 % (3 : Int32)))])) _
        refine g_icmp_ge X0 hx (hb hby d9_53) (by decide) (pc' := 62) (by decide) (fun c53 => ?_) (fun c53 => ?_)
        · skip
          show Goes p.tables e below (T0.setTop (mkF m 62 #[.val (.int p0), .val (.int p1), .val (.int (p0 / (3 : Int32))), .val (.int (p0 % (3 : Int32)))] [])) _
          refine g_iloadN X0 hx (hb hby d9_62) rfl ?_
          show Goes p.tables e below (T0.setTop (mkF m 63 #[.val (.int p0), .val (.int p1), .val (.int (p0 / (3 : Int32))), .val (.int (p0 % (3 : Int32)))] [(.int p0)])) _
          refine g_iconst X0 hx (1 : Int32) (hb hby d9_63) rfl ?_
          show Goes p.tables e below (T0.setTop (mkF m 64 #[.val (.int p0), .val (.int p1), .val (.int (p0 / (3 : Int32))), .val (.int (p0 % (3 : Int32)))] [(.int (1 : Int32)), (.int p0)])) _
          refine g_isub X0 hx (hb hby d9_64) ?_
          show Goes p.tables e below (T0.setTop (mkF m 65 #[.val (.int p0), .val (.int p1), .val (.int (p0 / (3 : Int32))), .val (.int (p0 % (3 : Int32)))] [(.int (p0 - (1 : Int32)))])) _
          exact g_retI X0 hx hret hlk (hb hby d9_65) (by decide) (by decide) ⟨by rw [nbV, if_neg c9, if_neg c29, if_pos c48, if_neg c53], e0, rfl⟩
        · skip
          show Goes p.tables e below (T0.setTop (mkF m 56 #[.val (.int p0), .val (.int p1), .val (.int (p0 / (3 : Int32))), .val (.int (p0 % (3 : Int32)))] [])) _
          refine g_iloadN X0 hx (hb hby d9_56) rfl ?_
          show Goes p.tables e below (T0.setTop (mkF m 57 #[.val (.int p0), .val (.int p1), .val (.int (p0 / (3 : Int32))), .val (.int (p0 % (3 : Int32)))] [(.int p0)])) _
          refine g_iconst X0 hx (1 : Int32) (hb hby d9_57) rfl ?_
          show Goes p.tables e below (T0.setTop (mkF m 58 #[.val (.int p0), .val (.int p1), .val (.int (p0 / (3 : Int32))), .val (.int (p0 % (3 : Int32)))] [(.int (1 : Int32)), (.int p0)])) _
          refine g_iadd X0 hx (hb hby d9_58) ?_
          show Goes p.tables e below (T0.setTop (mkF m 59 #[.val (.int p0), .val (.int p1), .val (.int (p0 / (3 : Int32))), .val (.int (p0 % (3 : Int32)))] [(.int (p0 + (1 : Int32)))])) _
          refine g_goto X0 hx (hb hby d9_59) (by decide) (pc' := 65) (by decide) ?_
          show Goes p.tables e below (T0.setTop (mkF m 65 #[.val (.int p0), .val (.int p1), .val (.int (p0 / (3 : Int32))), .val (.int (p0 % (3 : Int32)))] [(.int (p0 + (1 : Int32)))])) _
          exact g_retI X0 hx hret hlk (hb hby d9_65) (by decide) (by decide) ⟨by rw [nbV, if_neg c9, if_neg c29, if_pos c48, if_pos c53], e0, rfl⟩
    · skip
      show Goes p.tables e below (T0.setTop (mkF m 32 #[.val (.int p0), .val (.int p1), .val (.int (p0 / (3 : Int32))), .val (.int (p0 % (3 : Int32)))] [])) _
      refine g_iloadN X0 hx (hb hby d9_32) rfl ?_
      show Goes p.tables e below (T0.setTop (mkF m 33 #[.val (.int p0), .val (.int p1), .val (.int (p0 / (3 : Int32))), .val (.int (p0 % (3 : Int32)))] [(.int (p0 / (3 : Int32)))])) _
      refine g_if_le X0 hx (hb hby d9_33) (by decide) (pc' := 42) (by decide) (fun c33 => ?_) (fun c33 => ?_)
      · skip
        show Goes p.tables e below (T0.setTop (mkF m 42 #[.val (.int p0), .val (.int p1), .val (.int (p0 / (3 : Int32))), .val (.int (p0 % (3 : Int32)))] [])) _
        refine g_iloadN X0 hx (hb hby d9_42) rfl ?_
        show Goes p.tables e below (T0.setTop (mkF m 43 #[.val (.int p0), .val (.int p1), .val (.int (p0 / (3 : Int32))), .val (.int (p0 % (3 : Int32)))] [(.int p0)])) _
        refine g_iconst X0 hx (3 : Int32) (hb hby d9_43) rfl ?_
        show Goes p.tables e below (T0.setTop (mkF m 44 #[.val (.int p0), .val (.int p1), .val (.int (p0 / (3 : Int32))), .val (.int (p0 % (3 : Int32)))] [(.int (3 : Int32)), (.int p0)])) _
        refine g_iadd X0 hx (hb hby d9_44) ?_
        show Goes p.tables e below (T0.setTop (mkF m 45 #[.val (.int p0), .val (.int p1), .val (.int (p0 / (3 : Int32))), .val (.int (p0 % (3 : Int32)))] [(.int (p0 + (3 : Int32)))])) _
        exact g_retI X0 hx hret hlk (hb hby d9_45) (by decide) (by decide) ⟨by rw [nbV, if_neg c9, if_pos c29, if_neg c33], e0, rfl⟩
      · skip
        show Goes p.tables e below (T0.setTop (mkF m 36 #[.val (.int p0), .val (.int p1), .val (.int (p0 / (3 : Int32))), .val (.int (p0 % (3 : Int32)))] [])) _
        refine g_iloadN X0 hx (hb hby d9_36) rfl ?_
        show Goes p.tables e below (T0.setTop (mkF m 37 #[.val (.int p0), .val (.int p1), .val (.int (p0 / (3 : Int32))), .val (.int (p0 % (3 : Int32)))] [(.int p0)])) _
        refine g_iconst X0 hx (3 : Int32) (hb hby d9_37) rfl ?_
        show Goes p.tables e below (T0.setTop (mkF m 38 #[.val (.int p0), .val (.int p1), .val (.int (p0 / (3 : Int32))), .val (.int (p0 % (3 : Int32)))] [(.int (3 : Int32)), (.int p0)])) _
        refine g_isub X0 hx (hb hby d9_38) ?_
        show Goes p.tables e below (T0.setTop (mkF m 39 #[.val (.int p0), .val (.int p1), .val (.int (p0 / (3 : Int32))), .val (.int (p0 % (3 : Int32)))] [(.int (p0 - (3 : Int32)))])) _
        refine g_goto X0 hx (hb hby d9_39) (by decide) (pc' := 45) (by decide) ?_
        show Goes p.tables e below (T0.setTop (mkF m 45 #[.val (.int p0), .val (.int p1), .val (.int (p0 / (3 : Int32))), .val (.int (p0 % (3 : Int32)))] [(.int (p0 - (3 : Int32)))])) _
        exact g_retI X0 hx hret hlk (hb hby d9_45) (by decide) (by decide) ⟨by rw [nbV, if_neg c9, if_pos c29, if_pos c33], e0, rfl⟩
  · skip
    show Goes p.tables e below (T0.setTop (mkF m 12 #[.val (.int p0), .val (.int p1), .val (.int (p0 / (3 : Int32))), .val (.int (p0 % (3 : Int32)))] [])) _
    refine g_iloadN X0 hx (hb hby d9_12) rfl ?_
    show Goes p.tables e below (T0.setTop (mkF m 13 #[.val (.int p0), .val (.int p1), .val (.int (p0 / (3 : Int32))), .val (.int (p0 % (3 : Int32)))] [(.int (p0 / (3 : Int32)))])) _
    refine g_iconst X0 hx (2 : Int32) (hb hby d9_13) rfl ?_
    show Goes p.tables e below (T0.setTop (mkF m 14 #[.val (.int p0), .val (.int p1), .val (.int (p0 / (3 : Int32))), .val (.int (p0 % (3 : Int32)))] [(.int (2 : Int32)), (.int (p0 / (3 : Int32)))])) _
    refine g_icmp_ge X0 hx (hb hby d9_14) (by decide) (pc' := 23) (by decide) (fun c14 => ?_) (fun c14 => ?_)
    · skip
      show Goes p.tables e below (T0.setTop (mkF m 23 #[.val (.int p0), .val (.int p1), .val (.int (p0 / (3 : Int32))), .val (.int (p0 % (3 : Int32)))] [])) _
      refine g_iloadN X0 hx (hb hby d9_23) rfl ?_
      show Goes p.tables e below (T0.setTop (mkF m 24 #[.val (.int p0), .val (.int p1), .val (.int (p0 / (3 : Int32))), .val (.int (p0 % (3 : Int32)))] [(.int p0)])) _
      refine g_iconst X0 hx (3 : Int32) (hb hby d9_24) rfl ?_
      show Goes p.tables e below (T0.setTop (mkF m 25 #[.val (.int p0), .val (.int p1), .val (.int (p0 / (3 : Int32))), .val (.int (p0 % (3 : Int32)))] [(.int (3 : Int32)), (.int p0)])) _
      refine g_isub X0 hx (hb hby d9_25) ?_
      show Goes p.tables e below (T0.setTop (mkF m 26 #[.val (.int p0), .val (.int p1), .val (.int (p0 / (3 : Int32))), .val (.int (p0 % (3 : Int32)))] [(.int (p0 - (3 : Int32)))])) _
      exact g_retI X0 hx hret hlk (hb hby d9_26) (by decide) (by decide) ⟨by rw [nbV, if_pos c9, if_neg c14], e0, rfl⟩
    · skip
      show Goes p.tables e below (T0.setTop (mkF m 17 #[.val (.int p0), .val (.int p1), .val (.int (p0 / (3 : Int32))), .val (.int (p0 % (3 : Int32)))] [])) _
      refine g_iloadN X0 hx (hb hby d9_17) rfl ?_
      show Goes p.tables e below (T0.setTop (mkF m 18 #[.val (.int p0), .val (.int p1), .val (.int (p0 / (3 : Int32))), .val (.int (p0 % (3 : Int32)))] [(.int p0)])) _
      refine g_iconst X0 hx (3 : Int32) (hb hby d9_18) rfl ?_
      show Goes p.tables e below (T0.setTop (mkF m 19 #[.val (.int p0), .val (.int p1), .val (.int (p0 / (3 : Int32))), .val (.int (p0 % (3 : Int32)))] [(.int (3 : Int32)), (.int p0)])) _
      refine g_iadd X0 hx (hb hby d9_19) ?_
      show Goes p.tables e below (T0.setTop (mkF m 20 #[.val (.int p0), .val (.int p1), .val (.int (p0 / (3 : Int32))), .val (.int (p0 % (3 : Int32)))] [(.int (p0 + (3 : Int32)))])) _
      refine g_goto X0 hx (hb hby d9_20) (by decide) (pc' := 26) (by decide) ?_
      show Goes p.tables e below (T0.setTop (mkF m 26 #[.val (.int p0), .val (.int p1), .val (.int (p0 / (3 : Int32))), .val (.int (p0 % (3 : Int32)))] [(.int (p0 + (3 : Int32)))])) _
      exact g_retI X0 hx hret hlk (hb hby d9_26) (by decide) (by decide) ⟨by rw [nbV, if_pos c9, if_pos c14], e0, rfl⟩
theorem d8_0 : decode method_2_code 0 = .ok (.iload_n 0, 1) := by decide +kernel
theorem d8_1 : decode method_2_code 1 = .ok (.ifCond .ne 5, 3) := by decide +kernel
theorem d8_4 : decode method_2_code 4 = .ok (.iconst 0, 1) := by decide +kernel
theorem d8_5 : decode method_2_code 5 = .ok (.ireturn, 1) := by decide +kernel
theorem d8_6 : decode method_2_code 6 = .ok (.iload_n 0, 1) := by decide +kernel
theorem d8_7 : decode method_2_code 7 = .ok (.iconst 1, 1) := by decide +kernel
theorem d8_8 : decode method_2_code 8 = .ok (.isub, 1) := by decide +kernel
theorem d8_9 : decode method_2_code 9 = .ok (.istore_n 2, 1) := by decide +kernel
theorem d8_10 : decode method_2_code 10 = .ok (.iload_n 2, 1) := by decide +kernel
theorem d8_11 : decode method_2_code 11 = .ok (.iconst 3, 1) := by decide +kernel
theorem d8_12 : decode method_2_code 12 = .ok (.idiv, 1) := by decide +kernel
theorem d8_13 : decode method_2_code 13 = .ok (.iload_n 1, 1) := by decide +kernel
theorem d8_14 : decode method_2_code 14 = .ok (.iconst 3, 1) := by decide +kernel
theorem d8_15 : decode method_2_code 15 = .ok (.idiv, 1) := by decide +kernel
theorem d8_16 : decode method_2_code 16 = .ok (.isub, 1) := by decide +kernel
theorem d8_17 : decode method_2_code 17 = .ok (.invokestatic 7, 3) := by decide +kernel
theorem d8_20 : decode method_2_code 20 = .ok (.iload_n 2, 1) := by decide +kernel
theorem d8_21 : decode method_2_code 21 = .ok (.iconst 3, 1) := by decide +kernel
theorem d8_22 : decode method_2_code 22 = .ok (.irem, 1) := by decide +kernel
theorem d8_23 : decode method_2_code 23 = .ok (.iload_n 1, 1) := by decide +kernel
theorem d8_24 : decode method_2_code 24 = .ok (.iconst 3, 1) := by decide +kernel
theorem d8_25 : decode method_2_code 25 = .ok (.irem, 1) := by decide +kernel
theorem d8_26 : decode method_2_code 26 = .ok (.isub, 1) := by decide +kernel
theorem d8_27 : decode method_2_code 27 = .ok (.invokestatic 7, 3) := by decide +kernel
theorem d8_30 : decode method_2_code 30 = .ok (.iadd, 1) := by decide +kernel
theorem d8_31 : decode method_2_code 31 = .ok (.ireturn, 1) := by decide +kernel
theorem pd_8 : parseMethodDescriptor "(II)I" = some ⟨[.int, .int], some .int⟩ := by decide +kernel
theorem ef_8 (m : MethodId) (p0 : Int32) (p1 : Int32) : entryFrame m #[(.int p0), (.int p1)] 3 = mkF m 0 #[.val (.int p0), .val (.int p1), .unset] [] := by first | (simp [entryFrame, mkF, argsToLocals, Value.category]; done) | rfl
def dV (v c : Int32) : Int32 := if v = 0 then 0 else absV ((v - 1) / 3 - c / 3) + absV ((v - 1) % 3 - c % 3)
set_option maxRecDepth 65536 in
set_option maxHeartbeats 40000000 in
theorem rmD (l : Launch) (Z : State) (a0 : Array Value) (hw : ∀ d ∈ tables_1, d.before a0 Z = true) (p0 : Int32) (p1 : Int32) (h0 : Heap)  :
    Con l Z (⟨"com/example/slidewise/slidewise/search/ManhattanTrackerSlidePinLaw", "d", "(II)I"⟩ : MethodName) method_2_code 3 (some .int) [] ({ frames := 1, cells := 0, slots := 0, locals := 13 } : Room) 0 0 #[(.int p0), (.int p1)] h0 (fun v h L => v = some (.int (dV p0 p1)) ∧ h = h0 ∧ L = []) := by
  refine Con.body (plainFor_of_name (by first | (simp [plainName, overriddenIn]; done) | decide +kernel)) ?_
  intro p e s m below meth c T0 hx hby hml hown hnm hZ hret hlk X0 e0
  refine Goes.cast (ef_8 m p0 p1) ?_
  show Goes p.tables e below (T0.setTop (mkF m 0 #[.val (.int p0), .val (.int p1), .unset] [])) _
  refine g_iloadN X0 hx (hb hby d8_0) rfl ?_
  show Goes p.tables e below (T0.setTop (mkF m 1 #[.val (.int p0), .val (.int p1), .unset] [(.int p0)])) _
  refine g_if_ne X0 hx (hb hby d8_1) (by decide) (pc' := 6) (by decide) (fun c1 => ?_) (fun c1 => ?_)
  · skip
    show Goes p.tables e below (T0.setTop (mkF m 6 #[.val (.int p0), .val (.int p1), .unset] [])) _
    refine g_iloadN X0 hx (hb hby d8_6) rfl ?_
    show Goes p.tables e below (T0.setTop (mkF m 7 #[.val (.int p0), .val (.int p1), .unset] [(.int p0)])) _
    refine g_iconst X0 hx (1 : Int32) (hb hby d8_7) rfl ?_
    show Goes p.tables e below (T0.setTop (mkF m 8 #[.val (.int p0), .val (.int p1), .unset] [(.int (1 : Int32)), (.int p0)])) _
    refine g_isub X0 hx (hb hby d8_8) ?_
    show Goes p.tables e below (T0.setTop (mkF m 9 #[.val (.int p0), .val (.int p1), .unset] [(.int (p0 - (1 : Int32)))])) _
    refine g_istoreN X0 hx (hb hby d8_9) (l' := #[.val (.int p0), .val (.int p1), .val (.int (p0 - (1 : Int32)))]) rfl ?_
    show Goes p.tables e below (T0.setTop (mkF m 10 #[.val (.int p0), .val (.int p1), .val (.int (p0 - (1 : Int32)))] [])) _
    refine g_iloadN X0 hx (hb hby d8_10) rfl ?_
    show Goes p.tables e below (T0.setTop (mkF m 11 #[.val (.int p0), .val (.int p1), .val (.int (p0 - (1 : Int32)))] [(.int (p0 - (1 : Int32)))])) _
    refine g_iconst X0 hx (3 : Int32) (hb hby d8_11) rfl ?_
    show Goes p.tables e below (T0.setTop (mkF m 12 #[.val (.int p0), .val (.int p1), .val (.int (p0 - (1 : Int32)))] [(.int (3 : Int32)), (.int (p0 - (1 : Int32)))])) _
    refine g_idiv X0 hx (hb hby d8_12) (by decide) ?_
    show Goes p.tables e below (T0.setTop (mkF m 13 #[.val (.int p0), .val (.int p1), .val (.int (p0 - (1 : Int32)))] [(.int ((p0 - (1 : Int32)) / (3 : Int32)))])) _
    refine g_iloadN X0 hx (hb hby d8_13) rfl ?_
    show Goes p.tables e below (T0.setTop (mkF m 14 #[.val (.int p0), .val (.int p1), .val (.int (p0 - (1 : Int32)))] [(.int p1), (.int ((p0 - (1 : Int32)) / (3 : Int32)))])) _
    refine g_iconst X0 hx (3 : Int32) (hb hby d8_14) rfl ?_
    show Goes p.tables e below (T0.setTop (mkF m 15 #[.val (.int p0), .val (.int p1), .val (.int (p0 - (1 : Int32)))] [(.int (3 : Int32)), (.int p1), (.int ((p0 - (1 : Int32)) / (3 : Int32)))])) _
    refine g_idiv X0 hx (hb hby d8_15) (by decide) ?_
    show Goes p.tables e below (T0.setTop (mkF m 16 #[.val (.int p0), .val (.int p1), .val (.int (p0 - (1 : Int32)))] [(.int (p1 / (3 : Int32))), (.int ((p0 - (1 : Int32)) / (3 : Int32)))])) _
    refine g_isub X0 hx (hb hby d8_16) ?_
    show Goes p.tables e below (T0.setTop (mkF m 17 #[.val (.int p0), .val (.int p1), .val (.int (p0 - (1 : Int32)))] [(.int (((p0 - (1 : Int32)) / (3 : Int32)) - (p1 / (3 : Int32))))])) _
    refine g_callS X0 hx hZ hown (by rw [hml]; rfl) e0 (hw _ (List.mem_of_getElem? (i := 41) rfl)) (hw _ (List.mem_of_getElem? (i := 24) rfl)) (hw _ (List.mem_of_getElem? (i := 25) rfl)) (hw _ (List.mem_of_getElem? (i := 26) rfl)) (rmAbs l Z a0 hw (((p0 - (1 : Int32)) / (3 : Int32)) - (p1 / (3 : Int32))) h0) [(.int (((p0 - (1 : Int32)) / (3 : Int32)) - (p1 / (3 : Int32))))] rfl [] rfl (lenOf pd_5 rfl) (hb hby d8_17) (by decide) 0 (by decide) (by decide) (by first | decide | exact Nat.le_refl _) (by decide) (by decide) (fun v T1 L1 X1 hQ1 => ?_)
    obtain ⟨rfl, e1, rfl⟩ := hQ1
    show Goes p.tables e below (T1.setTop (mkF m 20 #[.val (.int p0), .val (.int p1), .val (.int (p0 - (1 : Int32)))] [(.int (absV (((p0 - (1 : Int32)) / (3 : Int32)) - (p1 / (3 : Int32)))))])) _
    refine g_iloadN X1 hx (hb hby d8_20) rfl ?_
    show Goes p.tables e below (T1.setTop (mkF m 21 #[.val (.int p0), .val (.int p1), .val (.int (p0 - (1 : Int32)))] [(.int (p0 - (1 : Int32))), (.int (absV (((p0 - (1 : Int32)) / (3 : Int32)) - (p1 / (3 : Int32)))))])) _
    refine g_iconst X1 hx (3 : Int32) (hb hby d8_21) rfl ?_
    show Goes p.tables e below (T1.setTop (mkF m 22 #[.val (.int p0), .val (.int p1), .val (.int (p0 - (1 : Int32)))] [(.int (3 : Int32)), (.int (p0 - (1 : Int32))), (.int (absV (((p0 - (1 : Int32)) / (3 : Int32)) - (p1 / (3 : Int32)))))])) _
    refine g_irem X1 hx (hb hby d8_22) (by decide) ?_
    show Goes p.tables e below (T1.setTop (mkF m 23 #[.val (.int p0), .val (.int p1), .val (.int (p0 - (1 : Int32)))] [(.int ((p0 - (1 : Int32)) % (3 : Int32))), (.int (absV (((p0 - (1 : Int32)) / (3 : Int32)) - (p1 / (3 : Int32)))))])) _
    refine g_iloadN X1 hx (hb hby d8_23) rfl ?_
    show Goes p.tables e below (T1.setTop (mkF m 24 #[.val (.int p0), .val (.int p1), .val (.int (p0 - (1 : Int32)))] [(.int p1), (.int ((p0 - (1 : Int32)) % (3 : Int32))), (.int (absV (((p0 - (1 : Int32)) / (3 : Int32)) - (p1 / (3 : Int32)))))])) _
    refine g_iconst X1 hx (3 : Int32) (hb hby d8_24) rfl ?_
    show Goes p.tables e below (T1.setTop (mkF m 25 #[.val (.int p0), .val (.int p1), .val (.int (p0 - (1 : Int32)))] [(.int (3 : Int32)), (.int p1), (.int ((p0 - (1 : Int32)) % (3 : Int32))), (.int (absV (((p0 - (1 : Int32)) / (3 : Int32)) - (p1 / (3 : Int32)))))])) _
    refine g_irem X1 hx (hb hby d8_25) (by decide) ?_
    show Goes p.tables e below (T1.setTop (mkF m 26 #[.val (.int p0), .val (.int p1), .val (.int (p0 - (1 : Int32)))] [(.int (p1 % (3 : Int32))), (.int ((p0 - (1 : Int32)) % (3 : Int32))), (.int (absV (((p0 - (1 : Int32)) / (3 : Int32)) - (p1 / (3 : Int32)))))])) _
    refine g_isub X1 hx (hb hby d8_26) ?_
    show Goes p.tables e below (T1.setTop (mkF m 27 #[.val (.int p0), .val (.int p1), .val (.int (p0 - (1 : Int32)))] [(.int (((p0 - (1 : Int32)) % (3 : Int32)) - (p1 % (3 : Int32)))), (.int (absV (((p0 - (1 : Int32)) / (3 : Int32)) - (p1 / (3 : Int32)))))])) _
    refine g_callS X1 hx hZ hown (by rw [hml]; rfl) e1 (hw _ (List.mem_of_getElem? (i := 41) rfl)) (hw _ (List.mem_of_getElem? (i := 24) rfl)) (hw _ (List.mem_of_getElem? (i := 25) rfl)) (hw _ (List.mem_of_getElem? (i := 26) rfl)) (rmAbs l Z a0 hw (((p0 - (1 : Int32)) % (3 : Int32)) - (p1 % (3 : Int32))) h0) [(.int (((p0 - (1 : Int32)) % (3 : Int32)) - (p1 % (3 : Int32))))] rfl [(.int (absV (((p0 - (1 : Int32)) / (3 : Int32)) - (p1 / (3 : Int32)))))] rfl (lenOf pd_5 rfl) (hb hby d8_27) (by decide) 1 (by decide) (by decide) (by first | decide | exact Nat.le_refl _) (by decide) (by decide) (fun v T2 L2 X2 hQ2 => ?_)
    obtain ⟨rfl, e2, rfl⟩ := hQ2
    show Goes p.tables e below (T2.setTop (mkF m 30 #[.val (.int p0), .val (.int p1), .val (.int (p0 - (1 : Int32)))] [(.int (absV (((p0 - (1 : Int32)) % (3 : Int32)) - (p1 % (3 : Int32))))), (.int (absV (((p0 - (1 : Int32)) / (3 : Int32)) - (p1 / (3 : Int32)))))])) _
    refine g_iadd X2 hx (hb hby d8_30) ?_
    show Goes p.tables e below (T2.setTop (mkF m 31 #[.val (.int p0), .val (.int p1), .val (.int (p0 - (1 : Int32)))] [(.int ((absV (((p0 - (1 : Int32)) / (3 : Int32)) - (p1 / (3 : Int32)))) + (absV (((p0 - (1 : Int32)) % (3 : Int32)) - (p1 % (3 : Int32))))))])) _
    exact g_retI X2 hx hret hlk (hb hby d8_31) (by decide) (by decide) ⟨by rw [dV, if_neg c1], e2, rfl⟩
  · skip
    show Goes p.tables e below (T0.setTop (mkF m 4 #[.val (.int p0), .val (.int p1), .unset] [])) _
    refine g_iconst X0 hx (0 : Int32) (hb hby d8_4) rfl ?_
    show Goes p.tables e below (T0.setTop (mkF m 5 #[.val (.int p0), .val (.int p1), .unset] [(.int (0 : Int32))])) _
    exact g_retI X0 hx hret hlk (hb hby d8_5) (by decide) (by decide) ⟨by rw [dV, if_pos c1], e0, rfl⟩
def mdV (xs : List Int32) : Int32 := dV (xs.getD 0 0) 0 + dV (xs.getD 1 0) 1 + dV (xs.getD 2 0) 2 + dV (xs.getD 3 0) 3 + dV (xs.getD 4 0) 4 + dV (xs.getD 5 0) 5 + dV (xs.getD 6 0) 6 + dV (xs.getD 7 0) 7 + dV (xs.getD 8 0) 8
theorem own_at9 {xs : List Int32} (h : xs.length = 9) {i : Nat} (hi : i < 9) : (List.map Value.int xs)[i]? = some (.int (xs.getD i 0)) := by
  rw [List.getElem?_map, List.getElem?_eq_getElem (by omega), List.getD_eq_getElem?_getD, List.getElem?_eq_getElem (by omega)]
  rfl
theorem d7_0 : decode method_3_code 0 = .ok (.aload_n 0, 1) := by decide +kernel
theorem d7_1 : decode method_3_code 1 = .ok (.iconst 0, 1) := by decide +kernel
theorem d7_2 : decode method_3_code 2 = .ok (.iaload, 1) := by decide +kernel
theorem d7_3 : decode method_3_code 3 = .ok (.iconst 0, 1) := by decide +kernel
theorem d7_4 : decode method_3_code 4 = .ok (.invokestatic 13, 3) := by decide +kernel
theorem d7_7 : decode method_3_code 7 = .ok (.aload_n 0, 1) := by decide +kernel
theorem d7_8 : decode method_3_code 8 = .ok (.iconst 1, 1) := by decide +kernel
theorem d7_9 : decode method_3_code 9 = .ok (.iaload, 1) := by decide +kernel
theorem d7_10 : decode method_3_code 10 = .ok (.iconst 1, 1) := by decide +kernel
theorem d7_11 : decode method_3_code 11 = .ok (.invokestatic 13, 3) := by decide +kernel
theorem d7_14 : decode method_3_code 14 = .ok (.iadd, 1) := by decide +kernel
theorem d7_15 : decode method_3_code 15 = .ok (.aload_n 0, 1) := by decide +kernel
theorem d7_16 : decode method_3_code 16 = .ok (.iconst 2, 1) := by decide +kernel
theorem d7_17 : decode method_3_code 17 = .ok (.iaload, 1) := by decide +kernel
theorem d7_18 : decode method_3_code 18 = .ok (.iconst 2, 1) := by decide +kernel
theorem d7_19 : decode method_3_code 19 = .ok (.invokestatic 13, 3) := by decide +kernel
theorem d7_22 : decode method_3_code 22 = .ok (.iadd, 1) := by decide +kernel
theorem d7_23 : decode method_3_code 23 = .ok (.aload_n 0, 1) := by decide +kernel
theorem d7_24 : decode method_3_code 24 = .ok (.iconst 3, 1) := by decide +kernel
theorem d7_25 : decode method_3_code 25 = .ok (.iaload, 1) := by decide +kernel
theorem d7_26 : decode method_3_code 26 = .ok (.iconst 3, 1) := by decide +kernel
theorem d7_27 : decode method_3_code 27 = .ok (.invokestatic 13, 3) := by decide +kernel
theorem d7_30 : decode method_3_code 30 = .ok (.iadd, 1) := by decide +kernel
theorem d7_31 : decode method_3_code 31 = .ok (.aload_n 0, 1) := by decide +kernel
theorem d7_32 : decode method_3_code 32 = .ok (.iconst 4, 1) := by decide +kernel
theorem d7_33 : decode method_3_code 33 = .ok (.iaload, 1) := by decide +kernel
theorem d7_34 : decode method_3_code 34 = .ok (.iconst 4, 1) := by decide +kernel
theorem d7_35 : decode method_3_code 35 = .ok (.invokestatic 13, 3) := by decide +kernel
theorem d7_38 : decode method_3_code 38 = .ok (.iadd, 1) := by decide +kernel
theorem d7_39 : decode method_3_code 39 = .ok (.aload_n 0, 1) := by decide +kernel
theorem d7_40 : decode method_3_code 40 = .ok (.iconst 5, 1) := by decide +kernel
theorem d7_41 : decode method_3_code 41 = .ok (.iaload, 1) := by decide +kernel
theorem d7_42 : decode method_3_code 42 = .ok (.iconst 5, 1) := by decide +kernel
theorem d7_43 : decode method_3_code 43 = .ok (.invokestatic 13, 3) := by decide +kernel
theorem d7_46 : decode method_3_code 46 = .ok (.iadd, 1) := by decide +kernel
theorem d7_47 : decode method_3_code 47 = .ok (.aload_n 0, 1) := by decide +kernel
theorem d7_48 : decode method_3_code 48 = .ok (.bipush 6, 2) := by decide +kernel
theorem d7_50 : decode method_3_code 50 = .ok (.iaload, 1) := by decide +kernel
theorem d7_51 : decode method_3_code 51 = .ok (.bipush 6, 2) := by decide +kernel
theorem d7_53 : decode method_3_code 53 = .ok (.invokestatic 13, 3) := by decide +kernel
theorem d7_56 : decode method_3_code 56 = .ok (.iadd, 1) := by decide +kernel
theorem d7_57 : decode method_3_code 57 = .ok (.aload_n 0, 1) := by decide +kernel
theorem d7_58 : decode method_3_code 58 = .ok (.bipush 7, 2) := by decide +kernel
theorem d7_60 : decode method_3_code 60 = .ok (.iaload, 1) := by decide +kernel
theorem d7_61 : decode method_3_code 61 = .ok (.bipush 7, 2) := by decide +kernel
theorem d7_63 : decode method_3_code 63 = .ok (.invokestatic 13, 3) := by decide +kernel
theorem d7_66 : decode method_3_code 66 = .ok (.iadd, 1) := by decide +kernel
theorem d7_67 : decode method_3_code 67 = .ok (.aload_n 0, 1) := by decide +kernel
theorem d7_68 : decode method_3_code 68 = .ok (.bipush 8, 2) := by decide +kernel
theorem d7_70 : decode method_3_code 70 = .ok (.iaload, 1) := by decide +kernel
theorem d7_71 : decode method_3_code 71 = .ok (.bipush 8, 2) := by decide +kernel
theorem d7_73 : decode method_3_code 73 = .ok (.invokestatic 13, 3) := by decide +kernel
theorem d7_76 : decode method_3_code 76 = .ok (.iadd, 1) := by decide +kernel
theorem d7_77 : decode method_3_code 77 = .ok (.ireturn, 1) := by decide +kernel
theorem pd_7 : parseMethodDescriptor "([I)I" = some ⟨[(.array .int)], some .int⟩ := by decide +kernel
theorem ef_7 (m : MethodId) (p0 : Addr) : entryFrame m #[(.ref p0)] 1 = mkF m 0 #[.val (.ref p0)] [] := by first | (simp [entryFrame, mkF, argsToLocals, Value.category]; done) | rfl
set_option maxRecDepth 65536 in
set_option maxHeartbeats 40000000 in
theorem rmMd (l : Launch) (Z : State) (a0 : Array Value) (hw : ∀ d ∈ tables_1, d.before a0 Z = true) (p0 : Addr) (h0 : Heap) (xs : List Int32) (hl : xs.length = 9) (A0 : Ar Z h0 p0 .int (List.map Value.int xs)) :
    Con l Z (⟨"com/example/slidewise/slidewise/search/ManhattanTrackerSlidePinLaw", "md", "([I)I"⟩ : MethodName) method_3_code 1 (some .int) [] ({ frames := 2, cells := 0, slots := 0, locals := 28 } : Room) 0 0 #[(.ref p0)] h0 (fun v h L => v = some (.int (mdV xs)) ∧ h = h0 ∧ L = []) := by
  refine Con.body (plainFor_of_name (by first | (simp [plainName, overriddenIn]; done) | decide +kernel)) ?_
  intro p e s m below meth c T0 hx hby hml hown hnm hZ hret hlk X0 e0
  refine Goes.cast (ef_7 m p0) ?_
  show Goes p.tables e below (T0.setTop (mkF m 0 #[.val (.ref p0)] [])) _
  refine g_aloadN X0 hx (hb hby d7_0) rfl rfl ?_
  show Goes p.tables e below (T0.setTop (mkF m 1 #[.val (.ref p0)] [(.ref p0)])) _
  refine g_iconst X0 hx (0 : Int32) (hb hby d7_1) rfl ?_
  show Goes p.tables e below (T0.setTop (mkF m 2 #[.val (.ref p0)] [(.int (0 : Int32)), (.ref p0)])) _
  refine g_iaload X0 hx hZ e0 A0 (i := 0) (v := (.int (xs.getD 0 0))) (by decide) (own_at9 hl (by decide)) (hb hby d7_2) ?_
  show Goes p.tables e below (T0.setTop (mkF m 3 #[.val (.ref p0)] [(.int (xs.getD 0 0))])) _
  refine g_iconst X0 hx (0 : Int32) (hb hby d7_3) rfl ?_
  show Goes p.tables e below (T0.setTop (mkF m 4 #[.val (.ref p0)] [(.int (0 : Int32)), (.int (xs.getD 0 0))])) _
  refine g_callS X0 hx hZ hown (by rw [hml]; rfl) e0 (hw _ (List.mem_of_getElem? (i := 38) rfl)) (hw _ (List.mem_of_getElem? (i := 39) rfl)) (hw _ (List.mem_of_getElem? (i := 36) rfl)) (hw _ (List.mem_of_getElem? (i := 40) rfl)) (rmD l Z a0 hw (xs.getD 0 0) (0 : Int32) h0) [(.int (xs.getD 0 0)), (.int (0 : Int32))] rfl [] rfl (lenOf pd_8 rfl) (hb hby d7_4) (by decide) 0 (by decide) (by decide) (by first | decide | exact Nat.le_refl _) (by decide) (by decide) (fun v T1 L1 X1 hQ1 => ?_)
  obtain ⟨rfl, e1, rfl⟩ := hQ1
  show Goes p.tables e below (T1.setTop (mkF m 7 #[.val (.ref p0)] [(.int (dV (xs.getD 0 0) (0 : Int32)))])) _
  refine g_aloadN X1 hx (hb hby d7_7) rfl rfl ?_
  show Goes p.tables e below (T1.setTop (mkF m 8 #[.val (.ref p0)] [(.ref p0), (.int (dV (xs.getD 0 0) (0 : Int32)))])) _
  refine g_iconst X1 hx (1 : Int32) (hb hby d7_8) rfl ?_
  show Goes p.tables e below (T1.setTop (mkF m 9 #[.val (.ref p0)] [(.int (1 : Int32)), (.ref p0), (.int (dV (xs.getD 0 0) (0 : Int32)))])) _
  refine g_iaload X1 hx hZ e1 A0 (i := 1) (v := (.int (xs.getD 1 0))) (by decide) (own_at9 hl (by decide)) (hb hby d7_9) ?_
  show Goes p.tables e below (T1.setTop (mkF m 10 #[.val (.ref p0)] [(.int (xs.getD 1 0)), (.int (dV (xs.getD 0 0) (0 : Int32)))])) _
  refine g_iconst X1 hx (1 : Int32) (hb hby d7_10) rfl ?_
  show Goes p.tables e below (T1.setTop (mkF m 11 #[.val (.ref p0)] [(.int (1 : Int32)), (.int (xs.getD 1 0)), (.int (dV (xs.getD 0 0) (0 : Int32)))])) _
  refine g_callS X1 hx hZ hown (by rw [hml]; rfl) e1 (hw _ (List.mem_of_getElem? (i := 38) rfl)) (hw _ (List.mem_of_getElem? (i := 39) rfl)) (hw _ (List.mem_of_getElem? (i := 36) rfl)) (hw _ (List.mem_of_getElem? (i := 40) rfl)) (rmD l Z a0 hw (xs.getD 1 0) (1 : Int32) h0) [(.int (xs.getD 1 0)), (.int (1 : Int32))] rfl [(.int (dV (xs.getD 0 0) (0 : Int32)))] rfl (lenOf pd_8 rfl) (hb hby d7_11) (by decide) 1 (by decide) (by decide) (by first | decide | exact Nat.le_refl _) (by decide) (by decide) (fun v T2 L2 X2 hQ2 => ?_)
  obtain ⟨rfl, e2, rfl⟩ := hQ2
  show Goes p.tables e below (T2.setTop (mkF m 14 #[.val (.ref p0)] [(.int (dV (xs.getD 1 0) (1 : Int32))), (.int (dV (xs.getD 0 0) (0 : Int32)))])) _
  refine g_iadd X2 hx (hb hby d7_14) ?_
  show Goes p.tables e below (T2.setTop (mkF m 15 #[.val (.ref p0)] [(.int ((dV (xs.getD 0 0) (0 : Int32)) + (dV (xs.getD 1 0) (1 : Int32))))])) _
  refine g_aloadN X2 hx (hb hby d7_15) rfl rfl ?_
  show Goes p.tables e below (T2.setTop (mkF m 16 #[.val (.ref p0)] [(.ref p0), (.int ((dV (xs.getD 0 0) (0 : Int32)) + (dV (xs.getD 1 0) (1 : Int32))))])) _
  refine g_iconst X2 hx (2 : Int32) (hb hby d7_16) rfl ?_
  show Goes p.tables e below (T2.setTop (mkF m 17 #[.val (.ref p0)] [(.int (2 : Int32)), (.ref p0), (.int ((dV (xs.getD 0 0) (0 : Int32)) + (dV (xs.getD 1 0) (1 : Int32))))])) _
  refine g_iaload X2 hx hZ e2 A0 (i := 2) (v := (.int (xs.getD 2 0))) (by decide) (own_at9 hl (by decide)) (hb hby d7_17) ?_
  show Goes p.tables e below (T2.setTop (mkF m 18 #[.val (.ref p0)] [(.int (xs.getD 2 0)), (.int ((dV (xs.getD 0 0) (0 : Int32)) + (dV (xs.getD 1 0) (1 : Int32))))])) _
  refine g_iconst X2 hx (2 : Int32) (hb hby d7_18) rfl ?_
  show Goes p.tables e below (T2.setTop (mkF m 19 #[.val (.ref p0)] [(.int (2 : Int32)), (.int (xs.getD 2 0)), (.int ((dV (xs.getD 0 0) (0 : Int32)) + (dV (xs.getD 1 0) (1 : Int32))))])) _
  refine g_callS X2 hx hZ hown (by rw [hml]; rfl) e2 (hw _ (List.mem_of_getElem? (i := 38) rfl)) (hw _ (List.mem_of_getElem? (i := 39) rfl)) (hw _ (List.mem_of_getElem? (i := 36) rfl)) (hw _ (List.mem_of_getElem? (i := 40) rfl)) (rmD l Z a0 hw (xs.getD 2 0) (2 : Int32) h0) [(.int (xs.getD 2 0)), (.int (2 : Int32))] rfl [(.int ((dV (xs.getD 0 0) (0 : Int32)) + (dV (xs.getD 1 0) (1 : Int32))))] rfl (lenOf pd_8 rfl) (hb hby d7_19) (by decide) 1 (by decide) (by decide) (by first | decide | exact Nat.le_refl _) (by decide) (by decide) (fun v T3 L3 X3 hQ3 => ?_)
  obtain ⟨rfl, e3, rfl⟩ := hQ3
  show Goes p.tables e below (T3.setTop (mkF m 22 #[.val (.ref p0)] [(.int (dV (xs.getD 2 0) (2 : Int32))), (.int ((dV (xs.getD 0 0) (0 : Int32)) + (dV (xs.getD 1 0) (1 : Int32))))])) _
  refine g_iadd X3 hx (hb hby d7_22) ?_
  show Goes p.tables e below (T3.setTop (mkF m 23 #[.val (.ref p0)] [(.int (((dV (xs.getD 0 0) (0 : Int32)) + (dV (xs.getD 1 0) (1 : Int32))) + (dV (xs.getD 2 0) (2 : Int32))))])) _
  refine g_aloadN X3 hx (hb hby d7_23) rfl rfl ?_
  show Goes p.tables e below (T3.setTop (mkF m 24 #[.val (.ref p0)] [(.ref p0), (.int (((dV (xs.getD 0 0) (0 : Int32)) + (dV (xs.getD 1 0) (1 : Int32))) + (dV (xs.getD 2 0) (2 : Int32))))])) _
  refine g_iconst X3 hx (3 : Int32) (hb hby d7_24) rfl ?_
  show Goes p.tables e below (T3.setTop (mkF m 25 #[.val (.ref p0)] [(.int (3 : Int32)), (.ref p0), (.int (((dV (xs.getD 0 0) (0 : Int32)) + (dV (xs.getD 1 0) (1 : Int32))) + (dV (xs.getD 2 0) (2 : Int32))))])) _
  refine g_iaload X3 hx hZ e3 A0 (i := 3) (v := (.int (xs.getD 3 0))) (by decide) (own_at9 hl (by decide)) (hb hby d7_25) ?_
  show Goes p.tables e below (T3.setTop (mkF m 26 #[.val (.ref p0)] [(.int (xs.getD 3 0)), (.int (((dV (xs.getD 0 0) (0 : Int32)) + (dV (xs.getD 1 0) (1 : Int32))) + (dV (xs.getD 2 0) (2 : Int32))))])) _
  refine g_iconst X3 hx (3 : Int32) (hb hby d7_26) rfl ?_
  show Goes p.tables e below (T3.setTop (mkF m 27 #[.val (.ref p0)] [(.int (3 : Int32)), (.int (xs.getD 3 0)), (.int (((dV (xs.getD 0 0) (0 : Int32)) + (dV (xs.getD 1 0) (1 : Int32))) + (dV (xs.getD 2 0) (2 : Int32))))])) _
  refine g_callS X3 hx hZ hown (by rw [hml]; rfl) e3 (hw _ (List.mem_of_getElem? (i := 38) rfl)) (hw _ (List.mem_of_getElem? (i := 39) rfl)) (hw _ (List.mem_of_getElem? (i := 36) rfl)) (hw _ (List.mem_of_getElem? (i := 40) rfl)) (rmD l Z a0 hw (xs.getD 3 0) (3 : Int32) h0) [(.int (xs.getD 3 0)), (.int (3 : Int32))] rfl [(.int (((dV (xs.getD 0 0) (0 : Int32)) + (dV (xs.getD 1 0) (1 : Int32))) + (dV (xs.getD 2 0) (2 : Int32))))] rfl (lenOf pd_8 rfl) (hb hby d7_27) (by decide) 1 (by decide) (by decide) (by first | decide | exact Nat.le_refl _) (by decide) (by decide) (fun v T4 L4 X4 hQ4 => ?_)
  obtain ⟨rfl, e4, rfl⟩ := hQ4
  show Goes p.tables e below (T4.setTop (mkF m 30 #[.val (.ref p0)] [(.int (dV (xs.getD 3 0) (3 : Int32))), (.int (((dV (xs.getD 0 0) (0 : Int32)) + (dV (xs.getD 1 0) (1 : Int32))) + (dV (xs.getD 2 0) (2 : Int32))))])) _
  refine g_iadd X4 hx (hb hby d7_30) ?_
  show Goes p.tables e below (T4.setTop (mkF m 31 #[.val (.ref p0)] [(.int ((((dV (xs.getD 0 0) (0 : Int32)) + (dV (xs.getD 1 0) (1 : Int32))) + (dV (xs.getD 2 0) (2 : Int32))) + (dV (xs.getD 3 0) (3 : Int32))))])) _
  refine g_aloadN X4 hx (hb hby d7_31) rfl rfl ?_
  show Goes p.tables e below (T4.setTop (mkF m 32 #[.val (.ref p0)] [(.ref p0), (.int ((((dV (xs.getD 0 0) (0 : Int32)) + (dV (xs.getD 1 0) (1 : Int32))) + (dV (xs.getD 2 0) (2 : Int32))) + (dV (xs.getD 3 0) (3 : Int32))))])) _
  refine g_iconst X4 hx (4 : Int32) (hb hby d7_32) rfl ?_
  show Goes p.tables e below (T4.setTop (mkF m 33 #[.val (.ref p0)] [(.int (4 : Int32)), (.ref p0), (.int ((((dV (xs.getD 0 0) (0 : Int32)) + (dV (xs.getD 1 0) (1 : Int32))) + (dV (xs.getD 2 0) (2 : Int32))) + (dV (xs.getD 3 0) (3 : Int32))))])) _
  refine g_iaload X4 hx hZ e4 A0 (i := 4) (v := (.int (xs.getD 4 0))) (by decide) (own_at9 hl (by decide)) (hb hby d7_33) ?_
  show Goes p.tables e below (T4.setTop (mkF m 34 #[.val (.ref p0)] [(.int (xs.getD 4 0)), (.int ((((dV (xs.getD 0 0) (0 : Int32)) + (dV (xs.getD 1 0) (1 : Int32))) + (dV (xs.getD 2 0) (2 : Int32))) + (dV (xs.getD 3 0) (3 : Int32))))])) _
  refine g_iconst X4 hx (4 : Int32) (hb hby d7_34) rfl ?_
  show Goes p.tables e below (T4.setTop (mkF m 35 #[.val (.ref p0)] [(.int (4 : Int32)), (.int (xs.getD 4 0)), (.int ((((dV (xs.getD 0 0) (0 : Int32)) + (dV (xs.getD 1 0) (1 : Int32))) + (dV (xs.getD 2 0) (2 : Int32))) + (dV (xs.getD 3 0) (3 : Int32))))])) _
  refine g_callS X4 hx hZ hown (by rw [hml]; rfl) e4 (hw _ (List.mem_of_getElem? (i := 38) rfl)) (hw _ (List.mem_of_getElem? (i := 39) rfl)) (hw _ (List.mem_of_getElem? (i := 36) rfl)) (hw _ (List.mem_of_getElem? (i := 40) rfl)) (rmD l Z a0 hw (xs.getD 4 0) (4 : Int32) h0) [(.int (xs.getD 4 0)), (.int (4 : Int32))] rfl [(.int ((((dV (xs.getD 0 0) (0 : Int32)) + (dV (xs.getD 1 0) (1 : Int32))) + (dV (xs.getD 2 0) (2 : Int32))) + (dV (xs.getD 3 0) (3 : Int32))))] rfl (lenOf pd_8 rfl) (hb hby d7_35) (by decide) 1 (by decide) (by decide) (by first | decide | exact Nat.le_refl _) (by decide) (by decide) (fun v T5 L5 X5 hQ5 => ?_)
  obtain ⟨rfl, e5, rfl⟩ := hQ5
  show Goes p.tables e below (T5.setTop (mkF m 38 #[.val (.ref p0)] [(.int (dV (xs.getD 4 0) (4 : Int32))), (.int ((((dV (xs.getD 0 0) (0 : Int32)) + (dV (xs.getD 1 0) (1 : Int32))) + (dV (xs.getD 2 0) (2 : Int32))) + (dV (xs.getD 3 0) (3 : Int32))))])) _
  refine g_iadd X5 hx (hb hby d7_38) ?_
  show Goes p.tables e below (T5.setTop (mkF m 39 #[.val (.ref p0)] [(.int (((((dV (xs.getD 0 0) (0 : Int32)) + (dV (xs.getD 1 0) (1 : Int32))) + (dV (xs.getD 2 0) (2 : Int32))) + (dV (xs.getD 3 0) (3 : Int32))) + (dV (xs.getD 4 0) (4 : Int32))))])) _
  refine g_aloadN X5 hx (hb hby d7_39) rfl rfl ?_
  show Goes p.tables e below (T5.setTop (mkF m 40 #[.val (.ref p0)] [(.ref p0), (.int (((((dV (xs.getD 0 0) (0 : Int32)) + (dV (xs.getD 1 0) (1 : Int32))) + (dV (xs.getD 2 0) (2 : Int32))) + (dV (xs.getD 3 0) (3 : Int32))) + (dV (xs.getD 4 0) (4 : Int32))))])) _
  refine g_iconst X5 hx (5 : Int32) (hb hby d7_40) rfl ?_
  show Goes p.tables e below (T5.setTop (mkF m 41 #[.val (.ref p0)] [(.int (5 : Int32)), (.ref p0), (.int (((((dV (xs.getD 0 0) (0 : Int32)) + (dV (xs.getD 1 0) (1 : Int32))) + (dV (xs.getD 2 0) (2 : Int32))) + (dV (xs.getD 3 0) (3 : Int32))) + (dV (xs.getD 4 0) (4 : Int32))))])) _
  refine g_iaload X5 hx hZ e5 A0 (i := 5) (v := (.int (xs.getD 5 0))) (by decide) (own_at9 hl (by decide)) (hb hby d7_41) ?_
  show Goes p.tables e below (T5.setTop (mkF m 42 #[.val (.ref p0)] [(.int (xs.getD 5 0)), (.int (((((dV (xs.getD 0 0) (0 : Int32)) + (dV (xs.getD 1 0) (1 : Int32))) + (dV (xs.getD 2 0) (2 : Int32))) + (dV (xs.getD 3 0) (3 : Int32))) + (dV (xs.getD 4 0) (4 : Int32))))])) _
  refine g_iconst X5 hx (5 : Int32) (hb hby d7_42) rfl ?_
  show Goes p.tables e below (T5.setTop (mkF m 43 #[.val (.ref p0)] [(.int (5 : Int32)), (.int (xs.getD 5 0)), (.int (((((dV (xs.getD 0 0) (0 : Int32)) + (dV (xs.getD 1 0) (1 : Int32))) + (dV (xs.getD 2 0) (2 : Int32))) + (dV (xs.getD 3 0) (3 : Int32))) + (dV (xs.getD 4 0) (4 : Int32))))])) _
  refine g_callS X5 hx hZ hown (by rw [hml]; rfl) e5 (hw _ (List.mem_of_getElem? (i := 38) rfl)) (hw _ (List.mem_of_getElem? (i := 39) rfl)) (hw _ (List.mem_of_getElem? (i := 36) rfl)) (hw _ (List.mem_of_getElem? (i := 40) rfl)) (rmD l Z a0 hw (xs.getD 5 0) (5 : Int32) h0) [(.int (xs.getD 5 0)), (.int (5 : Int32))] rfl [(.int (((((dV (xs.getD 0 0) (0 : Int32)) + (dV (xs.getD 1 0) (1 : Int32))) + (dV (xs.getD 2 0) (2 : Int32))) + (dV (xs.getD 3 0) (3 : Int32))) + (dV (xs.getD 4 0) (4 : Int32))))] rfl (lenOf pd_8 rfl) (hb hby d7_43) (by decide) 1 (by decide) (by decide) (by first | decide | exact Nat.le_refl _) (by decide) (by decide) (fun v T6 L6 X6 hQ6 => ?_)
  obtain ⟨rfl, e6, rfl⟩ := hQ6
  show Goes p.tables e below (T6.setTop (mkF m 46 #[.val (.ref p0)] [(.int (dV (xs.getD 5 0) (5 : Int32))), (.int (((((dV (xs.getD 0 0) (0 : Int32)) + (dV (xs.getD 1 0) (1 : Int32))) + (dV (xs.getD 2 0) (2 : Int32))) + (dV (xs.getD 3 0) (3 : Int32))) + (dV (xs.getD 4 0) (4 : Int32))))])) _
  refine g_iadd X6 hx (hb hby d7_46) ?_
  show Goes p.tables e below (T6.setTop (mkF m 47 #[.val (.ref p0)] [(.int ((((((dV (xs.getD 0 0) (0 : Int32)) + (dV (xs.getD 1 0) (1 : Int32))) + (dV (xs.getD 2 0) (2 : Int32))) + (dV (xs.getD 3 0) (3 : Int32))) + (dV (xs.getD 4 0) (4 : Int32))) + (dV (xs.getD 5 0) (5 : Int32))))])) _
  refine g_aloadN X6 hx (hb hby d7_47) rfl rfl ?_
  show Goes p.tables e below (T6.setTop (mkF m 48 #[.val (.ref p0)] [(.ref p0), (.int ((((((dV (xs.getD 0 0) (0 : Int32)) + (dV (xs.getD 1 0) (1 : Int32))) + (dV (xs.getD 2 0) (2 : Int32))) + (dV (xs.getD 3 0) (3 : Int32))) + (dV (xs.getD 4 0) (4 : Int32))) + (dV (xs.getD 5 0) (5 : Int32))))])) _
  refine g_bipush X6 hx (6 : Int32) (hb hby d7_48) (by decide) ?_
  show Goes p.tables e below (T6.setTop (mkF m 50 #[.val (.ref p0)] [(.int (6 : Int32)), (.ref p0), (.int ((((((dV (xs.getD 0 0) (0 : Int32)) + (dV (xs.getD 1 0) (1 : Int32))) + (dV (xs.getD 2 0) (2 : Int32))) + (dV (xs.getD 3 0) (3 : Int32))) + (dV (xs.getD 4 0) (4 : Int32))) + (dV (xs.getD 5 0) (5 : Int32))))])) _
  refine g_iaload X6 hx hZ e6 A0 (i := 6) (v := (.int (xs.getD 6 0))) (by decide) (own_at9 hl (by decide)) (hb hby d7_50) ?_
  show Goes p.tables e below (T6.setTop (mkF m 51 #[.val (.ref p0)] [(.int (xs.getD 6 0)), (.int ((((((dV (xs.getD 0 0) (0 : Int32)) + (dV (xs.getD 1 0) (1 : Int32))) + (dV (xs.getD 2 0) (2 : Int32))) + (dV (xs.getD 3 0) (3 : Int32))) + (dV (xs.getD 4 0) (4 : Int32))) + (dV (xs.getD 5 0) (5 : Int32))))])) _
  refine g_bipush X6 hx (6 : Int32) (hb hby d7_51) (by decide) ?_
  show Goes p.tables e below (T6.setTop (mkF m 53 #[.val (.ref p0)] [(.int (6 : Int32)), (.int (xs.getD 6 0)), (.int ((((((dV (xs.getD 0 0) (0 : Int32)) + (dV (xs.getD 1 0) (1 : Int32))) + (dV (xs.getD 2 0) (2 : Int32))) + (dV (xs.getD 3 0) (3 : Int32))) + (dV (xs.getD 4 0) (4 : Int32))) + (dV (xs.getD 5 0) (5 : Int32))))])) _
  refine g_callS X6 hx hZ hown (by rw [hml]; rfl) e6 (hw _ (List.mem_of_getElem? (i := 38) rfl)) (hw _ (List.mem_of_getElem? (i := 39) rfl)) (hw _ (List.mem_of_getElem? (i := 36) rfl)) (hw _ (List.mem_of_getElem? (i := 40) rfl)) (rmD l Z a0 hw (xs.getD 6 0) (6 : Int32) h0) [(.int (xs.getD 6 0)), (.int (6 : Int32))] rfl [(.int ((((((dV (xs.getD 0 0) (0 : Int32)) + (dV (xs.getD 1 0) (1 : Int32))) + (dV (xs.getD 2 0) (2 : Int32))) + (dV (xs.getD 3 0) (3 : Int32))) + (dV (xs.getD 4 0) (4 : Int32))) + (dV (xs.getD 5 0) (5 : Int32))))] rfl (lenOf pd_8 rfl) (hb hby d7_53) (by decide) 1 (by decide) (by decide) (by first | decide | exact Nat.le_refl _) (by decide) (by decide) (fun v T7 L7 X7 hQ7 => ?_)
  obtain ⟨rfl, e7, rfl⟩ := hQ7
  show Goes p.tables e below (T7.setTop (mkF m 56 #[.val (.ref p0)] [(.int (dV (xs.getD 6 0) (6 : Int32))), (.int ((((((dV (xs.getD 0 0) (0 : Int32)) + (dV (xs.getD 1 0) (1 : Int32))) + (dV (xs.getD 2 0) (2 : Int32))) + (dV (xs.getD 3 0) (3 : Int32))) + (dV (xs.getD 4 0) (4 : Int32))) + (dV (xs.getD 5 0) (5 : Int32))))])) _
  refine g_iadd X7 hx (hb hby d7_56) ?_
  show Goes p.tables e below (T7.setTop (mkF m 57 #[.val (.ref p0)] [(.int (((((((dV (xs.getD 0 0) (0 : Int32)) + (dV (xs.getD 1 0) (1 : Int32))) + (dV (xs.getD 2 0) (2 : Int32))) + (dV (xs.getD 3 0) (3 : Int32))) + (dV (xs.getD 4 0) (4 : Int32))) + (dV (xs.getD 5 0) (5 : Int32))) + (dV (xs.getD 6 0) (6 : Int32))))])) _
  refine g_aloadN X7 hx (hb hby d7_57) rfl rfl ?_
  show Goes p.tables e below (T7.setTop (mkF m 58 #[.val (.ref p0)] [(.ref p0), (.int (((((((dV (xs.getD 0 0) (0 : Int32)) + (dV (xs.getD 1 0) (1 : Int32))) + (dV (xs.getD 2 0) (2 : Int32))) + (dV (xs.getD 3 0) (3 : Int32))) + (dV (xs.getD 4 0) (4 : Int32))) + (dV (xs.getD 5 0) (5 : Int32))) + (dV (xs.getD 6 0) (6 : Int32))))])) _
  refine g_bipush X7 hx (7 : Int32) (hb hby d7_58) (by decide) ?_
  show Goes p.tables e below (T7.setTop (mkF m 60 #[.val (.ref p0)] [(.int (7 : Int32)), (.ref p0), (.int (((((((dV (xs.getD 0 0) (0 : Int32)) + (dV (xs.getD 1 0) (1 : Int32))) + (dV (xs.getD 2 0) (2 : Int32))) + (dV (xs.getD 3 0) (3 : Int32))) + (dV (xs.getD 4 0) (4 : Int32))) + (dV (xs.getD 5 0) (5 : Int32))) + (dV (xs.getD 6 0) (6 : Int32))))])) _
  refine g_iaload X7 hx hZ e7 A0 (i := 7) (v := (.int (xs.getD 7 0))) (by decide) (own_at9 hl (by decide)) (hb hby d7_60) ?_
  show Goes p.tables e below (T7.setTop (mkF m 61 #[.val (.ref p0)] [(.int (xs.getD 7 0)), (.int (((((((dV (xs.getD 0 0) (0 : Int32)) + (dV (xs.getD 1 0) (1 : Int32))) + (dV (xs.getD 2 0) (2 : Int32))) + (dV (xs.getD 3 0) (3 : Int32))) + (dV (xs.getD 4 0) (4 : Int32))) + (dV (xs.getD 5 0) (5 : Int32))) + (dV (xs.getD 6 0) (6 : Int32))))])) _
  refine g_bipush X7 hx (7 : Int32) (hb hby d7_61) (by decide) ?_
  show Goes p.tables e below (T7.setTop (mkF m 63 #[.val (.ref p0)] [(.int (7 : Int32)), (.int (xs.getD 7 0)), (.int (((((((dV (xs.getD 0 0) (0 : Int32)) + (dV (xs.getD 1 0) (1 : Int32))) + (dV (xs.getD 2 0) (2 : Int32))) + (dV (xs.getD 3 0) (3 : Int32))) + (dV (xs.getD 4 0) (4 : Int32))) + (dV (xs.getD 5 0) (5 : Int32))) + (dV (xs.getD 6 0) (6 : Int32))))])) _
  refine g_callS X7 hx hZ hown (by rw [hml]; rfl) e7 (hw _ (List.mem_of_getElem? (i := 38) rfl)) (hw _ (List.mem_of_getElem? (i := 39) rfl)) (hw _ (List.mem_of_getElem? (i := 36) rfl)) (hw _ (List.mem_of_getElem? (i := 40) rfl)) (rmD l Z a0 hw (xs.getD 7 0) (7 : Int32) h0) [(.int (xs.getD 7 0)), (.int (7 : Int32))] rfl [(.int (((((((dV (xs.getD 0 0) (0 : Int32)) + (dV (xs.getD 1 0) (1 : Int32))) + (dV (xs.getD 2 0) (2 : Int32))) + (dV (xs.getD 3 0) (3 : Int32))) + (dV (xs.getD 4 0) (4 : Int32))) + (dV (xs.getD 5 0) (5 : Int32))) + (dV (xs.getD 6 0) (6 : Int32))))] rfl (lenOf pd_8 rfl) (hb hby d7_63) (by decide) 1 (by decide) (by decide) (by first | decide | exact Nat.le_refl _) (by decide) (by decide) (fun v T8 L8 X8 hQ8 => ?_)
  obtain ⟨rfl, e8, rfl⟩ := hQ8
  show Goes p.tables e below (T8.setTop (mkF m 66 #[.val (.ref p0)] [(.int (dV (xs.getD 7 0) (7 : Int32))), (.int (((((((dV (xs.getD 0 0) (0 : Int32)) + (dV (xs.getD 1 0) (1 : Int32))) + (dV (xs.getD 2 0) (2 : Int32))) + (dV (xs.getD 3 0) (3 : Int32))) + (dV (xs.getD 4 0) (4 : Int32))) + (dV (xs.getD 5 0) (5 : Int32))) + (dV (xs.getD 6 0) (6 : Int32))))])) _
  refine g_iadd X8 hx (hb hby d7_66) ?_
  show Goes p.tables e below (T8.setTop (mkF m 67 #[.val (.ref p0)] [(.int ((((((((dV (xs.getD 0 0) (0 : Int32)) + (dV (xs.getD 1 0) (1 : Int32))) + (dV (xs.getD 2 0) (2 : Int32))) + (dV (xs.getD 3 0) (3 : Int32))) + (dV (xs.getD 4 0) (4 : Int32))) + (dV (xs.getD 5 0) (5 : Int32))) + (dV (xs.getD 6 0) (6 : Int32))) + (dV (xs.getD 7 0) (7 : Int32))))])) _
  refine g_aloadN X8 hx (hb hby d7_67) rfl rfl ?_
  show Goes p.tables e below (T8.setTop (mkF m 68 #[.val (.ref p0)] [(.ref p0), (.int ((((((((dV (xs.getD 0 0) (0 : Int32)) + (dV (xs.getD 1 0) (1 : Int32))) + (dV (xs.getD 2 0) (2 : Int32))) + (dV (xs.getD 3 0) (3 : Int32))) + (dV (xs.getD 4 0) (4 : Int32))) + (dV (xs.getD 5 0) (5 : Int32))) + (dV (xs.getD 6 0) (6 : Int32))) + (dV (xs.getD 7 0) (7 : Int32))))])) _
  refine g_bipush X8 hx (8 : Int32) (hb hby d7_68) (by decide) ?_
  show Goes p.tables e below (T8.setTop (mkF m 70 #[.val (.ref p0)] [(.int (8 : Int32)), (.ref p0), (.int ((((((((dV (xs.getD 0 0) (0 : Int32)) + (dV (xs.getD 1 0) (1 : Int32))) + (dV (xs.getD 2 0) (2 : Int32))) + (dV (xs.getD 3 0) (3 : Int32))) + (dV (xs.getD 4 0) (4 : Int32))) + (dV (xs.getD 5 0) (5 : Int32))) + (dV (xs.getD 6 0) (6 : Int32))) + (dV (xs.getD 7 0) (7 : Int32))))])) _
  refine g_iaload X8 hx hZ e8 A0 (i := 8) (v := (.int (xs.getD 8 0))) (by decide) (own_at9 hl (by decide)) (hb hby d7_70) ?_
  show Goes p.tables e below (T8.setTop (mkF m 71 #[.val (.ref p0)] [(.int (xs.getD 8 0)), (.int ((((((((dV (xs.getD 0 0) (0 : Int32)) + (dV (xs.getD 1 0) (1 : Int32))) + (dV (xs.getD 2 0) (2 : Int32))) + (dV (xs.getD 3 0) (3 : Int32))) + (dV (xs.getD 4 0) (4 : Int32))) + (dV (xs.getD 5 0) (5 : Int32))) + (dV (xs.getD 6 0) (6 : Int32))) + (dV (xs.getD 7 0) (7 : Int32))))])) _
  refine g_bipush X8 hx (8 : Int32) (hb hby d7_71) (by decide) ?_
  show Goes p.tables e below (T8.setTop (mkF m 73 #[.val (.ref p0)] [(.int (8 : Int32)), (.int (xs.getD 8 0)), (.int ((((((((dV (xs.getD 0 0) (0 : Int32)) + (dV (xs.getD 1 0) (1 : Int32))) + (dV (xs.getD 2 0) (2 : Int32))) + (dV (xs.getD 3 0) (3 : Int32))) + (dV (xs.getD 4 0) (4 : Int32))) + (dV (xs.getD 5 0) (5 : Int32))) + (dV (xs.getD 6 0) (6 : Int32))) + (dV (xs.getD 7 0) (7 : Int32))))])) _
  refine g_callS X8 hx hZ hown (by rw [hml]; rfl) e8 (hw _ (List.mem_of_getElem? (i := 38) rfl)) (hw _ (List.mem_of_getElem? (i := 39) rfl)) (hw _ (List.mem_of_getElem? (i := 36) rfl)) (hw _ (List.mem_of_getElem? (i := 40) rfl)) (rmD l Z a0 hw (xs.getD 8 0) (8 : Int32) h0) [(.int (xs.getD 8 0)), (.int (8 : Int32))] rfl [(.int ((((((((dV (xs.getD 0 0) (0 : Int32)) + (dV (xs.getD 1 0) (1 : Int32))) + (dV (xs.getD 2 0) (2 : Int32))) + (dV (xs.getD 3 0) (3 : Int32))) + (dV (xs.getD 4 0) (4 : Int32))) + (dV (xs.getD 5 0) (5 : Int32))) + (dV (xs.getD 6 0) (6 : Int32))) + (dV (xs.getD 7 0) (7 : Int32))))] rfl (lenOf pd_8 rfl) (hb hby d7_73) (by decide) 1 (by decide) (by decide) (by first | decide | exact Nat.le_refl _) (by decide) (by decide) (fun v T9 L9 X9 hQ9 => ?_)
  obtain ⟨rfl, e9, rfl⟩ := hQ9
  show Goes p.tables e below (T9.setTop (mkF m 76 #[.val (.ref p0)] [(.int (dV (xs.getD 8 0) (8 : Int32))), (.int ((((((((dV (xs.getD 0 0) (0 : Int32)) + (dV (xs.getD 1 0) (1 : Int32))) + (dV (xs.getD 2 0) (2 : Int32))) + (dV (xs.getD 3 0) (3 : Int32))) + (dV (xs.getD 4 0) (4 : Int32))) + (dV (xs.getD 5 0) (5 : Int32))) + (dV (xs.getD 6 0) (6 : Int32))) + (dV (xs.getD 7 0) (7 : Int32))))])) _
  refine g_iadd X9 hx (hb hby d7_76) ?_
  show Goes p.tables e below (T9.setTop (mkF m 77 #[.val (.ref p0)] [(.int (((((((((dV (xs.getD 0 0) (0 : Int32)) + (dV (xs.getD 1 0) (1 : Int32))) + (dV (xs.getD 2 0) (2 : Int32))) + (dV (xs.getD 3 0) (3 : Int32))) + (dV (xs.getD 4 0) (4 : Int32))) + (dV (xs.getD 5 0) (5 : Int32))) + (dV (xs.getD 6 0) (6 : Int32))) + (dV (xs.getD 7 0) (7 : Int32))) + (dV (xs.getD 8 0) (8 : Int32))))])) _
  exact g_retI X9 hx hret hlk (hb hby d7_77) (by decide) (by decide) ⟨rfl, e9, rfl⟩
def mulF (m : Nat) : Int32 := [(1 : Int32), 2, 4, 5, 7, 8].getD m 0
def invF (m : Nat) : Int32 := [(1 : Int32), 5, 7, 2, 4, 8].getD m 0
theorem own_rem {k v : Int32} (n : Nat) (d : Int32) (hd : d.toInt = n) (h0 : 1 ≤ n) (hv : v = ((k &&& (2147483647 : Int32)) % d)) : ∃ i : Fin n, v = Int32.ofNat i.val := by
  have a := (c_and k 2147483647 (by decide)).1
  have q := (c_irem (k &&& 2147483647) d _ hd).1 a
  have l1 := Int.emod_lt_of_pos (k &&& 2147483647).toInt (show (0 : Int) < n by omega)
  have l0 := Int.emod_nonneg (k &&& 2147483647).toInt (show (n : Int) ≠ 0 by omega)
  have r := rng32 v
  rw [hv] at r
  refine ⟨⟨v.toInt.toNat, by rw [hv, q]; omega⟩, ?_⟩
  apply Int32.toInt_inj.mp
  show v.toInt = (Int32.ofNat v.toInt.toNat).toInt
  rw [hv]
  rw [Int32.toInt_ofNat_of_lt (by omega)]
  omega
theorem own_and3 (k : Int32) : ∃ i : Fin 4, (k &&& (3 : Int32)) = Int32.ofNat i.val := by
  have q := c_mask k 3 2 (by decide) (by decide)
  refine ⟨⟨(k &&& 3).toInt.toNat, by omega⟩, ?_⟩
  apply Int32.toInt_inj.mp
  show (k &&& 3).toInt = (Int32.ofNat (k &&& 3).toInt.toNat).toInt
  rw [Int32.toInt_ofNat_of_lt (by omega)]
  omega
theorem own_six {m : Nat} (h : m < 6) : ([(.int (1 : Int32)), (.int (2 : Int32)), (.int (4 : Int32)), (.int (5 : Int32)), (.int (7 : Int32)), (.int (8 : Int32))] : List Value)[m]? = some (.int (mulF m)) := by
  have : m = 0 ∨ m = 1 ∨ m = 2 ∨ m = 3 ∨ m = 4 ∨ m = 5 := by omega
  rcases this with rfl | rfl | rfl | rfl | rfl | rfl <;> rfl
theorem own_sixi {m : Nat} (h : m < 6) : ([(.int (1 : Int32)), (.int (5 : Int32)), (.int (7 : Int32)), (.int (2 : Int32)), (.int (4 : Int32)), (.int (8 : Int32))] : List Value)[m]? = some (.int (invF m)) := by
  have : m = 0 ∨ m = 1 ∨ m = 2 ∨ m = 3 ∨ m = 4 ∨ m = 5 := by omega
  rcases this with rfl | rfl | rfl | rfl | rfl | rfl <;> rfl
def nsF (a k : Int32) : List Int32 := [k % 9, (a + k) % 9, (2 * a + k) % 9, (3 * a + k) % 9, (4 * a + k) % 9, (5 * a + k) % 9, (6 * a + k) % 9, (7 * a + k) % 9, (8 * a + k) % 9]
def own_b (m k : Nat) : Int32 := (9 - Int32.ofNat k) * invF m % 9
def own_x0 (m k : Nat) : List Int32 := nsF (mulF m) (Int32.ofNat k)
def own_f1 (m k q : Nat) : Int32 := nbV (own_b m k) (Int32.ofNat q)
def own_t1 (m k q : Nat) : Int32 := (own_x0 m k).getD (own_f1 m k q).toInt.toNat 0
def own_x1 (m k q : Nat) : List Int32 := ((own_x0 m k).set (own_b m k).toInt.toNat (own_t1 m k q)).set (own_f1 m k q).toInt.toNat 0
def own_f2 (m k q r : Nat) : Int32 := nbV (own_f1 m k q) (Int32.ofNat r)
def own_t2 (m k q r : Nat) : Int32 := (own_x1 m k q).getD (own_f2 m k q r).toInt.toNat 0
def own_x2 (m k q r : Nat) : List Int32 := ((own_x1 m k q).set (own_f1 m k q).toInt.toNat (own_t2 m k q r)).set (own_f2 m k q r).toInt.toNat 0
def own_y0 (m k : Nat) : Int32 := sumV (fun c => dt 3 ((own_x0 m k).getD c 0).toInt.toNat c) 9
def own_y1 (m k q : Nat) : Int32 := own_y0 m k + (dt 3 (own_t1 m k q).toInt.toNat (own_b m k).toInt.toNat - dt 3 (own_t1 m k q).toInt.toNat (own_f1 m k q).toInt.toNat)
def own_y2 (m k q r : Nat) : Int32 := own_y1 m k q + (dt 3 (own_t2 m k q r).toInt.toNat (own_f1 m k q).toInt.toNat - dt 3 (own_t2 m k q r).toInt.toNat (own_f2 m k q r).toInt.toNat)
def own_rg (x : Int32) : Bool := decide (0 ≤ x.toInt) && decide (x.toInt < 9)
theorem own_g0 : ∀ m : Fin 6, ∀ k : Fin 9, (own_rg (own_b m k) && decide (own_y0 m k = mdV (own_x0 m k)) && (own_x0 m k).all own_rg && (own_x0 m k).all (fun x => x.toInt8.toInt32 == x)) = true := by decide +kernel
theorem own_g1 : ∀ m : Fin 6, ∀ k : Fin 9, ∀ q : Fin 4, (own_rg (own_f1 m k q) && own_rg (own_t1 m k q) && decide (own_y1 m k q = mdV (own_x1 m k q))) = true := by decide +kernel
theorem own_g2 : ∀ m : Fin 6, ∀ k : Fin 9, ∀ q r : Fin 4, (own_rg (own_f2 m k q r) && own_rg (own_t2 m k q r) && decide (own_y2 m k q r = mdV (own_x2 m k q r))) = true := by decide +kernel
theorem own_rgI {x : Int32} (h : own_rg x = true) : 0 ≤ x.toInt ∧ x.toInt < 9 := by
  simpa [own_rg] using h
theorem ef_0 (m : MethodId) (p0 : Int32) (p1 : Int32) (p2 : Int32) (p3 : Int32) : entryFrame m #[(.int p0), (.int p1), (.int p2), (.int p3)] maxLocals = mkF m 0 #[.val (.int p0), .val (.int p1), .val (.int p2), .val (.int p3), .unset, .unset, .unset, .unset, .unset, .unset, .unset, .unset, .unset, .unset, .unset, .unset, .unset, .unset] [] := by first | (simp [entryFrame, mkF, argsToLocals, Value.category, maxLocals]; done) | rfl
set_option maxRecDepth 65536 in
set_option maxHeartbeats 40000000 in
theorem law (l : Launch) (Z : State) (a0 : Array Value) (hw : ∀ d ∈ tables_1, d.before a0 Z = true) (ws : List Jvm.Cond) (p0 : Int32) (p1 : Int32) (p2 : Int32) (p3 : Int32) (h0 : Heap)  :
    Con l Z x code maxLocals ret ws room_1 24 320 #[(.int p0), (.int p1), (.int p2), (.int p3)] h0 (fun v h L => v = some (.int 1) ∧ Fr h0.size L) := by
  refine Con.body (plainFor_of_name (by first | (simp [plainName, overriddenIn, x]; done) | decide +kernel)) ?_
  intro p e s m below meth c T0 hx hby hml hown hnm hZ hret hlk X0 e0
  refine Goes.cast (ef_0 m p0 p1 p2 p3) ?_
  have N0 := Fr.nil h0.size
  have Z0 : h0.size ≤ h0.size := Nat.le_refl _
  show Goes p.tables e below (T0.setTop (mkF m 0 #[.val (.int p0), .val (.int p1), .val (.int p2), .val (.int p3), .unset, .unset, .unset, .unset, .unset, .unset, .unset, .unset, .unset, .unset, .unset, .unset, .unset, .unset] [])) _
  refine g_bipush X0 hx (6 : Int32) (hb hby at_0) (by decide) ?_
  show Goes p.tables e below (T0.setTop (mkF m 2 #[.val (.int p0), .val (.int p1), .val (.int p2), .val (.int p3), .unset, .unset, .unset, .unset, .unset, .unset, .unset, .unset, .unset, .unset, .unset, .unset, .unset, .unset] [(.int (6 : Int32))])) _
  refine g_newarr X0 hx hZ e0 (hw _ (List.mem_of_getElem? (i := 0) rfl)) (hb hby at_2) (n := 6) (by decide) 6 (by omega) (by decide) (by decide) (by decide) (ad := "[I") (by decide) rfl (fun T1 h1 a1 ga1 X1 e1 Ex1 Aa1 Ea1 => ?_)
  have ge2 : h0.size ≤ a1 := by rw [ga1]; exact Z0
  have Z3 : h0.size ≤ h1.size := Nat.le_trans Z0 Ex1.1
  have fx4 : Ar Z h1 a1 .int [(.int (0 : Int32)), (.int (0 : Int32)), (.int (0 : Int32)), (.int (0 : Int32)), (.int (0 : Int32)), (.int (0 : Int32))] := Aa1
  show Goes p.tables e below (T1.setTop (mkF m 4 #[.val (.int p0), .val (.int p1), .val (.int p2), .val (.int p3), .unset, .unset, .unset, .unset, .unset, .unset, .unset, .unset, .unset, .unset, .unset, .unset, .unset, .unset] [(.ref a1)])) _
  refine g_dup X1 hx (hb hby at_4) rfl ?_
  show Goes p.tables e below (T1.setTop (mkF m 5 #[.val (.int p0), .val (.int p1), .val (.int p2), .val (.int p3), .unset, .unset, .unset, .unset, .unset, .unset, .unset, .unset, .unset, .unset, .unset, .unset, .unset, .unset] [(.ref a1), (.ref a1)])) _
  refine g_iconst X1 hx (0 : Int32) (hb hby at_5) rfl ?_
  show Goes p.tables e below (T1.setTop (mkF m 6 #[.val (.int p0), .val (.int p1), .val (.int p2), .val (.int p3), .unset, .unset, .unset, .unset, .unset, .unset, .unset, .unset, .unset, .unset, .unset, .unset, .unset, .unset] [(.int (0 : Int32)), (.ref a1), (.ref a1)])) _
  refine g_iconst X1 hx (1 : Int32) (hb hby at_6) rfl ?_
  show Goes p.tables e below (T1.setTop (mkF m 7 #[.val (.int p0), .val (.int p1), .val (.int p2), .val (.int p3), .unset, .unset, .unset, .unset, .unset, .unset, .unset, .unset, .unset, .unset, .unset, .unset, .unset, .unset] [(.int (1 : Int32)), (.int (0 : Int32)), (.ref a1), (.ref a1)])) _
  refine g_iastore X1 hx hZ e1 fx4 0 (by decide) (by show 0 < 6; decide) (hb hby at_7) (fun T5 h5 X5 e5 W5 A5 => ?_)
  have fx6 : Exa Z h5 a1 "[I" := Exa.wr W5 Ea1
  have fx7 : Ar Z h5 a1 .int [(.int (1 : Int32)), (.int (0 : Int32)), (.int (0 : Int32)), (.int (0 : Int32)), (.int (0 : Int32)), (.int (0 : Int32))] := A5
  have N8 := Fr.snoc X5 N0 ge2
  have Z9 : h0.size ≤ h5.size := by rw [W5.size]; exact Z3
  show Goes p.tables e below (T5.setTop (mkF m 8 #[.val (.int p0), .val (.int p1), .val (.int p2), .val (.int p3), .unset, .unset, .unset, .unset, .unset, .unset, .unset, .unset, .unset, .unset, .unset, .unset, .unset, .unset] [(.ref a1)])) _
  refine g_dup X5 hx (hb hby at_8) rfl ?_
  show Goes p.tables e below (T5.setTop (mkF m 9 #[.val (.int p0), .val (.int p1), .val (.int p2), .val (.int p3), .unset, .unset, .unset, .unset, .unset, .unset, .unset, .unset, .unset, .unset, .unset, .unset, .unset, .unset] [(.ref a1), (.ref a1)])) _
  refine g_iconst X5 hx (1 : Int32) (hb hby at_9) rfl ?_
  show Goes p.tables e below (T5.setTop (mkF m 10 #[.val (.int p0), .val (.int p1), .val (.int p2), .val (.int p3), .unset, .unset, .unset, .unset, .unset, .unset, .unset, .unset, .unset, .unset, .unset, .unset, .unset, .unset] [(.int (1 : Int32)), (.ref a1), (.ref a1)])) _
  refine g_iconst X5 hx (2 : Int32) (hb hby at_10) rfl ?_
  show Goes p.tables e below (T5.setTop (mkF m 11 #[.val (.int p0), .val (.int p1), .val (.int p2), .val (.int p3), .unset, .unset, .unset, .unset, .unset, .unset, .unset, .unset, .unset, .unset, .unset, .unset, .unset, .unset] [(.int (2 : Int32)), (.int (1 : Int32)), (.ref a1), (.ref a1)])) _
  refine g_iastore X5 hx hZ e5 fx7 1 (by decide) (by show 1 < 6; decide) (hb hby at_11) (fun T10 h10 X10 e10 W10 A10 => ?_)
  have fx11 : Exa Z h10 a1 "[I" := Exa.wr W10 fx6
  have fx12 : Ar Z h10 a1 .int [(.int (1 : Int32)), (.int (2 : Int32)), (.int (0 : Int32)), (.int (0 : Int32)), (.int (0 : Int32)), (.int (0 : Int32))] := A10
  have N13 := Fr.snoc X10 N8 ge2
  have Z14 : h0.size ≤ h10.size := by rw [W10.size]; exact Z9
  show Goes p.tables e below (T10.setTop (mkF m 12 #[.val (.int p0), .val (.int p1), .val (.int p2), .val (.int p3), .unset, .unset, .unset, .unset, .unset, .unset, .unset, .unset, .unset, .unset, .unset, .unset, .unset, .unset] [(.ref a1)])) _
  refine g_dup X10 hx (hb hby at_12) rfl ?_
  show Goes p.tables e below (T10.setTop (mkF m 13 #[.val (.int p0), .val (.int p1), .val (.int p2), .val (.int p3), .unset, .unset, .unset, .unset, .unset, .unset, .unset, .unset, .unset, .unset, .unset, .unset, .unset, .unset] [(.ref a1), (.ref a1)])) _
  refine g_iconst X10 hx (2 : Int32) (hb hby at_13) rfl ?_
  show Goes p.tables e below (T10.setTop (mkF m 14 #[.val (.int p0), .val (.int p1), .val (.int p2), .val (.int p3), .unset, .unset, .unset, .unset, .unset, .unset, .unset, .unset, .unset, .unset, .unset, .unset, .unset, .unset] [(.int (2 : Int32)), (.ref a1), (.ref a1)])) _
  refine g_iconst X10 hx (4 : Int32) (hb hby at_14) rfl ?_
  show Goes p.tables e below (T10.setTop (mkF m 15 #[.val (.int p0), .val (.int p1), .val (.int p2), .val (.int p3), .unset, .unset, .unset, .unset, .unset, .unset, .unset, .unset, .unset, .unset, .unset, .unset, .unset, .unset] [(.int (4 : Int32)), (.int (2 : Int32)), (.ref a1), (.ref a1)])) _
  refine g_iastore X10 hx hZ e10 fx12 2 (by decide) (by show 2 < 6; decide) (hb hby at_15) (fun T15 h15 X15 e15 W15 A15 => ?_)
  have fx16 : Exa Z h15 a1 "[I" := Exa.wr W15 fx11
  have fx17 : Ar Z h15 a1 .int [(.int (1 : Int32)), (.int (2 : Int32)), (.int (4 : Int32)), (.int (0 : Int32)), (.int (0 : Int32)), (.int (0 : Int32))] := A15
  have N18 := Fr.snoc X15 N13 ge2
  have Z19 : h0.size ≤ h15.size := by rw [W15.size]; exact Z14
  show Goes p.tables e below (T15.setTop (mkF m 16 #[.val (.int p0), .val (.int p1), .val (.int p2), .val (.int p3), .unset, .unset, .unset, .unset, .unset, .unset, .unset, .unset, .unset, .unset, .unset, .unset, .unset, .unset] [(.ref a1)])) _
  refine g_dup X15 hx (hb hby at_16) rfl ?_
  show Goes p.tables e below (T15.setTop (mkF m 17 #[.val (.int p0), .val (.int p1), .val (.int p2), .val (.int p3), .unset, .unset, .unset, .unset, .unset, .unset, .unset, .unset, .unset, .unset, .unset, .unset, .unset, .unset] [(.ref a1), (.ref a1)])) _
  refine g_iconst X15 hx (3 : Int32) (hb hby at_17) rfl ?_
  show Goes p.tables e below (T15.setTop (mkF m 18 #[.val (.int p0), .val (.int p1), .val (.int p2), .val (.int p3), .unset, .unset, .unset, .unset, .unset, .unset, .unset, .unset, .unset, .unset, .unset, .unset, .unset, .unset] [(.int (3 : Int32)), (.ref a1), (.ref a1)])) _
  refine g_iconst X15 hx (5 : Int32) (hb hby at_18) rfl ?_
  show Goes p.tables e below (T15.setTop (mkF m 19 #[.val (.int p0), .val (.int p1), .val (.int p2), .val (.int p3), .unset, .unset, .unset, .unset, .unset, .unset, .unset, .unset, .unset, .unset, .unset, .unset, .unset, .unset] [(.int (5 : Int32)), (.int (3 : Int32)), (.ref a1), (.ref a1)])) _
  refine g_iastore X15 hx hZ e15 fx17 3 (by decide) (by show 3 < 6; decide) (hb hby at_19) (fun T20 h20 X20 e20 W20 A20 => ?_)
  have fx21 : Exa Z h20 a1 "[I" := Exa.wr W20 fx16
  have fx22 : Ar Z h20 a1 .int [(.int (1 : Int32)), (.int (2 : Int32)), (.int (4 : Int32)), (.int (5 : Int32)), (.int (0 : Int32)), (.int (0 : Int32))] := A20
  have N23 := Fr.snoc X20 N18 ge2
  have Z24 : h0.size ≤ h20.size := by rw [W20.size]; exact Z19
  show Goes p.tables e below (T20.setTop (mkF m 20 #[.val (.int p0), .val (.int p1), .val (.int p2), .val (.int p3), .unset, .unset, .unset, .unset, .unset, .unset, .unset, .unset, .unset, .unset, .unset, .unset, .unset, .unset] [(.ref a1)])) _
  refine g_dup X20 hx (hb hby at_20) rfl ?_
  show Goes p.tables e below (T20.setTop (mkF m 21 #[.val (.int p0), .val (.int p1), .val (.int p2), .val (.int p3), .unset, .unset, .unset, .unset, .unset, .unset, .unset, .unset, .unset, .unset, .unset, .unset, .unset, .unset] [(.ref a1), (.ref a1)])) _
  refine g_iconst X20 hx (4 : Int32) (hb hby at_21) rfl ?_
  show Goes p.tables e below (T20.setTop (mkF m 22 #[.val (.int p0), .val (.int p1), .val (.int p2), .val (.int p3), .unset, .unset, .unset, .unset, .unset, .unset, .unset, .unset, .unset, .unset, .unset, .unset, .unset, .unset] [(.int (4 : Int32)), (.ref a1), (.ref a1)])) _
  refine g_bipush X20 hx (7 : Int32) (hb hby at_22) (by decide) ?_
  show Goes p.tables e below (T20.setTop (mkF m 24 #[.val (.int p0), .val (.int p1), .val (.int p2), .val (.int p3), .unset, .unset, .unset, .unset, .unset, .unset, .unset, .unset, .unset, .unset, .unset, .unset, .unset, .unset] [(.int (7 : Int32)), (.int (4 : Int32)), (.ref a1), (.ref a1)])) _
  refine g_iastore X20 hx hZ e20 fx22 4 (by decide) (by show 4 < 6; decide) (hb hby at_24) (fun T25 h25 X25 e25 W25 A25 => ?_)
  have fx26 : Exa Z h25 a1 "[I" := Exa.wr W25 fx21
  have fx27 : Ar Z h25 a1 .int [(.int (1 : Int32)), (.int (2 : Int32)), (.int (4 : Int32)), (.int (5 : Int32)), (.int (7 : Int32)), (.int (0 : Int32))] := A25
  have N28 := Fr.snoc X25 N23 ge2
  have Z29 : h0.size ≤ h25.size := by rw [W25.size]; exact Z24
  show Goes p.tables e below (T25.setTop (mkF m 25 #[.val (.int p0), .val (.int p1), .val (.int p2), .val (.int p3), .unset, .unset, .unset, .unset, .unset, .unset, .unset, .unset, .unset, .unset, .unset, .unset, .unset, .unset] [(.ref a1)])) _
  refine g_dup X25 hx (hb hby at_25) rfl ?_
  show Goes p.tables e below (T25.setTop (mkF m 26 #[.val (.int p0), .val (.int p1), .val (.int p2), .val (.int p3), .unset, .unset, .unset, .unset, .unset, .unset, .unset, .unset, .unset, .unset, .unset, .unset, .unset, .unset] [(.ref a1), (.ref a1)])) _
  refine g_iconst X25 hx (5 : Int32) (hb hby at_26) rfl ?_
  show Goes p.tables e below (T25.setTop (mkF m 27 #[.val (.int p0), .val (.int p1), .val (.int p2), .val (.int p3), .unset, .unset, .unset, .unset, .unset, .unset, .unset, .unset, .unset, .unset, .unset, .unset, .unset, .unset] [(.int (5 : Int32)), (.ref a1), (.ref a1)])) _
  refine g_bipush X25 hx (8 : Int32) (hb hby at_27) (by decide) ?_
  show Goes p.tables e below (T25.setTop (mkF m 29 #[.val (.int p0), .val (.int p1), .val (.int p2), .val (.int p3), .unset, .unset, .unset, .unset, .unset, .unset, .unset, .unset, .unset, .unset, .unset, .unset, .unset, .unset] [(.int (8 : Int32)), (.int (5 : Int32)), (.ref a1), (.ref a1)])) _
  refine g_iastore X25 hx hZ e25 fx27 5 (by decide) (by show 5 < 6; decide) (hb hby at_29) (fun T30 h30 X30 e30 W30 A30 => ?_)
  have fx31 : Exa Z h30 a1 "[I" := Exa.wr W30 fx26
  have fx32 : Ar Z h30 a1 .int [(.int (1 : Int32)), (.int (2 : Int32)), (.int (4 : Int32)), (.int (5 : Int32)), (.int (7 : Int32)), (.int (8 : Int32))] := A30
  have N33 := Fr.snoc X30 N28 ge2
  have Z34 : h0.size ≤ h30.size := by rw [W30.size]; exact Z29
  show Goes p.tables e below (T30.setTop (mkF m 30 #[.val (.int p0), .val (.int p1), .val (.int p2), .val (.int p3), .unset, .unset, .unset, .unset, .unset, .unset, .unset, .unset, .unset, .unset, .unset, .unset, .unset, .unset] [(.ref a1)])) _
  refine g_astore X30 hx (hb hby at_30) rfl (l' := #[.val (.int p0), .val (.int p1), .val (.int p2), .val (.int p3), .val (.ref a1), .unset, .unset, .unset, .unset, .unset, .unset, .unset, .unset, .unset, .unset, .unset, .unset, .unset]) rfl ?_
  show Goes p.tables e below (T30.setTop (mkF m 32 #[.val (.int p0), .val (.int p1), .val (.int p2), .val (.int p3), .val (.ref a1), .unset, .unset, .unset, .unset, .unset, .unset, .unset, .unset, .unset, .unset, .unset, .unset, .unset] [])) _
  refine g_bipush X30 hx (6 : Int32) (hb hby at_32) (by decide) ?_
  show Goes p.tables e below (T30.setTop (mkF m 34 #[.val (.int p0), .val (.int p1), .val (.int p2), .val (.int p3), .val (.ref a1), .unset, .unset, .unset, .unset, .unset, .unset, .unset, .unset, .unset, .unset, .unset, .unset, .unset] [(.int (6 : Int32))])) _
  refine g_newarr X30 hx hZ e30 (hw _ (List.mem_of_getElem? (i := 0) rfl)) (hb hby at_34) (n := 6) (by decide) 6 (by omega) (by decide) (by decide) (by decide) (ad := "[I") (by decide) rfl (fun T35 h35 a35 ga35 X35 e35 Ex35 Aa35 Ea35 => ?_)
  have ne36 : a1 ≠ a35 := Nat.ne_of_lt (by rw [ga35]; exact fx31.lt)
  have ge37 : h0.size ≤ a35 := by rw [ga35]; exact Z34
  have fx38 : Exa Z h35 a1 "[I" := Exa.ext Ex35 fx31
  have fx39 : Ar Z h35 a1 .int [(.int (1 : Int32)), (.int (2 : Int32)), (.int (4 : Int32)), (.int (5 : Int32)), (.int (7 : Int32)), (.int (8 : Int32))] := Ar.ext fx32 Ex35
  have Z40 : h0.size ≤ h35.size := Nat.le_trans Z34 Ex35.1
  have fx41 : Ar Z h35 a35 .int [(.int (0 : Int32)), (.int (0 : Int32)), (.int (0 : Int32)), (.int (0 : Int32)), (.int (0 : Int32)), (.int (0 : Int32))] := Aa35
  show Goes p.tables e below (T35.setTop (mkF m 36 #[.val (.int p0), .val (.int p1), .val (.int p2), .val (.int p3), .val (.ref a1), .unset, .unset, .unset, .unset, .unset, .unset, .unset, .unset, .unset, .unset, .unset, .unset, .unset] [(.ref a35)])) _
  refine g_dup X35 hx (hb hby at_36) rfl ?_
  show Goes p.tables e below (T35.setTop (mkF m 37 #[.val (.int p0), .val (.int p1), .val (.int p2), .val (.int p3), .val (.ref a1), .unset, .unset, .unset, .unset, .unset, .unset, .unset, .unset, .unset, .unset, .unset, .unset, .unset] [(.ref a35), (.ref a35)])) _
  refine g_iconst X35 hx (0 : Int32) (hb hby at_37) rfl ?_
  show Goes p.tables e below (T35.setTop (mkF m 38 #[.val (.int p0), .val (.int p1), .val (.int p2), .val (.int p3), .val (.ref a1), .unset, .unset, .unset, .unset, .unset, .unset, .unset, .unset, .unset, .unset, .unset, .unset, .unset] [(.int (0 : Int32)), (.ref a35), (.ref a35)])) _
  refine g_iconst X35 hx (1 : Int32) (hb hby at_38) rfl ?_
  show Goes p.tables e below (T35.setTop (mkF m 39 #[.val (.int p0), .val (.int p1), .val (.int p2), .val (.int p3), .val (.ref a1), .unset, .unset, .unset, .unset, .unset, .unset, .unset, .unset, .unset, .unset, .unset, .unset, .unset] [(.int (1 : Int32)), (.int (0 : Int32)), (.ref a35), (.ref a35)])) _
  refine g_iastore X35 hx hZ e35 fx41 0 (by decide) (by show 0 < 6; decide) (hb hby at_39) (fun T42 h42 X42 e42 W42 A42 => ?_)
  have fx43 : Exa Z h42 a1 "[I" := Exa.wr W42 fx38
  have fx44 : Ar Z h42 a1 .int [(.int (1 : Int32)), (.int (2 : Int32)), (.int (4 : Int32)), (.int (5 : Int32)), (.int (7 : Int32)), (.int (8 : Int32))] := Ar.other fx39 W42 ne36
  have fx45 : Exa Z h42 a35 "[I" := Exa.wr W42 Ea35
  have fx46 : Ar Z h42 a35 .int [(.int (1 : Int32)), (.int (0 : Int32)), (.int (0 : Int32)), (.int (0 : Int32)), (.int (0 : Int32)), (.int (0 : Int32))] := A42
  have N47 := Fr.snoc X42 N33 ge37
  have Z48 : h0.size ≤ h42.size := by rw [W42.size]; exact Z40
  show Goes p.tables e below (T42.setTop (mkF m 40 #[.val (.int p0), .val (.int p1), .val (.int p2), .val (.int p3), .val (.ref a1), .unset, .unset, .unset, .unset, .unset, .unset, .unset, .unset, .unset, .unset, .unset, .unset, .unset] [(.ref a35)])) _
  refine g_dup X42 hx (hb hby at_40) rfl ?_
  show Goes p.tables e below (T42.setTop (mkF m 41 #[.val (.int p0), .val (.int p1), .val (.int p2), .val (.int p3), .val (.ref a1), .unset, .unset, .unset, .unset, .unset, .unset, .unset, .unset, .unset, .unset, .unset, .unset, .unset] [(.ref a35), (.ref a35)])) _
  refine g_iconst X42 hx (1 : Int32) (hb hby at_41) rfl ?_
  show Goes p.tables e below (T42.setTop (mkF m 42 #[.val (.int p0), .val (.int p1), .val (.int p2), .val (.int p3), .val (.ref a1), .unset, .unset, .unset, .unset, .unset, .unset, .unset, .unset, .unset, .unset, .unset, .unset, .unset] [(.int (1 : Int32)), (.ref a35), (.ref a35)])) _
  refine g_iconst X42 hx (5 : Int32) (hb hby at_42) rfl ?_
  show Goes p.tables e below (T42.setTop (mkF m 43 #[.val (.int p0), .val (.int p1), .val (.int p2), .val (.int p3), .val (.ref a1), .unset, .unset, .unset, .unset, .unset, .unset, .unset, .unset, .unset, .unset, .unset, .unset, .unset] [(.int (5 : Int32)), (.int (1 : Int32)), (.ref a35), (.ref a35)])) _
  refine g_iastore X42 hx hZ e42 fx46 1 (by decide) (by show 1 < 6; decide) (hb hby at_43) (fun T49 h49 X49 e49 W49 A49 => ?_)
  have fx50 : Exa Z h49 a1 "[I" := Exa.wr W49 fx43
  have fx51 : Ar Z h49 a1 .int [(.int (1 : Int32)), (.int (2 : Int32)), (.int (4 : Int32)), (.int (5 : Int32)), (.int (7 : Int32)), (.int (8 : Int32))] := Ar.other fx44 W49 ne36
  have fx52 : Exa Z h49 a35 "[I" := Exa.wr W49 fx45
  have fx53 : Ar Z h49 a35 .int [(.int (1 : Int32)), (.int (5 : Int32)), (.int (0 : Int32)), (.int (0 : Int32)), (.int (0 : Int32)), (.int (0 : Int32))] := A49
  have N54 := Fr.snoc X49 N47 ge37
  have Z55 : h0.size ≤ h49.size := by rw [W49.size]; exact Z48
  show Goes p.tables e below (T49.setTop (mkF m 44 #[.val (.int p0), .val (.int p1), .val (.int p2), .val (.int p3), .val (.ref a1), .unset, .unset, .unset, .unset, .unset, .unset, .unset, .unset, .unset, .unset, .unset, .unset, .unset] [(.ref a35)])) _
  refine g_dup X49 hx (hb hby at_44) rfl ?_
  show Goes p.tables e below (T49.setTop (mkF m 45 #[.val (.int p0), .val (.int p1), .val (.int p2), .val (.int p3), .val (.ref a1), .unset, .unset, .unset, .unset, .unset, .unset, .unset, .unset, .unset, .unset, .unset, .unset, .unset] [(.ref a35), (.ref a35)])) _
  refine g_iconst X49 hx (2 : Int32) (hb hby at_45) rfl ?_
  show Goes p.tables e below (T49.setTop (mkF m 46 #[.val (.int p0), .val (.int p1), .val (.int p2), .val (.int p3), .val (.ref a1), .unset, .unset, .unset, .unset, .unset, .unset, .unset, .unset, .unset, .unset, .unset, .unset, .unset] [(.int (2 : Int32)), (.ref a35), (.ref a35)])) _
  refine g_bipush X49 hx (7 : Int32) (hb hby at_46) (by decide) ?_
  show Goes p.tables e below (T49.setTop (mkF m 48 #[.val (.int p0), .val (.int p1), .val (.int p2), .val (.int p3), .val (.ref a1), .unset, .unset, .unset, .unset, .unset, .unset, .unset, .unset, .unset, .unset, .unset, .unset, .unset] [(.int (7 : Int32)), (.int (2 : Int32)), (.ref a35), (.ref a35)])) _
  refine g_iastore X49 hx hZ e49 fx53 2 (by decide) (by show 2 < 6; decide) (hb hby at_48) (fun T56 h56 X56 e56 W56 A56 => ?_)
  have fx57 : Exa Z h56 a1 "[I" := Exa.wr W56 fx50
  have fx58 : Ar Z h56 a1 .int [(.int (1 : Int32)), (.int (2 : Int32)), (.int (4 : Int32)), (.int (5 : Int32)), (.int (7 : Int32)), (.int (8 : Int32))] := Ar.other fx51 W56 ne36
  have fx59 : Exa Z h56 a35 "[I" := Exa.wr W56 fx52
  have fx60 : Ar Z h56 a35 .int [(.int (1 : Int32)), (.int (5 : Int32)), (.int (7 : Int32)), (.int (0 : Int32)), (.int (0 : Int32)), (.int (0 : Int32))] := A56
  have N61 := Fr.snoc X56 N54 ge37
  have Z62 : h0.size ≤ h56.size := by rw [W56.size]; exact Z55
  show Goes p.tables e below (T56.setTop (mkF m 49 #[.val (.int p0), .val (.int p1), .val (.int p2), .val (.int p3), .val (.ref a1), .unset, .unset, .unset, .unset, .unset, .unset, .unset, .unset, .unset, .unset, .unset, .unset, .unset] [(.ref a35)])) _
  refine g_dup X56 hx (hb hby at_49) rfl ?_
  show Goes p.tables e below (T56.setTop (mkF m 50 #[.val (.int p0), .val (.int p1), .val (.int p2), .val (.int p3), .val (.ref a1), .unset, .unset, .unset, .unset, .unset, .unset, .unset, .unset, .unset, .unset, .unset, .unset, .unset] [(.ref a35), (.ref a35)])) _
  refine g_iconst X56 hx (3 : Int32) (hb hby at_50) rfl ?_
  show Goes p.tables e below (T56.setTop (mkF m 51 #[.val (.int p0), .val (.int p1), .val (.int p2), .val (.int p3), .val (.ref a1), .unset, .unset, .unset, .unset, .unset, .unset, .unset, .unset, .unset, .unset, .unset, .unset, .unset] [(.int (3 : Int32)), (.ref a35), (.ref a35)])) _
  refine g_iconst X56 hx (2 : Int32) (hb hby at_51) rfl ?_
  show Goes p.tables e below (T56.setTop (mkF m 52 #[.val (.int p0), .val (.int p1), .val (.int p2), .val (.int p3), .val (.ref a1), .unset, .unset, .unset, .unset, .unset, .unset, .unset, .unset, .unset, .unset, .unset, .unset, .unset] [(.int (2 : Int32)), (.int (3 : Int32)), (.ref a35), (.ref a35)])) _
  refine g_iastore X56 hx hZ e56 fx60 3 (by decide) (by show 3 < 6; decide) (hb hby at_52) (fun T63 h63 X63 e63 W63 A63 => ?_)
  have fx64 : Exa Z h63 a1 "[I" := Exa.wr W63 fx57
  have fx65 : Ar Z h63 a1 .int [(.int (1 : Int32)), (.int (2 : Int32)), (.int (4 : Int32)), (.int (5 : Int32)), (.int (7 : Int32)), (.int (8 : Int32))] := Ar.other fx58 W63 ne36
  have fx66 : Exa Z h63 a35 "[I" := Exa.wr W63 fx59
  have fx67 : Ar Z h63 a35 .int [(.int (1 : Int32)), (.int (5 : Int32)), (.int (7 : Int32)), (.int (2 : Int32)), (.int (0 : Int32)), (.int (0 : Int32))] := A63
  have N68 := Fr.snoc X63 N61 ge37
  have Z69 : h0.size ≤ h63.size := by rw [W63.size]; exact Z62
  show Goes p.tables e below (T63.setTop (mkF m 53 #[.val (.int p0), .val (.int p1), .val (.int p2), .val (.int p3), .val (.ref a1), .unset, .unset, .unset, .unset, .unset, .unset, .unset, .unset, .unset, .unset, .unset, .unset, .unset] [(.ref a35)])) _
  refine g_dup X63 hx (hb hby at_53) rfl ?_
  show Goes p.tables e below (T63.setTop (mkF m 54 #[.val (.int p0), .val (.int p1), .val (.int p2), .val (.int p3), .val (.ref a1), .unset, .unset, .unset, .unset, .unset, .unset, .unset, .unset, .unset, .unset, .unset, .unset, .unset] [(.ref a35), (.ref a35)])) _
  refine g_iconst X63 hx (4 : Int32) (hb hby at_54) rfl ?_
  show Goes p.tables e below (T63.setTop (mkF m 55 #[.val (.int p0), .val (.int p1), .val (.int p2), .val (.int p3), .val (.ref a1), .unset, .unset, .unset, .unset, .unset, .unset, .unset, .unset, .unset, .unset, .unset, .unset, .unset] [(.int (4 : Int32)), (.ref a35), (.ref a35)])) _
  refine g_iconst X63 hx (4 : Int32) (hb hby at_55) rfl ?_
  show Goes p.tables e below (T63.setTop (mkF m 56 #[.val (.int p0), .val (.int p1), .val (.int p2), .val (.int p3), .val (.ref a1), .unset, .unset, .unset, .unset, .unset, .unset, .unset, .unset, .unset, .unset, .unset, .unset, .unset] [(.int (4 : Int32)), (.int (4 : Int32)), (.ref a35), (.ref a35)])) _
  refine g_iastore X63 hx hZ e63 fx67 4 (by decide) (by show 4 < 6; decide) (hb hby at_56) (fun T70 h70 X70 e70 W70 A70 => ?_)
  have fx71 : Exa Z h70 a1 "[I" := Exa.wr W70 fx64
  have fx72 : Ar Z h70 a1 .int [(.int (1 : Int32)), (.int (2 : Int32)), (.int (4 : Int32)), (.int (5 : Int32)), (.int (7 : Int32)), (.int (8 : Int32))] := Ar.other fx65 W70 ne36
  have fx73 : Exa Z h70 a35 "[I" := Exa.wr W70 fx66
  have fx74 : Ar Z h70 a35 .int [(.int (1 : Int32)), (.int (5 : Int32)), (.int (7 : Int32)), (.int (2 : Int32)), (.int (4 : Int32)), (.int (0 : Int32))] := A70
  have N75 := Fr.snoc X70 N68 ge37
  have Z76 : h0.size ≤ h70.size := by rw [W70.size]; exact Z69
  show Goes p.tables e below (T70.setTop (mkF m 57 #[.val (.int p0), .val (.int p1), .val (.int p2), .val (.int p3), .val (.ref a1), .unset, .unset, .unset, .unset, .unset, .unset, .unset, .unset, .unset, .unset, .unset, .unset, .unset] [(.ref a35)])) _
  refine g_dup X70 hx (hb hby at_57) rfl ?_
  show Goes p.tables e below (T70.setTop (mkF m 58 #[.val (.int p0), .val (.int p1), .val (.int p2), .val (.int p3), .val (.ref a1), .unset, .unset, .unset, .unset, .unset, .unset, .unset, .unset, .unset, .unset, .unset, .unset, .unset] [(.ref a35), (.ref a35)])) _
  refine g_iconst X70 hx (5 : Int32) (hb hby at_58) rfl ?_
  show Goes p.tables e below (T70.setTop (mkF m 59 #[.val (.int p0), .val (.int p1), .val (.int p2), .val (.int p3), .val (.ref a1), .unset, .unset, .unset, .unset, .unset, .unset, .unset, .unset, .unset, .unset, .unset, .unset, .unset] [(.int (5 : Int32)), (.ref a35), (.ref a35)])) _
  refine g_bipush X70 hx (8 : Int32) (hb hby at_59) (by decide) ?_
  show Goes p.tables e below (T70.setTop (mkF m 61 #[.val (.int p0), .val (.int p1), .val (.int p2), .val (.int p3), .val (.ref a1), .unset, .unset, .unset, .unset, .unset, .unset, .unset, .unset, .unset, .unset, .unset, .unset, .unset] [(.int (8 : Int32)), (.int (5 : Int32)), (.ref a35), (.ref a35)])) _
  refine g_iastore X70 hx hZ e70 fx74 5 (by decide) (by show 5 < 6; decide) (hb hby at_61) (fun T77 h77 X77 e77 W77 A77 => ?_)
  have fx78 : Exa Z h77 a1 "[I" := Exa.wr W77 fx71
  have fx79 : Ar Z h77 a1 .int [(.int (1 : Int32)), (.int (2 : Int32)), (.int (4 : Int32)), (.int (5 : Int32)), (.int (7 : Int32)), (.int (8 : Int32))] := Ar.other fx72 W77 ne36
  have fx80 : Exa Z h77 a35 "[I" := Exa.wr W77 fx73
  have fx81 : Ar Z h77 a35 .int [(.int (1 : Int32)), (.int (5 : Int32)), (.int (7 : Int32)), (.int (2 : Int32)), (.int (4 : Int32)), (.int (8 : Int32))] := A77
  have N82 := Fr.snoc X77 N75 ge37
  have Z83 : h0.size ≤ h77.size := by rw [W77.size]; exact Z76
  show Goes p.tables e below (T77.setTop (mkF m 62 #[.val (.int p0), .val (.int p1), .val (.int p2), .val (.int p3), .val (.ref a1), .unset, .unset, .unset, .unset, .unset, .unset, .unset, .unset, .unset, .unset, .unset, .unset, .unset] [(.ref a35)])) _
  refine g_astore X77 hx (hb hby at_62) rfl (l' := #[.val (.int p0), .val (.int p1), .val (.int p2), .val (.int p3), .val (.ref a1), .val (.ref a35), .unset, .unset, .unset, .unset, .unset, .unset, .unset, .unset, .unset, .unset, .unset, .unset]) rfl ?_
  show Goes p.tables e below (T77.setTop (mkF m 64 #[.val (.int p0), .val (.int p1), .val (.int p2), .val (.int p3), .val (.ref a1), .val (.ref a35), .unset, .unset, .unset, .unset, .unset, .unset, .unset, .unset, .unset, .unset, .unset, .unset] [])) _
  refine g_iloadN X77 hx (hb hby at_64) rfl ?_
  show Goes p.tables e below (T77.setTop (mkF m 65 #[.val (.int p0), .val (.int p1), .val (.int p2), .val (.int p3), .val (.ref a1), .val (.ref a35), .unset, .unset, .unset, .unset, .unset, .unset, .unset, .unset, .unset, .unset, .unset, .unset] [(.int p0)])) _
  refine g_ldc X77 hx hZ hown (hw _ (List.mem_of_getElem? (i := 1) rfl)) (hb hby at_65) ?_
  show Goes p.tables e below (T77.setTop (mkF m 67 #[.val (.int p0), .val (.int p1), .val (.int p2), .val (.int p3), .val (.ref a1), .val (.ref a35), .unset, .unset, .unset, .unset, .unset, .unset, .unset, .unset, .unset, .unset, .unset, .unset] [(.int (2147483647 : Int32)), (.int p0)])) _
  refine g_iand X77 hx (hb hby at_67) ?_
  show Goes p.tables e below (T77.setTop (mkF m 68 #[.val (.int p0), .val (.int p1), .val (.int p2), .val (.int p3), .val (.ref a1), .val (.ref a35), .unset, .unset, .unset, .unset, .unset, .unset, .unset, .unset, .unset, .unset, .unset, .unset] [(.int (p0 &&& (2147483647 : Int32)))])) _
  refine g_bipush X77 hx (6 : Int32) (hb hby at_68) (by decide) ?_
  show Goes p.tables e below (T77.setTop (mkF m 70 #[.val (.int p0), .val (.int p1), .val (.int p2), .val (.int p3), .val (.ref a1), .val (.ref a35), .unset, .unset, .unset, .unset, .unset, .unset, .unset, .unset, .unset, .unset, .unset, .unset] [(.int (6 : Int32)), (.int (p0 &&& (2147483647 : Int32)))])) _
  refine g_irem X77 hx (hb hby at_70) (by decide) ?_
  show Goes p.tables e below (T77.setTop (mkF m 71 #[.val (.int p0), .val (.int p1), .val (.int p2), .val (.int p3), .val (.ref a1), .val (.ref a35), .unset, .unset, .unset, .unset, .unset, .unset, .unset, .unset, .unset, .unset, .unset, .unset] [(.int ((p0 &&& (2147483647 : Int32)) % (6 : Int32)))])) _
  obtain ⟨vm, hvm⟩ : ∃ z : Int32, z = ((p0 &&& (2147483647 : Int32)) % (6 : Int32)) := ⟨_, rfl⟩
  refine g_nameI hvm ?_
  show Goes p.tables e below (T77.setTop (mkF m 71 #[.val (.int p0), .val (.int p1), .val (.int p2), .val (.int p3), .val (.ref a1), .val (.ref a35), .unset, .unset, .unset, .unset, .unset, .unset, .unset, .unset, .unset, .unset, .unset, .unset] [(.int vm)])) _
  refine g_istore X77 hx (hb hby at_71) (l' := #[.val (.int p0), .val (.int p1), .val (.int p2), .val (.int p3), .val (.ref a1), .val (.ref a35), .val (.int vm), .unset, .unset, .unset, .unset, .unset, .unset, .unset, .unset, .unset, .unset, .unset]) rfl ?_
  show Goes p.tables e below (T77.setTop (mkF m 73 #[.val (.int p0), .val (.int p1), .val (.int p2), .val (.int p3), .val (.ref a1), .val (.ref a35), .val (.int vm), .unset, .unset, .unset, .unset, .unset, .unset, .unset, .unset, .unset, .unset, .unset] [])) _
  obtain ⟨mi, emi⟩ := own_rem 6 6 (by decide) (by decide) hvm
  show Goes p.tables e below (T77.setTop (mkF m 73 #[.val (.int p0), .val (.int p1), .val (.int p2), .val (.int p3), .val (.ref a1), .val (.ref a35), .val (.int vm), .unset, .unset, .unset, .unset, .unset, .unset, .unset, .unset, .unset, .unset, .unset] [])) _
  refine g_aload X77 hx (hb hby at_73) rfl rfl ?_
  show Goes p.tables e below (T77.setTop (mkF m 75 #[.val (.int p0), .val (.int p1), .val (.int p2), .val (.int p3), .val (.ref a1), .val (.ref a35), .val (.int vm), .unset, .unset, .unset, .unset, .unset, .unset, .unset, .unset, .unset, .unset, .unset] [(.ref a1)])) _
  refine g_iload X77 hx (hb hby at_75) rfl ?_
  show Goes p.tables e below (T77.setTop (mkF m 77 #[.val (.int p0), .val (.int p1), .val (.int p2), .val (.int p3), .val (.ref a1), .val (.ref a35), .val (.int vm), .unset, .unset, .unset, .unset, .unset, .unset, .unset, .unset, .unset, .unset, .unset] [(.int vm), (.ref a1)])) _
  refine g_iaload X77 hx hZ e77 fx79 (i := mi.val) (v := (.int (mulF mi.val))) (by rw [emi]; exact own_of (by omega)) (own_six mi.isLt) (hb hby at_77) ?_
  show Goes p.tables e below (T77.setTop (mkF m 78 #[.val (.int p0), .val (.int p1), .val (.int p2), .val (.int p3), .val (.ref a1), .val (.ref a35), .val (.int vm), .unset, .unset, .unset, .unset, .unset, .unset, .unset, .unset, .unset, .unset, .unset] [(.int (mulF mi.val))])) _
  obtain ⟨va, hva⟩ : ∃ z : Int32, z = (mulF mi.val) := ⟨_, rfl⟩
  refine g_nameI hva ?_
  show Goes p.tables e below (T77.setTop (mkF m 78 #[.val (.int p0), .val (.int p1), .val (.int p2), .val (.int p3), .val (.ref a1), .val (.ref a35), .val (.int vm), .unset, .unset, .unset, .unset, .unset, .unset, .unset, .unset, .unset, .unset, .unset] [(.int va)])) _
  refine g_istore X77 hx (hb hby at_78) (l' := #[.val (.int p0), .val (.int p1), .val (.int p2), .val (.int p3), .val (.ref a1), .val (.ref a35), .val (.int vm), .val (.int va), .unset, .unset, .unset, .unset, .unset, .unset, .unset, .unset, .unset, .unset]) rfl ?_
  show Goes p.tables e below (T77.setTop (mkF m 80 #[.val (.int p0), .val (.int p1), .val (.int p2), .val (.int p3), .val (.ref a1), .val (.ref a35), .val (.int vm), .val (.int va), .unset, .unset, .unset, .unset, .unset, .unset, .unset, .unset, .unset, .unset] [])) _
  refine g_iloadN X77 hx (hb hby at_80) rfl ?_
  show Goes p.tables e below (T77.setTop (mkF m 81 #[.val (.int p0), .val (.int p1), .val (.int p2), .val (.int p3), .val (.ref a1), .val (.ref a35), .val (.int vm), .val (.int va), .unset, .unset, .unset, .unset, .unset, .unset, .unset, .unset, .unset, .unset] [(.int p1)])) _
  refine g_ldc X77 hx hZ hown (hw _ (List.mem_of_getElem? (i := 1) rfl)) (hb hby at_81) ?_
  show Goes p.tables e below (T77.setTop (mkF m 83 #[.val (.int p0), .val (.int p1), .val (.int p2), .val (.int p3), .val (.ref a1), .val (.ref a35), .val (.int vm), .val (.int va), .unset, .unset, .unset, .unset, .unset, .unset, .unset, .unset, .unset, .unset] [(.int (2147483647 : Int32)), (.int p1)])) _
  refine g_iand X77 hx (hb hby at_83) ?_
  show Goes p.tables e below (T77.setTop (mkF m 84 #[.val (.int p0), .val (.int p1), .val (.int p2), .val (.int p3), .val (.ref a1), .val (.ref a35), .val (.int vm), .val (.int va), .unset, .unset, .unset, .unset, .unset, .unset, .unset, .unset, .unset, .unset] [(.int (p1 &&& (2147483647 : Int32)))])) _
  refine g_bipush X77 hx (9 : Int32) (hb hby at_84) (by decide) ?_
  show Goes p.tables e below (T77.setTop (mkF m 86 #[.val (.int p0), .val (.int p1), .val (.int p2), .val (.int p3), .val (.ref a1), .val (.ref a35), .val (.int vm), .val (.int va), .unset, .unset, .unset, .unset, .unset, .unset, .unset, .unset, .unset, .unset] [(.int (9 : Int32)), (.int (p1 &&& (2147483647 : Int32)))])) _
  refine g_irem X77 hx (hb hby at_86) (by decide) ?_
  show Goes p.tables e below (T77.setTop (mkF m 87 #[.val (.int p0), .val (.int p1), .val (.int p2), .val (.int p3), .val (.ref a1), .val (.ref a35), .val (.int vm), .val (.int va), .unset, .unset, .unset, .unset, .unset, .unset, .unset, .unset, .unset, .unset] [(.int ((p1 &&& (2147483647 : Int32)) % (9 : Int32)))])) _
  obtain ⟨vk, hvk⟩ : ∃ z : Int32, z = ((p1 &&& (2147483647 : Int32)) % (9 : Int32)) := ⟨_, rfl⟩
  refine g_nameI hvk ?_
  show Goes p.tables e below (T77.setTop (mkF m 87 #[.val (.int p0), .val (.int p1), .val (.int p2), .val (.int p3), .val (.ref a1), .val (.ref a35), .val (.int vm), .val (.int va), .unset, .unset, .unset, .unset, .unset, .unset, .unset, .unset, .unset, .unset] [(.int vk)])) _
  refine g_istore X77 hx (hb hby at_87) (l' := #[.val (.int p0), .val (.int p1), .val (.int p2), .val (.int p3), .val (.ref a1), .val (.ref a35), .val (.int vm), .val (.int va), .val (.int vk), .unset, .unset, .unset, .unset, .unset, .unset, .unset, .unset, .unset]) rfl ?_
  show Goes p.tables e below (T77.setTop (mkF m 89 #[.val (.int p0), .val (.int p1), .val (.int p2), .val (.int p3), .val (.ref a1), .val (.ref a35), .val (.int vm), .val (.int va), .val (.int vk), .unset, .unset, .unset, .unset, .unset, .unset, .unset, .unset, .unset] [])) _
  obtain ⟨ki, eki⟩ := own_rem 9 9 (by decide) (by decide) hvk
  show Goes p.tables e below (T77.setTop (mkF m 89 #[.val (.int p0), .val (.int p1), .val (.int p2), .val (.int p3), .val (.ref a1), .val (.ref a35), .val (.int vm), .val (.int va), .val (.int vk), .unset, .unset, .unset, .unset, .unset, .unset, .unset, .unset, .unset] [])) _
  refine g_bipush X77 hx (9 : Int32) (hb hby at_89) (by decide) ?_
  show Goes p.tables e below (T77.setTop (mkF m 91 #[.val (.int p0), .val (.int p1), .val (.int p2), .val (.int p3), .val (.ref a1), .val (.ref a35), .val (.int vm), .val (.int va), .val (.int vk), .unset, .unset, .unset, .unset, .unset, .unset, .unset, .unset, .unset] [(.int (9 : Int32))])) _
  refine g_newarr X77 hx hZ e77 (hw _ (List.mem_of_getElem? (i := 0) rfl)) (hb hby at_91) (n := 9) (by decide) 9 (by omega) (by decide) (by decide) (by decide) (ad := "[I") (by decide) rfl (fun T84 h84 a84 ga84 X84 e84 Ex84 Aa84 Ea84 => ?_)
  have ne85 : a1 ≠ a84 := Nat.ne_of_lt (by rw [ga84]; exact fx78.lt)
  have ne86 : a35 ≠ a84 := Nat.ne_of_lt (by rw [ga84]; exact fx80.lt)
  have ge87 : h0.size ≤ a84 := by rw [ga84]; exact Z83
  have fx88 : Exa Z h84 a1 "[I" := Exa.ext Ex84 fx78
  have fx89 : Ar Z h84 a1 .int [(.int (1 : Int32)), (.int (2 : Int32)), (.int (4 : Int32)), (.int (5 : Int32)), (.int (7 : Int32)), (.int (8 : Int32))] := Ar.ext fx79 Ex84
  have fx90 : Exa Z h84 a35 "[I" := Exa.ext Ex84 fx80
  have fx91 : Ar Z h84 a35 .int [(.int (1 : Int32)), (.int (5 : Int32)), (.int (7 : Int32)), (.int (2 : Int32)), (.int (4 : Int32)), (.int (8 : Int32))] := Ar.ext fx81 Ex84
  have Z92 : h0.size ≤ h84.size := Nat.le_trans Z83 Ex84.1
  have fx93 : Ar Z h84 a84 .int [(.int (0 : Int32)), (.int (0 : Int32)), (.int (0 : Int32)), (.int (0 : Int32)), (.int (0 : Int32)), (.int (0 : Int32)), (.int (0 : Int32)), (.int (0 : Int32)), (.int (0 : Int32))] := Aa84
  show Goes p.tables e below (T84.setTop (mkF m 93 #[.val (.int p0), .val (.int p1), .val (.int p2), .val (.int p3), .val (.ref a1), .val (.ref a35), .val (.int vm), .val (.int va), .val (.int vk), .unset, .unset, .unset, .unset, .unset, .unset, .unset, .unset, .unset] [(.ref a84)])) _
  refine g_astore X84 hx (hb hby at_93) rfl (l' := #[.val (.int p0), .val (.int p1), .val (.int p2), .val (.int p3), .val (.ref a1), .val (.ref a35), .val (.int vm), .val (.int va), .val (.int vk), .val (.ref a84), .unset, .unset, .unset, .unset, .unset, .unset, .unset, .unset]) rfl ?_
  show Goes p.tables e below (T84.setTop (mkF m 95 #[.val (.int p0), .val (.int p1), .val (.int p2), .val (.int p3), .val (.ref a1), .val (.ref a35), .val (.int vm), .val (.int va), .val (.int vk), .val (.ref a84), .unset, .unset, .unset, .unset, .unset, .unset, .unset, .unset] [])) _
  refine g_aload X84 hx (hb hby at_95) rfl rfl ?_
  show Goes p.tables e below (T84.setTop (mkF m 97 #[.val (.int p0), .val (.int p1), .val (.int p2), .val (.int p3), .val (.ref a1), .val (.ref a35), .val (.int vm), .val (.int va), .val (.int vk), .val (.ref a84), .unset, .unset, .unset, .unset, .unset, .unset, .unset, .unset] [(.ref a84)])) _
  refine g_iconst X84 hx (0 : Int32) (hb hby at_97) rfl ?_
  show Goes p.tables e below (T84.setTop (mkF m 98 #[.val (.int p0), .val (.int p1), .val (.int p2), .val (.int p3), .val (.ref a1), .val (.ref a35), .val (.int vm), .val (.int va), .val (.int vk), .val (.ref a84), .unset, .unset, .unset, .unset, .unset, .unset, .unset, .unset] [(.int (0 : Int32)), (.ref a84)])) _
  refine g_iload X84 hx (hb hby at_98) rfl ?_
  show Goes p.tables e below (T84.setTop (mkF m 100 #[.val (.int p0), .val (.int p1), .val (.int p2), .val (.int p3), .val (.ref a1), .val (.ref a35), .val (.int vm), .val (.int va), .val (.int vk), .val (.ref a84), .unset, .unset, .unset, .unset, .unset, .unset, .unset, .unset] [(.int vk), (.int (0 : Int32)), (.ref a84)])) _
  refine g_bipush X84 hx (9 : Int32) (hb hby at_100) (by decide) ?_
  show Goes p.tables e below (T84.setTop (mkF m 102 #[.val (.int p0), .val (.int p1), .val (.int p2), .val (.int p3), .val (.ref a1), .val (.ref a35), .val (.int vm), .val (.int va), .val (.int vk), .val (.ref a84), .unset, .unset, .unset, .unset, .unset, .unset, .unset, .unset] [(.int (9 : Int32)), (.int vk), (.int (0 : Int32)), (.ref a84)])) _
  refine g_irem X84 hx (hb hby at_102) (by decide) ?_
  show Goes p.tables e below (T84.setTop (mkF m 103 #[.val (.int p0), .val (.int p1), .val (.int p2), .val (.int p3), .val (.ref a1), .val (.ref a35), .val (.int vm), .val (.int va), .val (.int vk), .val (.ref a84), .unset, .unset, .unset, .unset, .unset, .unset, .unset, .unset] [(.int (vk % (9 : Int32))), (.int (0 : Int32)), (.ref a84)])) _
  obtain ⟨n0, hn0⟩ : ∃ z : Int32, z = (vk % (9 : Int32)) := ⟨_, rfl⟩
  refine g_nameI hn0 ?_
  show Goes p.tables e below (T84.setTop (mkF m 103 #[.val (.int p0), .val (.int p1), .val (.int p2), .val (.int p3), .val (.ref a1), .val (.ref a35), .val (.int vm), .val (.int va), .val (.int vk), .val (.ref a84), .unset, .unset, .unset, .unset, .unset, .unset, .unset, .unset] [(.int n0), (.int (0 : Int32)), (.ref a84)])) _
  show Goes p.tables e below (T84.setTop (mkF m 103 #[.val (.int p0), .val (.int p1), .val (.int p2), .val (.int p3), .val (.ref a1), .val (.ref a35), .val (.int vm), .val (.int va), .val (.int vk), .val (.ref a84), .unset, .unset, .unset, .unset, .unset, .unset, .unset, .unset] [(.int n0), (.int (0 : Int32)), (.ref a84)])) _
  refine g_iastore X84 hx hZ e84 fx93 0 (by decide) (by show 0 < 9; decide) (hb hby at_103) (fun T94 h94 X94 e94 W94 A94 => ?_)
  have fx95 : Exa Z h94 a1 "[I" := Exa.wr W94 fx88
  have fx96 : Ar Z h94 a1 .int [(.int (1 : Int32)), (.int (2 : Int32)), (.int (4 : Int32)), (.int (5 : Int32)), (.int (7 : Int32)), (.int (8 : Int32))] := Ar.other fx89 W94 ne85
  have fx97 : Exa Z h94 a35 "[I" := Exa.wr W94 fx90
  have fx98 : Ar Z h94 a35 .int [(.int (1 : Int32)), (.int (5 : Int32)), (.int (7 : Int32)), (.int (2 : Int32)), (.int (4 : Int32)), (.int (8 : Int32))] := Ar.other fx91 W94 ne86
  have fx99 : Exa Z h94 a84 "[I" := Exa.wr W94 Ea84
  have fx100 : Ar Z h94 a84 .int [(.int n0), (.int (0 : Int32)), (.int (0 : Int32)), (.int (0 : Int32)), (.int (0 : Int32)), (.int (0 : Int32)), (.int (0 : Int32)), (.int (0 : Int32)), (.int (0 : Int32))] := A94
  have N101 := Fr.snoc X94 N82 ge87
  have Z102 : h0.size ≤ h94.size := by rw [W94.size]; exact Z92
  show Goes p.tables e below (T94.setTop (mkF m 104 #[.val (.int p0), .val (.int p1), .val (.int p2), .val (.int p3), .val (.ref a1), .val (.ref a35), .val (.int vm), .val (.int va), .val (.int vk), .val (.ref a84), .unset, .unset, .unset, .unset, .unset, .unset, .unset, .unset] [])) _
  refine g_aload X94 hx (hb hby at_104) rfl rfl ?_
  show Goes p.tables e below (T94.setTop (mkF m 106 #[.val (.int p0), .val (.int p1), .val (.int p2), .val (.int p3), .val (.ref a1), .val (.ref a35), .val (.int vm), .val (.int va), .val (.int vk), .val (.ref a84), .unset, .unset, .unset, .unset, .unset, .unset, .unset, .unset] [(.ref a84)])) _
  refine g_iconst X94 hx (1 : Int32) (hb hby at_106) rfl ?_
  show Goes p.tables e below (T94.setTop (mkF m 107 #[.val (.int p0), .val (.int p1), .val (.int p2), .val (.int p3), .val (.ref a1), .val (.ref a35), .val (.int vm), .val (.int va), .val (.int vk), .val (.ref a84), .unset, .unset, .unset, .unset, .unset, .unset, .unset, .unset] [(.int (1 : Int32)), (.ref a84)])) _
  refine g_iload X94 hx (hb hby at_107) rfl ?_
  show Goes p.tables e below (T94.setTop (mkF m 109 #[.val (.int p0), .val (.int p1), .val (.int p2), .val (.int p3), .val (.ref a1), .val (.ref a35), .val (.int vm), .val (.int va), .val (.int vk), .val (.ref a84), .unset, .unset, .unset, .unset, .unset, .unset, .unset, .unset] [(.int va), (.int (1 : Int32)), (.ref a84)])) _
  refine g_iload X94 hx (hb hby at_109) rfl ?_
  show Goes p.tables e below (T94.setTop (mkF m 111 #[.val (.int p0), .val (.int p1), .val (.int p2), .val (.int p3), .val (.ref a1), .val (.ref a35), .val (.int vm), .val (.int va), .val (.int vk), .val (.ref a84), .unset, .unset, .unset, .unset, .unset, .unset, .unset, .unset] [(.int vk), (.int va), (.int (1 : Int32)), (.ref a84)])) _
  refine g_iadd X94 hx (hb hby at_111) ?_
  show Goes p.tables e below (T94.setTop (mkF m 112 #[.val (.int p0), .val (.int p1), .val (.int p2), .val (.int p3), .val (.ref a1), .val (.ref a35), .val (.int vm), .val (.int va), .val (.int vk), .val (.ref a84), .unset, .unset, .unset, .unset, .unset, .unset, .unset, .unset] [(.int (va + vk)), (.int (1 : Int32)), (.ref a84)])) _
  refine g_bipush X94 hx (9 : Int32) (hb hby at_112) (by decide) ?_
  show Goes p.tables e below (T94.setTop (mkF m 114 #[.val (.int p0), .val (.int p1), .val (.int p2), .val (.int p3), .val (.ref a1), .val (.ref a35), .val (.int vm), .val (.int va), .val (.int vk), .val (.ref a84), .unset, .unset, .unset, .unset, .unset, .unset, .unset, .unset] [(.int (9 : Int32)), (.int (va + vk)), (.int (1 : Int32)), (.ref a84)])) _
  refine g_irem X94 hx (hb hby at_114) (by decide) ?_
  show Goes p.tables e below (T94.setTop (mkF m 115 #[.val (.int p0), .val (.int p1), .val (.int p2), .val (.int p3), .val (.ref a1), .val (.ref a35), .val (.int vm), .val (.int va), .val (.int vk), .val (.ref a84), .unset, .unset, .unset, .unset, .unset, .unset, .unset, .unset] [(.int ((va + vk) % (9 : Int32))), (.int (1 : Int32)), (.ref a84)])) _
  obtain ⟨n1, hn1⟩ : ∃ z : Int32, z = ((va + vk) % (9 : Int32)) := ⟨_, rfl⟩
  refine g_nameI hn1 ?_
  show Goes p.tables e below (T94.setTop (mkF m 115 #[.val (.int p0), .val (.int p1), .val (.int p2), .val (.int p3), .val (.ref a1), .val (.ref a35), .val (.int vm), .val (.int va), .val (.int vk), .val (.ref a84), .unset, .unset, .unset, .unset, .unset, .unset, .unset, .unset] [(.int n1), (.int (1 : Int32)), (.ref a84)])) _
  show Goes p.tables e below (T94.setTop (mkF m 115 #[.val (.int p0), .val (.int p1), .val (.int p2), .val (.int p3), .val (.ref a1), .val (.ref a35), .val (.int vm), .val (.int va), .val (.int vk), .val (.ref a84), .unset, .unset, .unset, .unset, .unset, .unset, .unset, .unset] [(.int n1), (.int (1 : Int32)), (.ref a84)])) _
  refine g_iastore X94 hx hZ e94 fx100 1 (by decide) (by show 1 < 9; decide) (hb hby at_115) (fun T103 h103 X103 e103 W103 A103 => ?_)
  have fx104 : Exa Z h103 a1 "[I" := Exa.wr W103 fx95
  have fx105 : Ar Z h103 a1 .int [(.int (1 : Int32)), (.int (2 : Int32)), (.int (4 : Int32)), (.int (5 : Int32)), (.int (7 : Int32)), (.int (8 : Int32))] := Ar.other fx96 W103 ne85
  have fx106 : Exa Z h103 a35 "[I" := Exa.wr W103 fx97
  have fx107 : Ar Z h103 a35 .int [(.int (1 : Int32)), (.int (5 : Int32)), (.int (7 : Int32)), (.int (2 : Int32)), (.int (4 : Int32)), (.int (8 : Int32))] := Ar.other fx98 W103 ne86
  have fx108 : Exa Z h103 a84 "[I" := Exa.wr W103 fx99
  have fx109 : Ar Z h103 a84 .int [(.int n0), (.int n1), (.int (0 : Int32)), (.int (0 : Int32)), (.int (0 : Int32)), (.int (0 : Int32)), (.int (0 : Int32)), (.int (0 : Int32)), (.int (0 : Int32))] := A103
  have N110 := Fr.snoc X103 N101 ge87
  have Z111 : h0.size ≤ h103.size := by rw [W103.size]; exact Z102
  show Goes p.tables e below (T103.setTop (mkF m 116 #[.val (.int p0), .val (.int p1), .val (.int p2), .val (.int p3), .val (.ref a1), .val (.ref a35), .val (.int vm), .val (.int va), .val (.int vk), .val (.ref a84), .unset, .unset, .unset, .unset, .unset, .unset, .unset, .unset] [])) _
  refine g_aload X103 hx (hb hby at_116) rfl rfl ?_
  show Goes p.tables e below (T103.setTop (mkF m 118 #[.val (.int p0), .val (.int p1), .val (.int p2), .val (.int p3), .val (.ref a1), .val (.ref a35), .val (.int vm), .val (.int va), .val (.int vk), .val (.ref a84), .unset, .unset, .unset, .unset, .unset, .unset, .unset, .unset] [(.ref a84)])) _
  refine g_iconst X103 hx (2 : Int32) (hb hby at_118) rfl ?_
  show Goes p.tables e below (T103.setTop (mkF m 119 #[.val (.int p0), .val (.int p1), .val (.int p2), .val (.int p3), .val (.ref a1), .val (.ref a35), .val (.int vm), .val (.int va), .val (.int vk), .val (.ref a84), .unset, .unset, .unset, .unset, .unset, .unset, .unset, .unset] [(.int (2 : Int32)), (.ref a84)])) _
  refine g_iconst X103 hx (2 : Int32) (hb hby at_119) rfl ?_
  show Goes p.tables e below (T103.setTop (mkF m 120 #[.val (.int p0), .val (.int p1), .val (.int p2), .val (.int p3), .val (.ref a1), .val (.ref a35), .val (.int vm), .val (.int va), .val (.int vk), .val (.ref a84), .unset, .unset, .unset, .unset, .unset, .unset, .unset, .unset] [(.int (2 : Int32)), (.int (2 : Int32)), (.ref a84)])) _
  refine g_iload X103 hx (hb hby at_120) rfl ?_
  show Goes p.tables e below (T103.setTop (mkF m 122 #[.val (.int p0), .val (.int p1), .val (.int p2), .val (.int p3), .val (.ref a1), .val (.ref a35), .val (.int vm), .val (.int va), .val (.int vk), .val (.ref a84), .unset, .unset, .unset, .unset, .unset, .unset, .unset, .unset] [(.int va), (.int (2 : Int32)), (.int (2 : Int32)), (.ref a84)])) _
  refine g_imul X103 hx (hb hby at_122) ?_
  show Goes p.tables e below (T103.setTop (mkF m 123 #[.val (.int p0), .val (.int p1), .val (.int p2), .val (.int p3), .val (.ref a1), .val (.ref a35), .val (.int vm), .val (.int va), .val (.int vk), .val (.ref a84), .unset, .unset, .unset, .unset, .unset, .unset, .unset, .unset] [(.int ((2 : Int32) * va)), (.int (2 : Int32)), (.ref a84)])) _
  refine g_iload X103 hx (hb hby at_123) rfl ?_
  show Goes p.tables e below (T103.setTop (mkF m 125 #[.val (.int p0), .val (.int p1), .val (.int p2), .val (.int p3), .val (.ref a1), .val (.ref a35), .val (.int vm), .val (.int va), .val (.int vk), .val (.ref a84), .unset, .unset, .unset, .unset, .unset, .unset, .unset, .unset] [(.int vk), (.int ((2 : Int32) * va)), (.int (2 : Int32)), (.ref a84)])) _
  refine g_iadd X103 hx (hb hby at_125) ?_
  show Goes p.tables e below (T103.setTop (mkF m 126 #[.val (.int p0), .val (.int p1), .val (.int p2), .val (.int p3), .val (.ref a1), .val (.ref a35), .val (.int vm), .val (.int va), .val (.int vk), .val (.ref a84), .unset, .unset, .unset, .unset, .unset, .unset, .unset, .unset] [(.int (((2 : Int32) * va) + vk)), (.int (2 : Int32)), (.ref a84)])) _
  refine g_bipush X103 hx (9 : Int32) (hb hby at_126) (by decide) ?_
  show Goes p.tables e below (T103.setTop (mkF m 128 #[.val (.int p0), .val (.int p1), .val (.int p2), .val (.int p3), .val (.ref a1), .val (.ref a35), .val (.int vm), .val (.int va), .val (.int vk), .val (.ref a84), .unset, .unset, .unset, .unset, .unset, .unset, .unset, .unset] [(.int (9 : Int32)), (.int (((2 : Int32) * va) + vk)), (.int (2 : Int32)), (.ref a84)])) _
  refine g_irem X103 hx (hb hby at_128) (by decide) ?_
  show Goes p.tables e below (T103.setTop (mkF m 129 #[.val (.int p0), .val (.int p1), .val (.int p2), .val (.int p3), .val (.ref a1), .val (.ref a35), .val (.int vm), .val (.int va), .val (.int vk), .val (.ref a84), .unset, .unset, .unset, .unset, .unset, .unset, .unset, .unset] [(.int ((((2 : Int32) * va) + vk) % (9 : Int32))), (.int (2 : Int32)), (.ref a84)])) _
  obtain ⟨n2, hn2⟩ : ∃ z : Int32, z = ((((2 : Int32) * va) + vk) % (9 : Int32)) := ⟨_, rfl⟩
  refine g_nameI hn2 ?_
  show Goes p.tables e below (T103.setTop (mkF m 129 #[.val (.int p0), .val (.int p1), .val (.int p2), .val (.int p3), .val (.ref a1), .val (.ref a35), .val (.int vm), .val (.int va), .val (.int vk), .val (.ref a84), .unset, .unset, .unset, .unset, .unset, .unset, .unset, .unset] [(.int n2), (.int (2 : Int32)), (.ref a84)])) _
  show Goes p.tables e below (T103.setTop (mkF m 129 #[.val (.int p0), .val (.int p1), .val (.int p2), .val (.int p3), .val (.ref a1), .val (.ref a35), .val (.int vm), .val (.int va), .val (.int vk), .val (.ref a84), .unset, .unset, .unset, .unset, .unset, .unset, .unset, .unset] [(.int n2), (.int (2 : Int32)), (.ref a84)])) _
  refine g_iastore X103 hx hZ e103 fx109 2 (by decide) (by show 2 < 9; decide) (hb hby at_129) (fun T112 h112 X112 e112 W112 A112 => ?_)
  have fx113 : Exa Z h112 a1 "[I" := Exa.wr W112 fx104
  have fx114 : Ar Z h112 a1 .int [(.int (1 : Int32)), (.int (2 : Int32)), (.int (4 : Int32)), (.int (5 : Int32)), (.int (7 : Int32)), (.int (8 : Int32))] := Ar.other fx105 W112 ne85
  have fx115 : Exa Z h112 a35 "[I" := Exa.wr W112 fx106
  have fx116 : Ar Z h112 a35 .int [(.int (1 : Int32)), (.int (5 : Int32)), (.int (7 : Int32)), (.int (2 : Int32)), (.int (4 : Int32)), (.int (8 : Int32))] := Ar.other fx107 W112 ne86
  have fx117 : Exa Z h112 a84 "[I" := Exa.wr W112 fx108
  have fx118 : Ar Z h112 a84 .int [(.int n0), (.int n1), (.int n2), (.int (0 : Int32)), (.int (0 : Int32)), (.int (0 : Int32)), (.int (0 : Int32)), (.int (0 : Int32)), (.int (0 : Int32))] := A112
  have N119 := Fr.snoc X112 N110 ge87
  have Z120 : h0.size ≤ h112.size := by rw [W112.size]; exact Z111
  show Goes p.tables e below (T112.setTop (mkF m 130 #[.val (.int p0), .val (.int p1), .val (.int p2), .val (.int p3), .val (.ref a1), .val (.ref a35), .val (.int vm), .val (.int va), .val (.int vk), .val (.ref a84), .unset, .unset, .unset, .unset, .unset, .unset, .unset, .unset] [])) _
  refine g_aload X112 hx (hb hby at_130) rfl rfl ?_
  show Goes p.tables e below (T112.setTop (mkF m 132 #[.val (.int p0), .val (.int p1), .val (.int p2), .val (.int p3), .val (.ref a1), .val (.ref a35), .val (.int vm), .val (.int va), .val (.int vk), .val (.ref a84), .unset, .unset, .unset, .unset, .unset, .unset, .unset, .unset] [(.ref a84)])) _
  refine g_iconst X112 hx (3 : Int32) (hb hby at_132) rfl ?_
  show Goes p.tables e below (T112.setTop (mkF m 133 #[.val (.int p0), .val (.int p1), .val (.int p2), .val (.int p3), .val (.ref a1), .val (.ref a35), .val (.int vm), .val (.int va), .val (.int vk), .val (.ref a84), .unset, .unset, .unset, .unset, .unset, .unset, .unset, .unset] [(.int (3 : Int32)), (.ref a84)])) _
  refine g_iconst X112 hx (3 : Int32) (hb hby at_133) rfl ?_
  show Goes p.tables e below (T112.setTop (mkF m 134 #[.val (.int p0), .val (.int p1), .val (.int p2), .val (.int p3), .val (.ref a1), .val (.ref a35), .val (.int vm), .val (.int va), .val (.int vk), .val (.ref a84), .unset, .unset, .unset, .unset, .unset, .unset, .unset, .unset] [(.int (3 : Int32)), (.int (3 : Int32)), (.ref a84)])) _
  refine g_iload X112 hx (hb hby at_134) rfl ?_
  show Goes p.tables e below (T112.setTop (mkF m 136 #[.val (.int p0), .val (.int p1), .val (.int p2), .val (.int p3), .val (.ref a1), .val (.ref a35), .val (.int vm), .val (.int va), .val (.int vk), .val (.ref a84), .unset, .unset, .unset, .unset, .unset, .unset, .unset, .unset] [(.int va), (.int (3 : Int32)), (.int (3 : Int32)), (.ref a84)])) _
  refine g_imul X112 hx (hb hby at_136) ?_
  show Goes p.tables e below (T112.setTop (mkF m 137 #[.val (.int p0), .val (.int p1), .val (.int p2), .val (.int p3), .val (.ref a1), .val (.ref a35), .val (.int vm), .val (.int va), .val (.int vk), .val (.ref a84), .unset, .unset, .unset, .unset, .unset, .unset, .unset, .unset] [(.int ((3 : Int32) * va)), (.int (3 : Int32)), (.ref a84)])) _
  refine g_iload X112 hx (hb hby at_137) rfl ?_
  show Goes p.tables e below (T112.setTop (mkF m 139 #[.val (.int p0), .val (.int p1), .val (.int p2), .val (.int p3), .val (.ref a1), .val (.ref a35), .val (.int vm), .val (.int va), .val (.int vk), .val (.ref a84), .unset, .unset, .unset, .unset, .unset, .unset, .unset, .unset] [(.int vk), (.int ((3 : Int32) * va)), (.int (3 : Int32)), (.ref a84)])) _
  refine g_iadd X112 hx (hb hby at_139) ?_
  show Goes p.tables e below (T112.setTop (mkF m 140 #[.val (.int p0), .val (.int p1), .val (.int p2), .val (.int p3), .val (.ref a1), .val (.ref a35), .val (.int vm), .val (.int va), .val (.int vk), .val (.ref a84), .unset, .unset, .unset, .unset, .unset, .unset, .unset, .unset] [(.int (((3 : Int32) * va) + vk)), (.int (3 : Int32)), (.ref a84)])) _
  refine g_bipush X112 hx (9 : Int32) (hb hby at_140) (by decide) ?_
  show Goes p.tables e below (T112.setTop (mkF m 142 #[.val (.int p0), .val (.int p1), .val (.int p2), .val (.int p3), .val (.ref a1), .val (.ref a35), .val (.int vm), .val (.int va), .val (.int vk), .val (.ref a84), .unset, .unset, .unset, .unset, .unset, .unset, .unset, .unset] [(.int (9 : Int32)), (.int (((3 : Int32) * va) + vk)), (.int (3 : Int32)), (.ref a84)])) _
  refine g_irem X112 hx (hb hby at_142) (by decide) ?_
  show Goes p.tables e below (T112.setTop (mkF m 143 #[.val (.int p0), .val (.int p1), .val (.int p2), .val (.int p3), .val (.ref a1), .val (.ref a35), .val (.int vm), .val (.int va), .val (.int vk), .val (.ref a84), .unset, .unset, .unset, .unset, .unset, .unset, .unset, .unset] [(.int ((((3 : Int32) * va) + vk) % (9 : Int32))), (.int (3 : Int32)), (.ref a84)])) _
  obtain ⟨n3, hn3⟩ : ∃ z : Int32, z = ((((3 : Int32) * va) + vk) % (9 : Int32)) := ⟨_, rfl⟩
  refine g_nameI hn3 ?_
  show Goes p.tables e below (T112.setTop (mkF m 143 #[.val (.int p0), .val (.int p1), .val (.int p2), .val (.int p3), .val (.ref a1), .val (.ref a35), .val (.int vm), .val (.int va), .val (.int vk), .val (.ref a84), .unset, .unset, .unset, .unset, .unset, .unset, .unset, .unset] [(.int n3), (.int (3 : Int32)), (.ref a84)])) _
  show Goes p.tables e below (T112.setTop (mkF m 143 #[.val (.int p0), .val (.int p1), .val (.int p2), .val (.int p3), .val (.ref a1), .val (.ref a35), .val (.int vm), .val (.int va), .val (.int vk), .val (.ref a84), .unset, .unset, .unset, .unset, .unset, .unset, .unset, .unset] [(.int n3), (.int (3 : Int32)), (.ref a84)])) _
  refine g_iastore X112 hx hZ e112 fx118 3 (by decide) (by show 3 < 9; decide) (hb hby at_143) (fun T121 h121 X121 e121 W121 A121 => ?_)
  have fx122 : Exa Z h121 a1 "[I" := Exa.wr W121 fx113
  have fx123 : Ar Z h121 a1 .int [(.int (1 : Int32)), (.int (2 : Int32)), (.int (4 : Int32)), (.int (5 : Int32)), (.int (7 : Int32)), (.int (8 : Int32))] := Ar.other fx114 W121 ne85
  have fx124 : Exa Z h121 a35 "[I" := Exa.wr W121 fx115
  have fx125 : Ar Z h121 a35 .int [(.int (1 : Int32)), (.int (5 : Int32)), (.int (7 : Int32)), (.int (2 : Int32)), (.int (4 : Int32)), (.int (8 : Int32))] := Ar.other fx116 W121 ne86
  have fx126 : Exa Z h121 a84 "[I" := Exa.wr W121 fx117
  have fx127 : Ar Z h121 a84 .int [(.int n0), (.int n1), (.int n2), (.int n3), (.int (0 : Int32)), (.int (0 : Int32)), (.int (0 : Int32)), (.int (0 : Int32)), (.int (0 : Int32))] := A121
  have N128 := Fr.snoc X121 N119 ge87
  have Z129 : h0.size ≤ h121.size := by rw [W121.size]; exact Z120
  show Goes p.tables e below (T121.setTop (mkF m 144 #[.val (.int p0), .val (.int p1), .val (.int p2), .val (.int p3), .val (.ref a1), .val (.ref a35), .val (.int vm), .val (.int va), .val (.int vk), .val (.ref a84), .unset, .unset, .unset, .unset, .unset, .unset, .unset, .unset] [])) _
  refine g_aload X121 hx (hb hby at_144) rfl rfl ?_
  show Goes p.tables e below (T121.setTop (mkF m 146 #[.val (.int p0), .val (.int p1), .val (.int p2), .val (.int p3), .val (.ref a1), .val (.ref a35), .val (.int vm), .val (.int va), .val (.int vk), .val (.ref a84), .unset, .unset, .unset, .unset, .unset, .unset, .unset, .unset] [(.ref a84)])) _
  refine g_iconst X121 hx (4 : Int32) (hb hby at_146) rfl ?_
  show Goes p.tables e below (T121.setTop (mkF m 147 #[.val (.int p0), .val (.int p1), .val (.int p2), .val (.int p3), .val (.ref a1), .val (.ref a35), .val (.int vm), .val (.int va), .val (.int vk), .val (.ref a84), .unset, .unset, .unset, .unset, .unset, .unset, .unset, .unset] [(.int (4 : Int32)), (.ref a84)])) _
  refine g_iconst X121 hx (4 : Int32) (hb hby at_147) rfl ?_
  show Goes p.tables e below (T121.setTop (mkF m 148 #[.val (.int p0), .val (.int p1), .val (.int p2), .val (.int p3), .val (.ref a1), .val (.ref a35), .val (.int vm), .val (.int va), .val (.int vk), .val (.ref a84), .unset, .unset, .unset, .unset, .unset, .unset, .unset, .unset] [(.int (4 : Int32)), (.int (4 : Int32)), (.ref a84)])) _
  refine g_iload X121 hx (hb hby at_148) rfl ?_
  show Goes p.tables e below (T121.setTop (mkF m 150 #[.val (.int p0), .val (.int p1), .val (.int p2), .val (.int p3), .val (.ref a1), .val (.ref a35), .val (.int vm), .val (.int va), .val (.int vk), .val (.ref a84), .unset, .unset, .unset, .unset, .unset, .unset, .unset, .unset] [(.int va), (.int (4 : Int32)), (.int (4 : Int32)), (.ref a84)])) _
  refine g_imul X121 hx (hb hby at_150) ?_
  show Goes p.tables e below (T121.setTop (mkF m 151 #[.val (.int p0), .val (.int p1), .val (.int p2), .val (.int p3), .val (.ref a1), .val (.ref a35), .val (.int vm), .val (.int va), .val (.int vk), .val (.ref a84), .unset, .unset, .unset, .unset, .unset, .unset, .unset, .unset] [(.int ((4 : Int32) * va)), (.int (4 : Int32)), (.ref a84)])) _
  refine g_iload X121 hx (hb hby at_151) rfl ?_
  show Goes p.tables e below (T121.setTop (mkF m 153 #[.val (.int p0), .val (.int p1), .val (.int p2), .val (.int p3), .val (.ref a1), .val (.ref a35), .val (.int vm), .val (.int va), .val (.int vk), .val (.ref a84), .unset, .unset, .unset, .unset, .unset, .unset, .unset, .unset] [(.int vk), (.int ((4 : Int32) * va)), (.int (4 : Int32)), (.ref a84)])) _
  refine g_iadd X121 hx (hb hby at_153) ?_
  show Goes p.tables e below (T121.setTop (mkF m 154 #[.val (.int p0), .val (.int p1), .val (.int p2), .val (.int p3), .val (.ref a1), .val (.ref a35), .val (.int vm), .val (.int va), .val (.int vk), .val (.ref a84), .unset, .unset, .unset, .unset, .unset, .unset, .unset, .unset] [(.int (((4 : Int32) * va) + vk)), (.int (4 : Int32)), (.ref a84)])) _
  refine g_bipush X121 hx (9 : Int32) (hb hby at_154) (by decide) ?_
  show Goes p.tables e below (T121.setTop (mkF m 156 #[.val (.int p0), .val (.int p1), .val (.int p2), .val (.int p3), .val (.ref a1), .val (.ref a35), .val (.int vm), .val (.int va), .val (.int vk), .val (.ref a84), .unset, .unset, .unset, .unset, .unset, .unset, .unset, .unset] [(.int (9 : Int32)), (.int (((4 : Int32) * va) + vk)), (.int (4 : Int32)), (.ref a84)])) _
  refine g_irem X121 hx (hb hby at_156) (by decide) ?_
  show Goes p.tables e below (T121.setTop (mkF m 157 #[.val (.int p0), .val (.int p1), .val (.int p2), .val (.int p3), .val (.ref a1), .val (.ref a35), .val (.int vm), .val (.int va), .val (.int vk), .val (.ref a84), .unset, .unset, .unset, .unset, .unset, .unset, .unset, .unset] [(.int ((((4 : Int32) * va) + vk) % (9 : Int32))), (.int (4 : Int32)), (.ref a84)])) _
  obtain ⟨n4, hn4⟩ : ∃ z : Int32, z = ((((4 : Int32) * va) + vk) % (9 : Int32)) := ⟨_, rfl⟩
  refine g_nameI hn4 ?_
  show Goes p.tables e below (T121.setTop (mkF m 157 #[.val (.int p0), .val (.int p1), .val (.int p2), .val (.int p3), .val (.ref a1), .val (.ref a35), .val (.int vm), .val (.int va), .val (.int vk), .val (.ref a84), .unset, .unset, .unset, .unset, .unset, .unset, .unset, .unset] [(.int n4), (.int (4 : Int32)), (.ref a84)])) _
  show Goes p.tables e below (T121.setTop (mkF m 157 #[.val (.int p0), .val (.int p1), .val (.int p2), .val (.int p3), .val (.ref a1), .val (.ref a35), .val (.int vm), .val (.int va), .val (.int vk), .val (.ref a84), .unset, .unset, .unset, .unset, .unset, .unset, .unset, .unset] [(.int n4), (.int (4 : Int32)), (.ref a84)])) _
  refine g_iastore X121 hx hZ e121 fx127 4 (by decide) (by show 4 < 9; decide) (hb hby at_157) (fun T130 h130 X130 e130 W130 A130 => ?_)
  have fx131 : Exa Z h130 a1 "[I" := Exa.wr W130 fx122
  have fx132 : Ar Z h130 a1 .int [(.int (1 : Int32)), (.int (2 : Int32)), (.int (4 : Int32)), (.int (5 : Int32)), (.int (7 : Int32)), (.int (8 : Int32))] := Ar.other fx123 W130 ne85
  have fx133 : Exa Z h130 a35 "[I" := Exa.wr W130 fx124
  have fx134 : Ar Z h130 a35 .int [(.int (1 : Int32)), (.int (5 : Int32)), (.int (7 : Int32)), (.int (2 : Int32)), (.int (4 : Int32)), (.int (8 : Int32))] := Ar.other fx125 W130 ne86
  have fx135 : Exa Z h130 a84 "[I" := Exa.wr W130 fx126
  have fx136 : Ar Z h130 a84 .int [(.int n0), (.int n1), (.int n2), (.int n3), (.int n4), (.int (0 : Int32)), (.int (0 : Int32)), (.int (0 : Int32)), (.int (0 : Int32))] := A130
  have N137 := Fr.snoc X130 N128 ge87
  have Z138 : h0.size ≤ h130.size := by rw [W130.size]; exact Z129
  show Goes p.tables e below (T130.setTop (mkF m 158 #[.val (.int p0), .val (.int p1), .val (.int p2), .val (.int p3), .val (.ref a1), .val (.ref a35), .val (.int vm), .val (.int va), .val (.int vk), .val (.ref a84), .unset, .unset, .unset, .unset, .unset, .unset, .unset, .unset] [])) _
  refine g_aload X130 hx (hb hby at_158) rfl rfl ?_
  show Goes p.tables e below (T130.setTop (mkF m 160 #[.val (.int p0), .val (.int p1), .val (.int p2), .val (.int p3), .val (.ref a1), .val (.ref a35), .val (.int vm), .val (.int va), .val (.int vk), .val (.ref a84), .unset, .unset, .unset, .unset, .unset, .unset, .unset, .unset] [(.ref a84)])) _
  refine g_iconst X130 hx (5 : Int32) (hb hby at_160) rfl ?_
  show Goes p.tables e below (T130.setTop (mkF m 161 #[.val (.int p0), .val (.int p1), .val (.int p2), .val (.int p3), .val (.ref a1), .val (.ref a35), .val (.int vm), .val (.int va), .val (.int vk), .val (.ref a84), .unset, .unset, .unset, .unset, .unset, .unset, .unset, .unset] [(.int (5 : Int32)), (.ref a84)])) _
  refine g_iconst X130 hx (5 : Int32) (hb hby at_161) rfl ?_
  show Goes p.tables e below (T130.setTop (mkF m 162 #[.val (.int p0), .val (.int p1), .val (.int p2), .val (.int p3), .val (.ref a1), .val (.ref a35), .val (.int vm), .val (.int va), .val (.int vk), .val (.ref a84), .unset, .unset, .unset, .unset, .unset, .unset, .unset, .unset] [(.int (5 : Int32)), (.int (5 : Int32)), (.ref a84)])) _
  refine g_iload X130 hx (hb hby at_162) rfl ?_
  show Goes p.tables e below (T130.setTop (mkF m 164 #[.val (.int p0), .val (.int p1), .val (.int p2), .val (.int p3), .val (.ref a1), .val (.ref a35), .val (.int vm), .val (.int va), .val (.int vk), .val (.ref a84), .unset, .unset, .unset, .unset, .unset, .unset, .unset, .unset] [(.int va), (.int (5 : Int32)), (.int (5 : Int32)), (.ref a84)])) _
  refine g_imul X130 hx (hb hby at_164) ?_
  show Goes p.tables e below (T130.setTop (mkF m 165 #[.val (.int p0), .val (.int p1), .val (.int p2), .val (.int p3), .val (.ref a1), .val (.ref a35), .val (.int vm), .val (.int va), .val (.int vk), .val (.ref a84), .unset, .unset, .unset, .unset, .unset, .unset, .unset, .unset] [(.int ((5 : Int32) * va)), (.int (5 : Int32)), (.ref a84)])) _
  refine g_iload X130 hx (hb hby at_165) rfl ?_
  show Goes p.tables e below (T130.setTop (mkF m 167 #[.val (.int p0), .val (.int p1), .val (.int p2), .val (.int p3), .val (.ref a1), .val (.ref a35), .val (.int vm), .val (.int va), .val (.int vk), .val (.ref a84), .unset, .unset, .unset, .unset, .unset, .unset, .unset, .unset] [(.int vk), (.int ((5 : Int32) * va)), (.int (5 : Int32)), (.ref a84)])) _
  refine g_iadd X130 hx (hb hby at_167) ?_
  show Goes p.tables e below (T130.setTop (mkF m 168 #[.val (.int p0), .val (.int p1), .val (.int p2), .val (.int p3), .val (.ref a1), .val (.ref a35), .val (.int vm), .val (.int va), .val (.int vk), .val (.ref a84), .unset, .unset, .unset, .unset, .unset, .unset, .unset, .unset] [(.int (((5 : Int32) * va) + vk)), (.int (5 : Int32)), (.ref a84)])) _
  refine g_bipush X130 hx (9 : Int32) (hb hby at_168) (by decide) ?_
  show Goes p.tables e below (T130.setTop (mkF m 170 #[.val (.int p0), .val (.int p1), .val (.int p2), .val (.int p3), .val (.ref a1), .val (.ref a35), .val (.int vm), .val (.int va), .val (.int vk), .val (.ref a84), .unset, .unset, .unset, .unset, .unset, .unset, .unset, .unset] [(.int (9 : Int32)), (.int (((5 : Int32) * va) + vk)), (.int (5 : Int32)), (.ref a84)])) _
  refine g_irem X130 hx (hb hby at_170) (by decide) ?_
  show Goes p.tables e below (T130.setTop (mkF m 171 #[.val (.int p0), .val (.int p1), .val (.int p2), .val (.int p3), .val (.ref a1), .val (.ref a35), .val (.int vm), .val (.int va), .val (.int vk), .val (.ref a84), .unset, .unset, .unset, .unset, .unset, .unset, .unset, .unset] [(.int ((((5 : Int32) * va) + vk) % (9 : Int32))), (.int (5 : Int32)), (.ref a84)])) _
  obtain ⟨n5, hn5⟩ : ∃ z : Int32, z = ((((5 : Int32) * va) + vk) % (9 : Int32)) := ⟨_, rfl⟩
  refine g_nameI hn5 ?_
  show Goes p.tables e below (T130.setTop (mkF m 171 #[.val (.int p0), .val (.int p1), .val (.int p2), .val (.int p3), .val (.ref a1), .val (.ref a35), .val (.int vm), .val (.int va), .val (.int vk), .val (.ref a84), .unset, .unset, .unset, .unset, .unset, .unset, .unset, .unset] [(.int n5), (.int (5 : Int32)), (.ref a84)])) _
  show Goes p.tables e below (T130.setTop (mkF m 171 #[.val (.int p0), .val (.int p1), .val (.int p2), .val (.int p3), .val (.ref a1), .val (.ref a35), .val (.int vm), .val (.int va), .val (.int vk), .val (.ref a84), .unset, .unset, .unset, .unset, .unset, .unset, .unset, .unset] [(.int n5), (.int (5 : Int32)), (.ref a84)])) _
  refine g_iastore X130 hx hZ e130 fx136 5 (by decide) (by show 5 < 9; decide) (hb hby at_171) (fun T139 h139 X139 e139 W139 A139 => ?_)
  have fx140 : Exa Z h139 a1 "[I" := Exa.wr W139 fx131
  have fx141 : Ar Z h139 a1 .int [(.int (1 : Int32)), (.int (2 : Int32)), (.int (4 : Int32)), (.int (5 : Int32)), (.int (7 : Int32)), (.int (8 : Int32))] := Ar.other fx132 W139 ne85
  have fx142 : Exa Z h139 a35 "[I" := Exa.wr W139 fx133
  have fx143 : Ar Z h139 a35 .int [(.int (1 : Int32)), (.int (5 : Int32)), (.int (7 : Int32)), (.int (2 : Int32)), (.int (4 : Int32)), (.int (8 : Int32))] := Ar.other fx134 W139 ne86
  have fx144 : Exa Z h139 a84 "[I" := Exa.wr W139 fx135
  have fx145 : Ar Z h139 a84 .int [(.int n0), (.int n1), (.int n2), (.int n3), (.int n4), (.int n5), (.int (0 : Int32)), (.int (0 : Int32)), (.int (0 : Int32))] := A139
  have N146 := Fr.snoc X139 N137 ge87
  have Z147 : h0.size ≤ h139.size := by rw [W139.size]; exact Z138
  show Goes p.tables e below (T139.setTop (mkF m 172 #[.val (.int p0), .val (.int p1), .val (.int p2), .val (.int p3), .val (.ref a1), .val (.ref a35), .val (.int vm), .val (.int va), .val (.int vk), .val (.ref a84), .unset, .unset, .unset, .unset, .unset, .unset, .unset, .unset] [])) _
  refine g_aload X139 hx (hb hby at_172) rfl rfl ?_
  show Goes p.tables e below (T139.setTop (mkF m 174 #[.val (.int p0), .val (.int p1), .val (.int p2), .val (.int p3), .val (.ref a1), .val (.ref a35), .val (.int vm), .val (.int va), .val (.int vk), .val (.ref a84), .unset, .unset, .unset, .unset, .unset, .unset, .unset, .unset] [(.ref a84)])) _
  refine g_bipush X139 hx (6 : Int32) (hb hby at_174) (by decide) ?_
  show Goes p.tables e below (T139.setTop (mkF m 176 #[.val (.int p0), .val (.int p1), .val (.int p2), .val (.int p3), .val (.ref a1), .val (.ref a35), .val (.int vm), .val (.int va), .val (.int vk), .val (.ref a84), .unset, .unset, .unset, .unset, .unset, .unset, .unset, .unset] [(.int (6 : Int32)), (.ref a84)])) _
  refine g_bipush X139 hx (6 : Int32) (hb hby at_176) (by decide) ?_
  show Goes p.tables e below (T139.setTop (mkF m 178 #[.val (.int p0), .val (.int p1), .val (.int p2), .val (.int p3), .val (.ref a1), .val (.ref a35), .val (.int vm), .val (.int va), .val (.int vk), .val (.ref a84), .unset, .unset, .unset, .unset, .unset, .unset, .unset, .unset] [(.int (6 : Int32)), (.int (6 : Int32)), (.ref a84)])) _
  refine g_iload X139 hx (hb hby at_178) rfl ?_
  show Goes p.tables e below (T139.setTop (mkF m 180 #[.val (.int p0), .val (.int p1), .val (.int p2), .val (.int p3), .val (.ref a1), .val (.ref a35), .val (.int vm), .val (.int va), .val (.int vk), .val (.ref a84), .unset, .unset, .unset, .unset, .unset, .unset, .unset, .unset] [(.int va), (.int (6 : Int32)), (.int (6 : Int32)), (.ref a84)])) _
  refine g_imul X139 hx (hb hby at_180) ?_
  show Goes p.tables e below (T139.setTop (mkF m 181 #[.val (.int p0), .val (.int p1), .val (.int p2), .val (.int p3), .val (.ref a1), .val (.ref a35), .val (.int vm), .val (.int va), .val (.int vk), .val (.ref a84), .unset, .unset, .unset, .unset, .unset, .unset, .unset, .unset] [(.int ((6 : Int32) * va)), (.int (6 : Int32)), (.ref a84)])) _
  refine g_iload X139 hx (hb hby at_181) rfl ?_
  show Goes p.tables e below (T139.setTop (mkF m 183 #[.val (.int p0), .val (.int p1), .val (.int p2), .val (.int p3), .val (.ref a1), .val (.ref a35), .val (.int vm), .val (.int va), .val (.int vk), .val (.ref a84), .unset, .unset, .unset, .unset, .unset, .unset, .unset, .unset] [(.int vk), (.int ((6 : Int32) * va)), (.int (6 : Int32)), (.ref a84)])) _
  refine g_iadd X139 hx (hb hby at_183) ?_
  show Goes p.tables e below (T139.setTop (mkF m 184 #[.val (.int p0), .val (.int p1), .val (.int p2), .val (.int p3), .val (.ref a1), .val (.ref a35), .val (.int vm), .val (.int va), .val (.int vk), .val (.ref a84), .unset, .unset, .unset, .unset, .unset, .unset, .unset, .unset] [(.int (((6 : Int32) * va) + vk)), (.int (6 : Int32)), (.ref a84)])) _
  refine g_bipush X139 hx (9 : Int32) (hb hby at_184) (by decide) ?_
  show Goes p.tables e below (T139.setTop (mkF m 186 #[.val (.int p0), .val (.int p1), .val (.int p2), .val (.int p3), .val (.ref a1), .val (.ref a35), .val (.int vm), .val (.int va), .val (.int vk), .val (.ref a84), .unset, .unset, .unset, .unset, .unset, .unset, .unset, .unset] [(.int (9 : Int32)), (.int (((6 : Int32) * va) + vk)), (.int (6 : Int32)), (.ref a84)])) _
  refine g_irem X139 hx (hb hby at_186) (by decide) ?_
  show Goes p.tables e below (T139.setTop (mkF m 187 #[.val (.int p0), .val (.int p1), .val (.int p2), .val (.int p3), .val (.ref a1), .val (.ref a35), .val (.int vm), .val (.int va), .val (.int vk), .val (.ref a84), .unset, .unset, .unset, .unset, .unset, .unset, .unset, .unset] [(.int ((((6 : Int32) * va) + vk) % (9 : Int32))), (.int (6 : Int32)), (.ref a84)])) _
  obtain ⟨n6, hn6⟩ : ∃ z : Int32, z = ((((6 : Int32) * va) + vk) % (9 : Int32)) := ⟨_, rfl⟩
  refine g_nameI hn6 ?_
  show Goes p.tables e below (T139.setTop (mkF m 187 #[.val (.int p0), .val (.int p1), .val (.int p2), .val (.int p3), .val (.ref a1), .val (.ref a35), .val (.int vm), .val (.int va), .val (.int vk), .val (.ref a84), .unset, .unset, .unset, .unset, .unset, .unset, .unset, .unset] [(.int n6), (.int (6 : Int32)), (.ref a84)])) _
  show Goes p.tables e below (T139.setTop (mkF m 187 #[.val (.int p0), .val (.int p1), .val (.int p2), .val (.int p3), .val (.ref a1), .val (.ref a35), .val (.int vm), .val (.int va), .val (.int vk), .val (.ref a84), .unset, .unset, .unset, .unset, .unset, .unset, .unset, .unset] [(.int n6), (.int (6 : Int32)), (.ref a84)])) _
  refine g_iastore X139 hx hZ e139 fx145 6 (by decide) (by show 6 < 9; decide) (hb hby at_187) (fun T148 h148 X148 e148 W148 A148 => ?_)
  have fx149 : Exa Z h148 a1 "[I" := Exa.wr W148 fx140
  have fx150 : Ar Z h148 a1 .int [(.int (1 : Int32)), (.int (2 : Int32)), (.int (4 : Int32)), (.int (5 : Int32)), (.int (7 : Int32)), (.int (8 : Int32))] := Ar.other fx141 W148 ne85
  have fx151 : Exa Z h148 a35 "[I" := Exa.wr W148 fx142
  have fx152 : Ar Z h148 a35 .int [(.int (1 : Int32)), (.int (5 : Int32)), (.int (7 : Int32)), (.int (2 : Int32)), (.int (4 : Int32)), (.int (8 : Int32))] := Ar.other fx143 W148 ne86
  have fx153 : Exa Z h148 a84 "[I" := Exa.wr W148 fx144
  have fx154 : Ar Z h148 a84 .int [(.int n0), (.int n1), (.int n2), (.int n3), (.int n4), (.int n5), (.int n6), (.int (0 : Int32)), (.int (0 : Int32))] := A148
  have N155 := Fr.snoc X148 N146 ge87
  have Z156 : h0.size ≤ h148.size := by rw [W148.size]; exact Z147
  show Goes p.tables e below (T148.setTop (mkF m 188 #[.val (.int p0), .val (.int p1), .val (.int p2), .val (.int p3), .val (.ref a1), .val (.ref a35), .val (.int vm), .val (.int va), .val (.int vk), .val (.ref a84), .unset, .unset, .unset, .unset, .unset, .unset, .unset, .unset] [])) _
  refine g_aload X148 hx (hb hby at_188) rfl rfl ?_
  show Goes p.tables e below (T148.setTop (mkF m 190 #[.val (.int p0), .val (.int p1), .val (.int p2), .val (.int p3), .val (.ref a1), .val (.ref a35), .val (.int vm), .val (.int va), .val (.int vk), .val (.ref a84), .unset, .unset, .unset, .unset, .unset, .unset, .unset, .unset] [(.ref a84)])) _
  refine g_bipush X148 hx (7 : Int32) (hb hby at_190) (by decide) ?_
  show Goes p.tables e below (T148.setTop (mkF m 192 #[.val (.int p0), .val (.int p1), .val (.int p2), .val (.int p3), .val (.ref a1), .val (.ref a35), .val (.int vm), .val (.int va), .val (.int vk), .val (.ref a84), .unset, .unset, .unset, .unset, .unset, .unset, .unset, .unset] [(.int (7 : Int32)), (.ref a84)])) _
  refine g_bipush X148 hx (7 : Int32) (hb hby at_192) (by decide) ?_
  show Goes p.tables e below (T148.setTop (mkF m 194 #[.val (.int p0), .val (.int p1), .val (.int p2), .val (.int p3), .val (.ref a1), .val (.ref a35), .val (.int vm), .val (.int va), .val (.int vk), .val (.ref a84), .unset, .unset, .unset, .unset, .unset, .unset, .unset, .unset] [(.int (7 : Int32)), (.int (7 : Int32)), (.ref a84)])) _
  refine g_iload X148 hx (hb hby at_194) rfl ?_
  show Goes p.tables e below (T148.setTop (mkF m 196 #[.val (.int p0), .val (.int p1), .val (.int p2), .val (.int p3), .val (.ref a1), .val (.ref a35), .val (.int vm), .val (.int va), .val (.int vk), .val (.ref a84), .unset, .unset, .unset, .unset, .unset, .unset, .unset, .unset] [(.int va), (.int (7 : Int32)), (.int (7 : Int32)), (.ref a84)])) _
  refine g_imul X148 hx (hb hby at_196) ?_
  show Goes p.tables e below (T148.setTop (mkF m 197 #[.val (.int p0), .val (.int p1), .val (.int p2), .val (.int p3), .val (.ref a1), .val (.ref a35), .val (.int vm), .val (.int va), .val (.int vk), .val (.ref a84), .unset, .unset, .unset, .unset, .unset, .unset, .unset, .unset] [(.int ((7 : Int32) * va)), (.int (7 : Int32)), (.ref a84)])) _
  refine g_iload X148 hx (hb hby at_197) rfl ?_
  show Goes p.tables e below (T148.setTop (mkF m 199 #[.val (.int p0), .val (.int p1), .val (.int p2), .val (.int p3), .val (.ref a1), .val (.ref a35), .val (.int vm), .val (.int va), .val (.int vk), .val (.ref a84), .unset, .unset, .unset, .unset, .unset, .unset, .unset, .unset] [(.int vk), (.int ((7 : Int32) * va)), (.int (7 : Int32)), (.ref a84)])) _
  refine g_iadd X148 hx (hb hby at_199) ?_
  show Goes p.tables e below (T148.setTop (mkF m 200 #[.val (.int p0), .val (.int p1), .val (.int p2), .val (.int p3), .val (.ref a1), .val (.ref a35), .val (.int vm), .val (.int va), .val (.int vk), .val (.ref a84), .unset, .unset, .unset, .unset, .unset, .unset, .unset, .unset] [(.int (((7 : Int32) * va) + vk)), (.int (7 : Int32)), (.ref a84)])) _
  refine g_bipush X148 hx (9 : Int32) (hb hby at_200) (by decide) ?_
  show Goes p.tables e below (T148.setTop (mkF m 202 #[.val (.int p0), .val (.int p1), .val (.int p2), .val (.int p3), .val (.ref a1), .val (.ref a35), .val (.int vm), .val (.int va), .val (.int vk), .val (.ref a84), .unset, .unset, .unset, .unset, .unset, .unset, .unset, .unset] [(.int (9 : Int32)), (.int (((7 : Int32) * va) + vk)), (.int (7 : Int32)), (.ref a84)])) _
  refine g_irem X148 hx (hb hby at_202) (by decide) ?_
  show Goes p.tables e below (T148.setTop (mkF m 203 #[.val (.int p0), .val (.int p1), .val (.int p2), .val (.int p3), .val (.ref a1), .val (.ref a35), .val (.int vm), .val (.int va), .val (.int vk), .val (.ref a84), .unset, .unset, .unset, .unset, .unset, .unset, .unset, .unset] [(.int ((((7 : Int32) * va) + vk) % (9 : Int32))), (.int (7 : Int32)), (.ref a84)])) _
  obtain ⟨n7, hn7⟩ : ∃ z : Int32, z = ((((7 : Int32) * va) + vk) % (9 : Int32)) := ⟨_, rfl⟩
  refine g_nameI hn7 ?_
  show Goes p.tables e below (T148.setTop (mkF m 203 #[.val (.int p0), .val (.int p1), .val (.int p2), .val (.int p3), .val (.ref a1), .val (.ref a35), .val (.int vm), .val (.int va), .val (.int vk), .val (.ref a84), .unset, .unset, .unset, .unset, .unset, .unset, .unset, .unset] [(.int n7), (.int (7 : Int32)), (.ref a84)])) _
  show Goes p.tables e below (T148.setTop (mkF m 203 #[.val (.int p0), .val (.int p1), .val (.int p2), .val (.int p3), .val (.ref a1), .val (.ref a35), .val (.int vm), .val (.int va), .val (.int vk), .val (.ref a84), .unset, .unset, .unset, .unset, .unset, .unset, .unset, .unset] [(.int n7), (.int (7 : Int32)), (.ref a84)])) _
  refine g_iastore X148 hx hZ e148 fx154 7 (by decide) (by show 7 < 9; decide) (hb hby at_203) (fun T157 h157 X157 e157 W157 A157 => ?_)
  have fx158 : Exa Z h157 a1 "[I" := Exa.wr W157 fx149
  have fx159 : Ar Z h157 a1 .int [(.int (1 : Int32)), (.int (2 : Int32)), (.int (4 : Int32)), (.int (5 : Int32)), (.int (7 : Int32)), (.int (8 : Int32))] := Ar.other fx150 W157 ne85
  have fx160 : Exa Z h157 a35 "[I" := Exa.wr W157 fx151
  have fx161 : Ar Z h157 a35 .int [(.int (1 : Int32)), (.int (5 : Int32)), (.int (7 : Int32)), (.int (2 : Int32)), (.int (4 : Int32)), (.int (8 : Int32))] := Ar.other fx152 W157 ne86
  have fx162 : Exa Z h157 a84 "[I" := Exa.wr W157 fx153
  have fx163 : Ar Z h157 a84 .int [(.int n0), (.int n1), (.int n2), (.int n3), (.int n4), (.int n5), (.int n6), (.int n7), (.int (0 : Int32))] := A157
  have N164 := Fr.snoc X157 N155 ge87
  have Z165 : h0.size ≤ h157.size := by rw [W157.size]; exact Z156
  show Goes p.tables e below (T157.setTop (mkF m 204 #[.val (.int p0), .val (.int p1), .val (.int p2), .val (.int p3), .val (.ref a1), .val (.ref a35), .val (.int vm), .val (.int va), .val (.int vk), .val (.ref a84), .unset, .unset, .unset, .unset, .unset, .unset, .unset, .unset] [])) _
  refine g_aload X157 hx (hb hby at_204) rfl rfl ?_
  show Goes p.tables e below (T157.setTop (mkF m 206 #[.val (.int p0), .val (.int p1), .val (.int p2), .val (.int p3), .val (.ref a1), .val (.ref a35), .val (.int vm), .val (.int va), .val (.int vk), .val (.ref a84), .unset, .unset, .unset, .unset, .unset, .unset, .unset, .unset] [(.ref a84)])) _
  refine g_bipush X157 hx (8 : Int32) (hb hby at_206) (by decide) ?_
  show Goes p.tables e below (T157.setTop (mkF m 208 #[.val (.int p0), .val (.int p1), .val (.int p2), .val (.int p3), .val (.ref a1), .val (.ref a35), .val (.int vm), .val (.int va), .val (.int vk), .val (.ref a84), .unset, .unset, .unset, .unset, .unset, .unset, .unset, .unset] [(.int (8 : Int32)), (.ref a84)])) _
  refine g_bipush X157 hx (8 : Int32) (hb hby at_208) (by decide) ?_
  show Goes p.tables e below (T157.setTop (mkF m 210 #[.val (.int p0), .val (.int p1), .val (.int p2), .val (.int p3), .val (.ref a1), .val (.ref a35), .val (.int vm), .val (.int va), .val (.int vk), .val (.ref a84), .unset, .unset, .unset, .unset, .unset, .unset, .unset, .unset] [(.int (8 : Int32)), (.int (8 : Int32)), (.ref a84)])) _
  refine g_iload X157 hx (hb hby at_210) rfl ?_
  show Goes p.tables e below (T157.setTop (mkF m 212 #[.val (.int p0), .val (.int p1), .val (.int p2), .val (.int p3), .val (.ref a1), .val (.ref a35), .val (.int vm), .val (.int va), .val (.int vk), .val (.ref a84), .unset, .unset, .unset, .unset, .unset, .unset, .unset, .unset] [(.int va), (.int (8 : Int32)), (.int (8 : Int32)), (.ref a84)])) _
  refine g_imul X157 hx (hb hby at_212) ?_
  show Goes p.tables e below (T157.setTop (mkF m 213 #[.val (.int p0), .val (.int p1), .val (.int p2), .val (.int p3), .val (.ref a1), .val (.ref a35), .val (.int vm), .val (.int va), .val (.int vk), .val (.ref a84), .unset, .unset, .unset, .unset, .unset, .unset, .unset, .unset] [(.int ((8 : Int32) * va)), (.int (8 : Int32)), (.ref a84)])) _
  refine g_iload X157 hx (hb hby at_213) rfl ?_
  show Goes p.tables e below (T157.setTop (mkF m 215 #[.val (.int p0), .val (.int p1), .val (.int p2), .val (.int p3), .val (.ref a1), .val (.ref a35), .val (.int vm), .val (.int va), .val (.int vk), .val (.ref a84), .unset, .unset, .unset, .unset, .unset, .unset, .unset, .unset] [(.int vk), (.int ((8 : Int32) * va)), (.int (8 : Int32)), (.ref a84)])) _
  refine g_iadd X157 hx (hb hby at_215) ?_
  show Goes p.tables e below (T157.setTop (mkF m 216 #[.val (.int p0), .val (.int p1), .val (.int p2), .val (.int p3), .val (.ref a1), .val (.ref a35), .val (.int vm), .val (.int va), .val (.int vk), .val (.ref a84), .unset, .unset, .unset, .unset, .unset, .unset, .unset, .unset] [(.int (((8 : Int32) * va) + vk)), (.int (8 : Int32)), (.ref a84)])) _
  refine g_bipush X157 hx (9 : Int32) (hb hby at_216) (by decide) ?_
  show Goes p.tables e below (T157.setTop (mkF m 218 #[.val (.int p0), .val (.int p1), .val (.int p2), .val (.int p3), .val (.ref a1), .val (.ref a35), .val (.int vm), .val (.int va), .val (.int vk), .val (.ref a84), .unset, .unset, .unset, .unset, .unset, .unset, .unset, .unset] [(.int (9 : Int32)), (.int (((8 : Int32) * va) + vk)), (.int (8 : Int32)), (.ref a84)])) _
  refine g_irem X157 hx (hb hby at_218) (by decide) ?_
  show Goes p.tables e below (T157.setTop (mkF m 219 #[.val (.int p0), .val (.int p1), .val (.int p2), .val (.int p3), .val (.ref a1), .val (.ref a35), .val (.int vm), .val (.int va), .val (.int vk), .val (.ref a84), .unset, .unset, .unset, .unset, .unset, .unset, .unset, .unset] [(.int ((((8 : Int32) * va) + vk) % (9 : Int32))), (.int (8 : Int32)), (.ref a84)])) _
  obtain ⟨n8, hn8⟩ : ∃ z : Int32, z = ((((8 : Int32) * va) + vk) % (9 : Int32)) := ⟨_, rfl⟩
  refine g_nameI hn8 ?_
  show Goes p.tables e below (T157.setTop (mkF m 219 #[.val (.int p0), .val (.int p1), .val (.int p2), .val (.int p3), .val (.ref a1), .val (.ref a35), .val (.int vm), .val (.int va), .val (.int vk), .val (.ref a84), .unset, .unset, .unset, .unset, .unset, .unset, .unset, .unset] [(.int n8), (.int (8 : Int32)), (.ref a84)])) _
  show Goes p.tables e below (T157.setTop (mkF m 219 #[.val (.int p0), .val (.int p1), .val (.int p2), .val (.int p3), .val (.ref a1), .val (.ref a35), .val (.int vm), .val (.int va), .val (.int vk), .val (.ref a84), .unset, .unset, .unset, .unset, .unset, .unset, .unset, .unset] [(.int n8), (.int (8 : Int32)), (.ref a84)])) _
  refine g_iastore X157 hx hZ e157 fx163 8 (by decide) (by show 8 < 9; decide) (hb hby at_219) (fun T166 h166 X166 e166 W166 A166 => ?_)
  have fx167 : Exa Z h166 a1 "[I" := Exa.wr W166 fx158
  have fx168 : Ar Z h166 a1 .int [(.int (1 : Int32)), (.int (2 : Int32)), (.int (4 : Int32)), (.int (5 : Int32)), (.int (7 : Int32)), (.int (8 : Int32))] := Ar.other fx159 W166 ne85
  have fx169 : Exa Z h166 a35 "[I" := Exa.wr W166 fx160
  have fx170 : Ar Z h166 a35 .int [(.int (1 : Int32)), (.int (5 : Int32)), (.int (7 : Int32)), (.int (2 : Int32)), (.int (4 : Int32)), (.int (8 : Int32))] := Ar.other fx161 W166 ne86
  have fx171 : Exa Z h166 a84 "[I" := Exa.wr W166 fx162
  have fx172 : Ar Z h166 a84 .int [(.int n0), (.int n1), (.int n2), (.int n3), (.int n4), (.int n5), (.int n6), (.int n7), (.int n8)] := A166
  have N173 := Fr.snoc X166 N164 ge87
  have Z174 : h0.size ≤ h166.size := by rw [W166.size]; exact Z165
  show Goes p.tables e below (T166.setTop (mkF m 220 #[.val (.int p0), .val (.int p1), .val (.int p2), .val (.int p3), .val (.ref a1), .val (.ref a35), .val (.int vm), .val (.int va), .val (.int vk), .val (.ref a84), .unset, .unset, .unset, .unset, .unset, .unset, .unset, .unset] [])) _
  refine g_bipush X166 hx (9 : Int32) (hb hby at_220) (by decide) ?_
  show Goes p.tables e below (T166.setTop (mkF m 222 #[.val (.int p0), .val (.int p1), .val (.int p2), .val (.int p3), .val (.ref a1), .val (.ref a35), .val (.int vm), .val (.int va), .val (.int vk), .val (.ref a84), .unset, .unset, .unset, .unset, .unset, .unset, .unset, .unset] [(.int (9 : Int32))])) _
  refine g_newarr X166 hx hZ e166 (hw _ (List.mem_of_getElem? (i := 2) rfl)) (hb hby at_222) (n := 9) (by decide) 9 (by omega) (by decide) (by decide) (by decide) (ad := "[B") (by decide) rfl (fun T175 h175 a175 ga175 X175 e175 Ex175 Aa175 Ea175 => ?_)
  have ne176 : a1 ≠ a175 := Nat.ne_of_lt (by rw [ga175]; exact fx167.lt)
  have ne177 : a35 ≠ a175 := Nat.ne_of_lt (by rw [ga175]; exact fx169.lt)
  have ne178 : a84 ≠ a175 := Nat.ne_of_lt (by rw [ga175]; exact fx171.lt)
  have ge179 : h0.size ≤ a175 := by rw [ga175]; exact Z174
  have fx180 : Exa Z h175 a1 "[I" := Exa.ext Ex175 fx167
  have fx181 : Ar Z h175 a1 .int [(.int (1 : Int32)), (.int (2 : Int32)), (.int (4 : Int32)), (.int (5 : Int32)), (.int (7 : Int32)), (.int (8 : Int32))] := Ar.ext fx168 Ex175
  have fx182 : Exa Z h175 a35 "[I" := Exa.ext Ex175 fx169
  have fx183 : Ar Z h175 a35 .int [(.int (1 : Int32)), (.int (5 : Int32)), (.int (7 : Int32)), (.int (2 : Int32)), (.int (4 : Int32)), (.int (8 : Int32))] := Ar.ext fx170 Ex175
  have fx184 : Exa Z h175 a84 "[I" := Exa.ext Ex175 fx171
  have fx185 : Ar Z h175 a84 .int [(.int n0), (.int n1), (.int n2), (.int n3), (.int n4), (.int n5), (.int n6), (.int n7), (.int n8)] := Ar.ext fx172 Ex175
  have Z186 : h0.size ≤ h175.size := Nat.le_trans Z174 Ex175.1
  have fx187 : Ar Z h175 a175 .byte [(.int (0 : Int32)), (.int (0 : Int32)), (.int (0 : Int32)), (.int (0 : Int32)), (.int (0 : Int32)), (.int (0 : Int32)), (.int (0 : Int32)), (.int (0 : Int32)), (.int (0 : Int32))] := Aa175
  show Goes p.tables e below (T175.setTop (mkF m 224 #[.val (.int p0), .val (.int p1), .val (.int p2), .val (.int p3), .val (.ref a1), .val (.ref a35), .val (.int vm), .val (.int va), .val (.int vk), .val (.ref a84), .unset, .unset, .unset, .unset, .unset, .unset, .unset, .unset] [(.ref a175)])) _
  refine g_astore X175 hx (hb hby at_224) rfl (l' := #[.val (.int p0), .val (.int p1), .val (.int p2), .val (.int p3), .val (.ref a1), .val (.ref a35), .val (.int vm), .val (.int va), .val (.int vk), .val (.ref a84), .val (.ref a175), .unset, .unset, .unset, .unset, .unset, .unset, .unset]) rfl ?_
  show Goes p.tables e below (T175.setTop (mkF m 226 #[.val (.int p0), .val (.int p1), .val (.int p2), .val (.int p3), .val (.ref a1), .val (.ref a35), .val (.int vm), .val (.int va), .val (.int vk), .val (.ref a84), .val (.ref a175), .unset, .unset, .unset, .unset, .unset, .unset, .unset] [])) _
  refine g_aload X175 hx (hb hby at_226) rfl rfl ?_
  show Goes p.tables e below (T175.setTop (mkF m 228 #[.val (.int p0), .val (.int p1), .val (.int p2), .val (.int p3), .val (.ref a1), .val (.ref a35), .val (.int vm), .val (.int va), .val (.int vk), .val (.ref a84), .val (.ref a175), .unset, .unset, .unset, .unset, .unset, .unset, .unset] [(.ref a175)])) _
  refine g_iconst X175 hx (0 : Int32) (hb hby at_228) rfl ?_
  show Goes p.tables e below (T175.setTop (mkF m 229 #[.val (.int p0), .val (.int p1), .val (.int p2), .val (.int p3), .val (.ref a1), .val (.ref a35), .val (.int vm), .val (.int va), .val (.int vk), .val (.ref a84), .val (.ref a175), .unset, .unset, .unset, .unset, .unset, .unset, .unset] [(.int (0 : Int32)), (.ref a175)])) _
  refine g_aload X175 hx (hb hby at_229) rfl rfl ?_
  show Goes p.tables e below (T175.setTop (mkF m 231 #[.val (.int p0), .val (.int p1), .val (.int p2), .val (.int p3), .val (.ref a1), .val (.ref a35), .val (.int vm), .val (.int va), .val (.int vk), .val (.ref a84), .val (.ref a175), .unset, .unset, .unset, .unset, .unset, .unset, .unset] [(.ref a84), (.int (0 : Int32)), (.ref a175)])) _
  refine g_iconst X175 hx (0 : Int32) (hb hby at_231) rfl ?_
  show Goes p.tables e below (T175.setTop (mkF m 232 #[.val (.int p0), .val (.int p1), .val (.int p2), .val (.int p3), .val (.ref a1), .val (.ref a35), .val (.int vm), .val (.int va), .val (.int vk), .val (.ref a84), .val (.ref a175), .unset, .unset, .unset, .unset, .unset, .unset, .unset] [(.int (0 : Int32)), (.ref a84), (.int (0 : Int32)), (.ref a175)])) _
  refine g_iaload X175 hx hZ e175 fx185 (i := 0) (v := (.int n0)) (by decide) rfl (hb hby at_232) ?_
  show Goes p.tables e below (T175.setTop (mkF m 233 #[.val (.int p0), .val (.int p1), .val (.int p2), .val (.int p3), .val (.ref a1), .val (.ref a35), .val (.int vm), .val (.int va), .val (.int vk), .val (.ref a84), .val (.ref a175), .unset, .unset, .unset, .unset, .unset, .unset, .unset] [(.int n0), (.int (0 : Int32)), (.ref a175)])) _
  refine g_i2b X175 hx (hb hby at_233) ?_
  show Goes p.tables e below (T175.setTop (mkF m 234 #[.val (.int p0), .val (.int p1), .val (.int p2), .val (.int p3), .val (.ref a1), .val (.ref a35), .val (.int vm), .val (.int va), .val (.int vk), .val (.ref a84), .val (.ref a175), .unset, .unset, .unset, .unset, .unset, .unset, .unset] [(.int (Int8.toInt32 (Int32.toInt8 n0))), (.int (0 : Int32)), (.ref a175)])) _
  obtain ⟨y0, hy0⟩ : ∃ z : Int32, z = (Int8.toInt32 (Int32.toInt8 n0)) := ⟨_, rfl⟩
  refine g_nameI hy0 ?_
  show Goes p.tables e below (T175.setTop (mkF m 234 #[.val (.int p0), .val (.int p1), .val (.int p2), .val (.int p3), .val (.ref a1), .val (.ref a35), .val (.int vm), .val (.int va), .val (.int vk), .val (.ref a84), .val (.ref a175), .unset, .unset, .unset, .unset, .unset, .unset, .unset] [(.int y0), (.int (0 : Int32)), (.ref a175)])) _
  show Goes p.tables e below (T175.setTop (mkF m 234 #[.val (.int p0), .val (.int p1), .val (.int p2), .val (.int p3), .val (.ref a1), .val (.ref a35), .val (.int vm), .val (.int va), .val (.int vk), .val (.ref a84), .val (.ref a175), .unset, .unset, .unset, .unset, .unset, .unset, .unset] [(.int y0), (.int (0 : Int32)), (.ref a175)])) _
  refine g_bastore X175 hx hZ e175 fx187 0 (by decide) (by show 0 < 9; decide) y0 (by rw [hy0]; simp [nar]) (hb hby at_234) (fun T188 h188 X188 e188 W188 A188 => ?_)
  have fx189 : Exa Z h188 a1 "[I" := Exa.wr W188 fx180
  have fx190 : Ar Z h188 a1 .int [(.int (1 : Int32)), (.int (2 : Int32)), (.int (4 : Int32)), (.int (5 : Int32)), (.int (7 : Int32)), (.int (8 : Int32))] := Ar.other fx181 W188 ne176
  have fx191 : Exa Z h188 a35 "[I" := Exa.wr W188 fx182
  have fx192 : Ar Z h188 a35 .int [(.int (1 : Int32)), (.int (5 : Int32)), (.int (7 : Int32)), (.int (2 : Int32)), (.int (4 : Int32)), (.int (8 : Int32))] := Ar.other fx183 W188 ne177
  have fx193 : Exa Z h188 a84 "[I" := Exa.wr W188 fx184
  have fx194 : Ar Z h188 a84 .int [(.int n0), (.int n1), (.int n2), (.int n3), (.int n4), (.int n5), (.int n6), (.int n7), (.int n8)] := Ar.other fx185 W188 ne178
  have fx195 : Exa Z h188 a175 "[B" := Exa.wr W188 Ea175
  have fx196 : Ar Z h188 a175 .byte [(.int y0), (.int (0 : Int32)), (.int (0 : Int32)), (.int (0 : Int32)), (.int (0 : Int32)), (.int (0 : Int32)), (.int (0 : Int32)), (.int (0 : Int32)), (.int (0 : Int32))] := A188
  have N197 := Fr.snoc X188 N173 ge179
  have Z198 : h0.size ≤ h188.size := by rw [W188.size]; exact Z186
  show Goes p.tables e below (T188.setTop (mkF m 235 #[.val (.int p0), .val (.int p1), .val (.int p2), .val (.int p3), .val (.ref a1), .val (.ref a35), .val (.int vm), .val (.int va), .val (.int vk), .val (.ref a84), .val (.ref a175), .unset, .unset, .unset, .unset, .unset, .unset, .unset] [])) _
  refine g_aload X188 hx (hb hby at_235) rfl rfl ?_
  show Goes p.tables e below (T188.setTop (mkF m 237 #[.val (.int p0), .val (.int p1), .val (.int p2), .val (.int p3), .val (.ref a1), .val (.ref a35), .val (.int vm), .val (.int va), .val (.int vk), .val (.ref a84), .val (.ref a175), .unset, .unset, .unset, .unset, .unset, .unset, .unset] [(.ref a175)])) _
  refine g_iconst X188 hx (1 : Int32) (hb hby at_237) rfl ?_
  show Goes p.tables e below (T188.setTop (mkF m 238 #[.val (.int p0), .val (.int p1), .val (.int p2), .val (.int p3), .val (.ref a1), .val (.ref a35), .val (.int vm), .val (.int va), .val (.int vk), .val (.ref a84), .val (.ref a175), .unset, .unset, .unset, .unset, .unset, .unset, .unset] [(.int (1 : Int32)), (.ref a175)])) _
  refine g_aload X188 hx (hb hby at_238) rfl rfl ?_
  show Goes p.tables e below (T188.setTop (mkF m 240 #[.val (.int p0), .val (.int p1), .val (.int p2), .val (.int p3), .val (.ref a1), .val (.ref a35), .val (.int vm), .val (.int va), .val (.int vk), .val (.ref a84), .val (.ref a175), .unset, .unset, .unset, .unset, .unset, .unset, .unset] [(.ref a84), (.int (1 : Int32)), (.ref a175)])) _
  refine g_iconst X188 hx (1 : Int32) (hb hby at_240) rfl ?_
  show Goes p.tables e below (T188.setTop (mkF m 241 #[.val (.int p0), .val (.int p1), .val (.int p2), .val (.int p3), .val (.ref a1), .val (.ref a35), .val (.int vm), .val (.int va), .val (.int vk), .val (.ref a84), .val (.ref a175), .unset, .unset, .unset, .unset, .unset, .unset, .unset] [(.int (1 : Int32)), (.ref a84), (.int (1 : Int32)), (.ref a175)])) _
  refine g_iaload X188 hx hZ e188 fx194 (i := 1) (v := (.int n1)) (by decide) rfl (hb hby at_241) ?_
  show Goes p.tables e below (T188.setTop (mkF m 242 #[.val (.int p0), .val (.int p1), .val (.int p2), .val (.int p3), .val (.ref a1), .val (.ref a35), .val (.int vm), .val (.int va), .val (.int vk), .val (.ref a84), .val (.ref a175), .unset, .unset, .unset, .unset, .unset, .unset, .unset] [(.int n1), (.int (1 : Int32)), (.ref a175)])) _
  refine g_i2b X188 hx (hb hby at_242) ?_
  show Goes p.tables e below (T188.setTop (mkF m 243 #[.val (.int p0), .val (.int p1), .val (.int p2), .val (.int p3), .val (.ref a1), .val (.ref a35), .val (.int vm), .val (.int va), .val (.int vk), .val (.ref a84), .val (.ref a175), .unset, .unset, .unset, .unset, .unset, .unset, .unset] [(.int (Int8.toInt32 (Int32.toInt8 n1))), (.int (1 : Int32)), (.ref a175)])) _
  obtain ⟨y1, hy1⟩ : ∃ z : Int32, z = (Int8.toInt32 (Int32.toInt8 n1)) := ⟨_, rfl⟩
  refine g_nameI hy1 ?_
  show Goes p.tables e below (T188.setTop (mkF m 243 #[.val (.int p0), .val (.int p1), .val (.int p2), .val (.int p3), .val (.ref a1), .val (.ref a35), .val (.int vm), .val (.int va), .val (.int vk), .val (.ref a84), .val (.ref a175), .unset, .unset, .unset, .unset, .unset, .unset, .unset] [(.int y1), (.int (1 : Int32)), (.ref a175)])) _
  show Goes p.tables e below (T188.setTop (mkF m 243 #[.val (.int p0), .val (.int p1), .val (.int p2), .val (.int p3), .val (.ref a1), .val (.ref a35), .val (.int vm), .val (.int va), .val (.int vk), .val (.ref a84), .val (.ref a175), .unset, .unset, .unset, .unset, .unset, .unset, .unset] [(.int y1), (.int (1 : Int32)), (.ref a175)])) _
  refine g_bastore X188 hx hZ e188 fx196 1 (by decide) (by show 1 < 9; decide) y1 (by rw [hy1]; simp [nar]) (hb hby at_243) (fun T199 h199 X199 e199 W199 A199 => ?_)
  have fx200 : Exa Z h199 a1 "[I" := Exa.wr W199 fx189
  have fx201 : Ar Z h199 a1 .int [(.int (1 : Int32)), (.int (2 : Int32)), (.int (4 : Int32)), (.int (5 : Int32)), (.int (7 : Int32)), (.int (8 : Int32))] := Ar.other fx190 W199 ne176
  have fx202 : Exa Z h199 a35 "[I" := Exa.wr W199 fx191
  have fx203 : Ar Z h199 a35 .int [(.int (1 : Int32)), (.int (5 : Int32)), (.int (7 : Int32)), (.int (2 : Int32)), (.int (4 : Int32)), (.int (8 : Int32))] := Ar.other fx192 W199 ne177
  have fx204 : Exa Z h199 a84 "[I" := Exa.wr W199 fx193
  have fx205 : Ar Z h199 a84 .int [(.int n0), (.int n1), (.int n2), (.int n3), (.int n4), (.int n5), (.int n6), (.int n7), (.int n8)] := Ar.other fx194 W199 ne178
  have fx206 : Exa Z h199 a175 "[B" := Exa.wr W199 fx195
  have fx207 : Ar Z h199 a175 .byte [(.int y0), (.int y1), (.int (0 : Int32)), (.int (0 : Int32)), (.int (0 : Int32)), (.int (0 : Int32)), (.int (0 : Int32)), (.int (0 : Int32)), (.int (0 : Int32))] := A199
  have N208 := Fr.snoc X199 N197 ge179
  have Z209 : h0.size ≤ h199.size := by rw [W199.size]; exact Z198
  show Goes p.tables e below (T199.setTop (mkF m 244 #[.val (.int p0), .val (.int p1), .val (.int p2), .val (.int p3), .val (.ref a1), .val (.ref a35), .val (.int vm), .val (.int va), .val (.int vk), .val (.ref a84), .val (.ref a175), .unset, .unset, .unset, .unset, .unset, .unset, .unset] [])) _
  refine g_aload X199 hx (hb hby at_244) rfl rfl ?_
  show Goes p.tables e below (T199.setTop (mkF m 246 #[.val (.int p0), .val (.int p1), .val (.int p2), .val (.int p3), .val (.ref a1), .val (.ref a35), .val (.int vm), .val (.int va), .val (.int vk), .val (.ref a84), .val (.ref a175), .unset, .unset, .unset, .unset, .unset, .unset, .unset] [(.ref a175)])) _
  refine g_iconst X199 hx (2 : Int32) (hb hby at_246) rfl ?_
  show Goes p.tables e below (T199.setTop (mkF m 247 #[.val (.int p0), .val (.int p1), .val (.int p2), .val (.int p3), .val (.ref a1), .val (.ref a35), .val (.int vm), .val (.int va), .val (.int vk), .val (.ref a84), .val (.ref a175), .unset, .unset, .unset, .unset, .unset, .unset, .unset] [(.int (2 : Int32)), (.ref a175)])) _
  refine g_aload X199 hx (hb hby at_247) rfl rfl ?_
  show Goes p.tables e below (T199.setTop (mkF m 249 #[.val (.int p0), .val (.int p1), .val (.int p2), .val (.int p3), .val (.ref a1), .val (.ref a35), .val (.int vm), .val (.int va), .val (.int vk), .val (.ref a84), .val (.ref a175), .unset, .unset, .unset, .unset, .unset, .unset, .unset] [(.ref a84), (.int (2 : Int32)), (.ref a175)])) _
  refine g_iconst X199 hx (2 : Int32) (hb hby at_249) rfl ?_
  show Goes p.tables e below (T199.setTop (mkF m 250 #[.val (.int p0), .val (.int p1), .val (.int p2), .val (.int p3), .val (.ref a1), .val (.ref a35), .val (.int vm), .val (.int va), .val (.int vk), .val (.ref a84), .val (.ref a175), .unset, .unset, .unset, .unset, .unset, .unset, .unset] [(.int (2 : Int32)), (.ref a84), (.int (2 : Int32)), (.ref a175)])) _
  refine g_iaload X199 hx hZ e199 fx205 (i := 2) (v := (.int n2)) (by decide) rfl (hb hby at_250) ?_
  show Goes p.tables e below (T199.setTop (mkF m 251 #[.val (.int p0), .val (.int p1), .val (.int p2), .val (.int p3), .val (.ref a1), .val (.ref a35), .val (.int vm), .val (.int va), .val (.int vk), .val (.ref a84), .val (.ref a175), .unset, .unset, .unset, .unset, .unset, .unset, .unset] [(.int n2), (.int (2 : Int32)), (.ref a175)])) _
  refine g_i2b X199 hx (hb hby at_251) ?_
  show Goes p.tables e below (T199.setTop (mkF m 252 #[.val (.int p0), .val (.int p1), .val (.int p2), .val (.int p3), .val (.ref a1), .val (.ref a35), .val (.int vm), .val (.int va), .val (.int vk), .val (.ref a84), .val (.ref a175), .unset, .unset, .unset, .unset, .unset, .unset, .unset] [(.int (Int8.toInt32 (Int32.toInt8 n2))), (.int (2 : Int32)), (.ref a175)])) _
  obtain ⟨y2, hy2⟩ : ∃ z : Int32, z = (Int8.toInt32 (Int32.toInt8 n2)) := ⟨_, rfl⟩
  refine g_nameI hy2 ?_
  show Goes p.tables e below (T199.setTop (mkF m 252 #[.val (.int p0), .val (.int p1), .val (.int p2), .val (.int p3), .val (.ref a1), .val (.ref a35), .val (.int vm), .val (.int va), .val (.int vk), .val (.ref a84), .val (.ref a175), .unset, .unset, .unset, .unset, .unset, .unset, .unset] [(.int y2), (.int (2 : Int32)), (.ref a175)])) _
  show Goes p.tables e below (T199.setTop (mkF m 252 #[.val (.int p0), .val (.int p1), .val (.int p2), .val (.int p3), .val (.ref a1), .val (.ref a35), .val (.int vm), .val (.int va), .val (.int vk), .val (.ref a84), .val (.ref a175), .unset, .unset, .unset, .unset, .unset, .unset, .unset] [(.int y2), (.int (2 : Int32)), (.ref a175)])) _
  refine g_bastore X199 hx hZ e199 fx207 2 (by decide) (by show 2 < 9; decide) y2 (by rw [hy2]; simp [nar]) (hb hby at_252) (fun T210 h210 X210 e210 W210 A210 => ?_)
  have fx211 : Exa Z h210 a1 "[I" := Exa.wr W210 fx200
  have fx212 : Ar Z h210 a1 .int [(.int (1 : Int32)), (.int (2 : Int32)), (.int (4 : Int32)), (.int (5 : Int32)), (.int (7 : Int32)), (.int (8 : Int32))] := Ar.other fx201 W210 ne176
  have fx213 : Exa Z h210 a35 "[I" := Exa.wr W210 fx202
  have fx214 : Ar Z h210 a35 .int [(.int (1 : Int32)), (.int (5 : Int32)), (.int (7 : Int32)), (.int (2 : Int32)), (.int (4 : Int32)), (.int (8 : Int32))] := Ar.other fx203 W210 ne177
  have fx215 : Exa Z h210 a84 "[I" := Exa.wr W210 fx204
  have fx216 : Ar Z h210 a84 .int [(.int n0), (.int n1), (.int n2), (.int n3), (.int n4), (.int n5), (.int n6), (.int n7), (.int n8)] := Ar.other fx205 W210 ne178
  have fx217 : Exa Z h210 a175 "[B" := Exa.wr W210 fx206
  have fx218 : Ar Z h210 a175 .byte [(.int y0), (.int y1), (.int y2), (.int (0 : Int32)), (.int (0 : Int32)), (.int (0 : Int32)), (.int (0 : Int32)), (.int (0 : Int32)), (.int (0 : Int32))] := A210
  have N219 := Fr.snoc X210 N208 ge179
  have Z220 : h0.size ≤ h210.size := by rw [W210.size]; exact Z209
  show Goes p.tables e below (T210.setTop (mkF m 253 #[.val (.int p0), .val (.int p1), .val (.int p2), .val (.int p3), .val (.ref a1), .val (.ref a35), .val (.int vm), .val (.int va), .val (.int vk), .val (.ref a84), .val (.ref a175), .unset, .unset, .unset, .unset, .unset, .unset, .unset] [])) _
  refine g_aload X210 hx (hb hby at_253) rfl rfl ?_
  show Goes p.tables e below (T210.setTop (mkF m 255 #[.val (.int p0), .val (.int p1), .val (.int p2), .val (.int p3), .val (.ref a1), .val (.ref a35), .val (.int vm), .val (.int va), .val (.int vk), .val (.ref a84), .val (.ref a175), .unset, .unset, .unset, .unset, .unset, .unset, .unset] [(.ref a175)])) _
  refine g_iconst X210 hx (3 : Int32) (hb hby at_255) rfl ?_
  show Goes p.tables e below (T210.setTop (mkF m 256 #[.val (.int p0), .val (.int p1), .val (.int p2), .val (.int p3), .val (.ref a1), .val (.ref a35), .val (.int vm), .val (.int va), .val (.int vk), .val (.ref a84), .val (.ref a175), .unset, .unset, .unset, .unset, .unset, .unset, .unset] [(.int (3 : Int32)), (.ref a175)])) _
  refine g_aload X210 hx (hb hby at_256) rfl rfl ?_
  show Goes p.tables e below (T210.setTop (mkF m 258 #[.val (.int p0), .val (.int p1), .val (.int p2), .val (.int p3), .val (.ref a1), .val (.ref a35), .val (.int vm), .val (.int va), .val (.int vk), .val (.ref a84), .val (.ref a175), .unset, .unset, .unset, .unset, .unset, .unset, .unset] [(.ref a84), (.int (3 : Int32)), (.ref a175)])) _
  refine g_iconst X210 hx (3 : Int32) (hb hby at_258) rfl ?_
  show Goes p.tables e below (T210.setTop (mkF m 259 #[.val (.int p0), .val (.int p1), .val (.int p2), .val (.int p3), .val (.ref a1), .val (.ref a35), .val (.int vm), .val (.int va), .val (.int vk), .val (.ref a84), .val (.ref a175), .unset, .unset, .unset, .unset, .unset, .unset, .unset] [(.int (3 : Int32)), (.ref a84), (.int (3 : Int32)), (.ref a175)])) _
  refine g_iaload X210 hx hZ e210 fx216 (i := 3) (v := (.int n3)) (by decide) rfl (hb hby at_259) ?_
  show Goes p.tables e below (T210.setTop (mkF m 260 #[.val (.int p0), .val (.int p1), .val (.int p2), .val (.int p3), .val (.ref a1), .val (.ref a35), .val (.int vm), .val (.int va), .val (.int vk), .val (.ref a84), .val (.ref a175), .unset, .unset, .unset, .unset, .unset, .unset, .unset] [(.int n3), (.int (3 : Int32)), (.ref a175)])) _
  refine g_i2b X210 hx (hb hby at_260) ?_
  show Goes p.tables e below (T210.setTop (mkF m 261 #[.val (.int p0), .val (.int p1), .val (.int p2), .val (.int p3), .val (.ref a1), .val (.ref a35), .val (.int vm), .val (.int va), .val (.int vk), .val (.ref a84), .val (.ref a175), .unset, .unset, .unset, .unset, .unset, .unset, .unset] [(.int (Int8.toInt32 (Int32.toInt8 n3))), (.int (3 : Int32)), (.ref a175)])) _
  obtain ⟨y3, hy3⟩ : ∃ z : Int32, z = (Int8.toInt32 (Int32.toInt8 n3)) := ⟨_, rfl⟩
  refine g_nameI hy3 ?_
  show Goes p.tables e below (T210.setTop (mkF m 261 #[.val (.int p0), .val (.int p1), .val (.int p2), .val (.int p3), .val (.ref a1), .val (.ref a35), .val (.int vm), .val (.int va), .val (.int vk), .val (.ref a84), .val (.ref a175), .unset, .unset, .unset, .unset, .unset, .unset, .unset] [(.int y3), (.int (3 : Int32)), (.ref a175)])) _
  show Goes p.tables e below (T210.setTop (mkF m 261 #[.val (.int p0), .val (.int p1), .val (.int p2), .val (.int p3), .val (.ref a1), .val (.ref a35), .val (.int vm), .val (.int va), .val (.int vk), .val (.ref a84), .val (.ref a175), .unset, .unset, .unset, .unset, .unset, .unset, .unset] [(.int y3), (.int (3 : Int32)), (.ref a175)])) _
  refine g_bastore X210 hx hZ e210 fx218 3 (by decide) (by show 3 < 9; decide) y3 (by rw [hy3]; simp [nar]) (hb hby at_261) (fun T221 h221 X221 e221 W221 A221 => ?_)
  have fx222 : Exa Z h221 a1 "[I" := Exa.wr W221 fx211
  have fx223 : Ar Z h221 a1 .int [(.int (1 : Int32)), (.int (2 : Int32)), (.int (4 : Int32)), (.int (5 : Int32)), (.int (7 : Int32)), (.int (8 : Int32))] := Ar.other fx212 W221 ne176
  have fx224 : Exa Z h221 a35 "[I" := Exa.wr W221 fx213
  have fx225 : Ar Z h221 a35 .int [(.int (1 : Int32)), (.int (5 : Int32)), (.int (7 : Int32)), (.int (2 : Int32)), (.int (4 : Int32)), (.int (8 : Int32))] := Ar.other fx214 W221 ne177
  have fx226 : Exa Z h221 a84 "[I" := Exa.wr W221 fx215
  have fx227 : Ar Z h221 a84 .int [(.int n0), (.int n1), (.int n2), (.int n3), (.int n4), (.int n5), (.int n6), (.int n7), (.int n8)] := Ar.other fx216 W221 ne178
  have fx228 : Exa Z h221 a175 "[B" := Exa.wr W221 fx217
  have fx229 : Ar Z h221 a175 .byte [(.int y0), (.int y1), (.int y2), (.int y3), (.int (0 : Int32)), (.int (0 : Int32)), (.int (0 : Int32)), (.int (0 : Int32)), (.int (0 : Int32))] := A221
  have N230 := Fr.snoc X221 N219 ge179
  have Z231 : h0.size ≤ h221.size := by rw [W221.size]; exact Z220
  show Goes p.tables e below (T221.setTop (mkF m 262 #[.val (.int p0), .val (.int p1), .val (.int p2), .val (.int p3), .val (.ref a1), .val (.ref a35), .val (.int vm), .val (.int va), .val (.int vk), .val (.ref a84), .val (.ref a175), .unset, .unset, .unset, .unset, .unset, .unset, .unset] [])) _
  refine g_aload X221 hx (hb hby at_262) rfl rfl ?_
  show Goes p.tables e below (T221.setTop (mkF m 264 #[.val (.int p0), .val (.int p1), .val (.int p2), .val (.int p3), .val (.ref a1), .val (.ref a35), .val (.int vm), .val (.int va), .val (.int vk), .val (.ref a84), .val (.ref a175), .unset, .unset, .unset, .unset, .unset, .unset, .unset] [(.ref a175)])) _
  refine g_iconst X221 hx (4 : Int32) (hb hby at_264) rfl ?_
  show Goes p.tables e below (T221.setTop (mkF m 265 #[.val (.int p0), .val (.int p1), .val (.int p2), .val (.int p3), .val (.ref a1), .val (.ref a35), .val (.int vm), .val (.int va), .val (.int vk), .val (.ref a84), .val (.ref a175), .unset, .unset, .unset, .unset, .unset, .unset, .unset] [(.int (4 : Int32)), (.ref a175)])) _
  refine g_aload X221 hx (hb hby at_265) rfl rfl ?_
  show Goes p.tables e below (T221.setTop (mkF m 267 #[.val (.int p0), .val (.int p1), .val (.int p2), .val (.int p3), .val (.ref a1), .val (.ref a35), .val (.int vm), .val (.int va), .val (.int vk), .val (.ref a84), .val (.ref a175), .unset, .unset, .unset, .unset, .unset, .unset, .unset] [(.ref a84), (.int (4 : Int32)), (.ref a175)])) _
  refine g_iconst X221 hx (4 : Int32) (hb hby at_267) rfl ?_
  show Goes p.tables e below (T221.setTop (mkF m 268 #[.val (.int p0), .val (.int p1), .val (.int p2), .val (.int p3), .val (.ref a1), .val (.ref a35), .val (.int vm), .val (.int va), .val (.int vk), .val (.ref a84), .val (.ref a175), .unset, .unset, .unset, .unset, .unset, .unset, .unset] [(.int (4 : Int32)), (.ref a84), (.int (4 : Int32)), (.ref a175)])) _
  refine g_iaload X221 hx hZ e221 fx227 (i := 4) (v := (.int n4)) (by decide) rfl (hb hby at_268) ?_
  show Goes p.tables e below (T221.setTop (mkF m 269 #[.val (.int p0), .val (.int p1), .val (.int p2), .val (.int p3), .val (.ref a1), .val (.ref a35), .val (.int vm), .val (.int va), .val (.int vk), .val (.ref a84), .val (.ref a175), .unset, .unset, .unset, .unset, .unset, .unset, .unset] [(.int n4), (.int (4 : Int32)), (.ref a175)])) _
  refine g_i2b X221 hx (hb hby at_269) ?_
  show Goes p.tables e below (T221.setTop (mkF m 270 #[.val (.int p0), .val (.int p1), .val (.int p2), .val (.int p3), .val (.ref a1), .val (.ref a35), .val (.int vm), .val (.int va), .val (.int vk), .val (.ref a84), .val (.ref a175), .unset, .unset, .unset, .unset, .unset, .unset, .unset] [(.int (Int8.toInt32 (Int32.toInt8 n4))), (.int (4 : Int32)), (.ref a175)])) _
  obtain ⟨y4, hy4⟩ : ∃ z : Int32, z = (Int8.toInt32 (Int32.toInt8 n4)) := ⟨_, rfl⟩
  refine g_nameI hy4 ?_
  show Goes p.tables e below (T221.setTop (mkF m 270 #[.val (.int p0), .val (.int p1), .val (.int p2), .val (.int p3), .val (.ref a1), .val (.ref a35), .val (.int vm), .val (.int va), .val (.int vk), .val (.ref a84), .val (.ref a175), .unset, .unset, .unset, .unset, .unset, .unset, .unset] [(.int y4), (.int (4 : Int32)), (.ref a175)])) _
  show Goes p.tables e below (T221.setTop (mkF m 270 #[.val (.int p0), .val (.int p1), .val (.int p2), .val (.int p3), .val (.ref a1), .val (.ref a35), .val (.int vm), .val (.int va), .val (.int vk), .val (.ref a84), .val (.ref a175), .unset, .unset, .unset, .unset, .unset, .unset, .unset] [(.int y4), (.int (4 : Int32)), (.ref a175)])) _
  refine g_bastore X221 hx hZ e221 fx229 4 (by decide) (by show 4 < 9; decide) y4 (by rw [hy4]; simp [nar]) (hb hby at_270) (fun T232 h232 X232 e232 W232 A232 => ?_)
  have fx233 : Exa Z h232 a1 "[I" := Exa.wr W232 fx222
  have fx234 : Ar Z h232 a1 .int [(.int (1 : Int32)), (.int (2 : Int32)), (.int (4 : Int32)), (.int (5 : Int32)), (.int (7 : Int32)), (.int (8 : Int32))] := Ar.other fx223 W232 ne176
  have fx235 : Exa Z h232 a35 "[I" := Exa.wr W232 fx224
  have fx236 : Ar Z h232 a35 .int [(.int (1 : Int32)), (.int (5 : Int32)), (.int (7 : Int32)), (.int (2 : Int32)), (.int (4 : Int32)), (.int (8 : Int32))] := Ar.other fx225 W232 ne177
  have fx237 : Exa Z h232 a84 "[I" := Exa.wr W232 fx226
  have fx238 : Ar Z h232 a84 .int [(.int n0), (.int n1), (.int n2), (.int n3), (.int n4), (.int n5), (.int n6), (.int n7), (.int n8)] := Ar.other fx227 W232 ne178
  have fx239 : Exa Z h232 a175 "[B" := Exa.wr W232 fx228
  have fx240 : Ar Z h232 a175 .byte [(.int y0), (.int y1), (.int y2), (.int y3), (.int y4), (.int (0 : Int32)), (.int (0 : Int32)), (.int (0 : Int32)), (.int (0 : Int32))] := A232
  have N241 := Fr.snoc X232 N230 ge179
  have Z242 : h0.size ≤ h232.size := by rw [W232.size]; exact Z231
  show Goes p.tables e below (T232.setTop (mkF m 271 #[.val (.int p0), .val (.int p1), .val (.int p2), .val (.int p3), .val (.ref a1), .val (.ref a35), .val (.int vm), .val (.int va), .val (.int vk), .val (.ref a84), .val (.ref a175), .unset, .unset, .unset, .unset, .unset, .unset, .unset] [])) _
  refine g_aload X232 hx (hb hby at_271) rfl rfl ?_
  show Goes p.tables e below (T232.setTop (mkF m 273 #[.val (.int p0), .val (.int p1), .val (.int p2), .val (.int p3), .val (.ref a1), .val (.ref a35), .val (.int vm), .val (.int va), .val (.int vk), .val (.ref a84), .val (.ref a175), .unset, .unset, .unset, .unset, .unset, .unset, .unset] [(.ref a175)])) _
  refine g_iconst X232 hx (5 : Int32) (hb hby at_273) rfl ?_
  show Goes p.tables e below (T232.setTop (mkF m 274 #[.val (.int p0), .val (.int p1), .val (.int p2), .val (.int p3), .val (.ref a1), .val (.ref a35), .val (.int vm), .val (.int va), .val (.int vk), .val (.ref a84), .val (.ref a175), .unset, .unset, .unset, .unset, .unset, .unset, .unset] [(.int (5 : Int32)), (.ref a175)])) _
  refine g_aload X232 hx (hb hby at_274) rfl rfl ?_
  show Goes p.tables e below (T232.setTop (mkF m 276 #[.val (.int p0), .val (.int p1), .val (.int p2), .val (.int p3), .val (.ref a1), .val (.ref a35), .val (.int vm), .val (.int va), .val (.int vk), .val (.ref a84), .val (.ref a175), .unset, .unset, .unset, .unset, .unset, .unset, .unset] [(.ref a84), (.int (5 : Int32)), (.ref a175)])) _
  refine g_iconst X232 hx (5 : Int32) (hb hby at_276) rfl ?_
  show Goes p.tables e below (T232.setTop (mkF m 277 #[.val (.int p0), .val (.int p1), .val (.int p2), .val (.int p3), .val (.ref a1), .val (.ref a35), .val (.int vm), .val (.int va), .val (.int vk), .val (.ref a84), .val (.ref a175), .unset, .unset, .unset, .unset, .unset, .unset, .unset] [(.int (5 : Int32)), (.ref a84), (.int (5 : Int32)), (.ref a175)])) _
  refine g_iaload X232 hx hZ e232 fx238 (i := 5) (v := (.int n5)) (by decide) rfl (hb hby at_277) ?_
  show Goes p.tables e below (T232.setTop (mkF m 278 #[.val (.int p0), .val (.int p1), .val (.int p2), .val (.int p3), .val (.ref a1), .val (.ref a35), .val (.int vm), .val (.int va), .val (.int vk), .val (.ref a84), .val (.ref a175), .unset, .unset, .unset, .unset, .unset, .unset, .unset] [(.int n5), (.int (5 : Int32)), (.ref a175)])) _
  refine g_i2b X232 hx (hb hby at_278) ?_
  show Goes p.tables e below (T232.setTop (mkF m 279 #[.val (.int p0), .val (.int p1), .val (.int p2), .val (.int p3), .val (.ref a1), .val (.ref a35), .val (.int vm), .val (.int va), .val (.int vk), .val (.ref a84), .val (.ref a175), .unset, .unset, .unset, .unset, .unset, .unset, .unset] [(.int (Int8.toInt32 (Int32.toInt8 n5))), (.int (5 : Int32)), (.ref a175)])) _
  obtain ⟨y5, hy5⟩ : ∃ z : Int32, z = (Int8.toInt32 (Int32.toInt8 n5)) := ⟨_, rfl⟩
  refine g_nameI hy5 ?_
  show Goes p.tables e below (T232.setTop (mkF m 279 #[.val (.int p0), .val (.int p1), .val (.int p2), .val (.int p3), .val (.ref a1), .val (.ref a35), .val (.int vm), .val (.int va), .val (.int vk), .val (.ref a84), .val (.ref a175), .unset, .unset, .unset, .unset, .unset, .unset, .unset] [(.int y5), (.int (5 : Int32)), (.ref a175)])) _
  show Goes p.tables e below (T232.setTop (mkF m 279 #[.val (.int p0), .val (.int p1), .val (.int p2), .val (.int p3), .val (.ref a1), .val (.ref a35), .val (.int vm), .val (.int va), .val (.int vk), .val (.ref a84), .val (.ref a175), .unset, .unset, .unset, .unset, .unset, .unset, .unset] [(.int y5), (.int (5 : Int32)), (.ref a175)])) _
  refine g_bastore X232 hx hZ e232 fx240 5 (by decide) (by show 5 < 9; decide) y5 (by rw [hy5]; simp [nar]) (hb hby at_279) (fun T243 h243 X243 e243 W243 A243 => ?_)
  have fx244 : Exa Z h243 a1 "[I" := Exa.wr W243 fx233
  have fx245 : Ar Z h243 a1 .int [(.int (1 : Int32)), (.int (2 : Int32)), (.int (4 : Int32)), (.int (5 : Int32)), (.int (7 : Int32)), (.int (8 : Int32))] := Ar.other fx234 W243 ne176
  have fx246 : Exa Z h243 a35 "[I" := Exa.wr W243 fx235
  have fx247 : Ar Z h243 a35 .int [(.int (1 : Int32)), (.int (5 : Int32)), (.int (7 : Int32)), (.int (2 : Int32)), (.int (4 : Int32)), (.int (8 : Int32))] := Ar.other fx236 W243 ne177
  have fx248 : Exa Z h243 a84 "[I" := Exa.wr W243 fx237
  have fx249 : Ar Z h243 a84 .int [(.int n0), (.int n1), (.int n2), (.int n3), (.int n4), (.int n5), (.int n6), (.int n7), (.int n8)] := Ar.other fx238 W243 ne178
  have fx250 : Exa Z h243 a175 "[B" := Exa.wr W243 fx239
  have fx251 : Ar Z h243 a175 .byte [(.int y0), (.int y1), (.int y2), (.int y3), (.int y4), (.int y5), (.int (0 : Int32)), (.int (0 : Int32)), (.int (0 : Int32))] := A243
  have N252 := Fr.snoc X243 N241 ge179
  have Z253 : h0.size ≤ h243.size := by rw [W243.size]; exact Z242
  show Goes p.tables e below (T243.setTop (mkF m 280 #[.val (.int p0), .val (.int p1), .val (.int p2), .val (.int p3), .val (.ref a1), .val (.ref a35), .val (.int vm), .val (.int va), .val (.int vk), .val (.ref a84), .val (.ref a175), .unset, .unset, .unset, .unset, .unset, .unset, .unset] [])) _
  refine g_aload X243 hx (hb hby at_280) rfl rfl ?_
  show Goes p.tables e below (T243.setTop (mkF m 282 #[.val (.int p0), .val (.int p1), .val (.int p2), .val (.int p3), .val (.ref a1), .val (.ref a35), .val (.int vm), .val (.int va), .val (.int vk), .val (.ref a84), .val (.ref a175), .unset, .unset, .unset, .unset, .unset, .unset, .unset] [(.ref a175)])) _
  refine g_bipush X243 hx (6 : Int32) (hb hby at_282) (by decide) ?_
  show Goes p.tables e below (T243.setTop (mkF m 284 #[.val (.int p0), .val (.int p1), .val (.int p2), .val (.int p3), .val (.ref a1), .val (.ref a35), .val (.int vm), .val (.int va), .val (.int vk), .val (.ref a84), .val (.ref a175), .unset, .unset, .unset, .unset, .unset, .unset, .unset] [(.int (6 : Int32)), (.ref a175)])) _
  refine g_aload X243 hx (hb hby at_284) rfl rfl ?_
  show Goes p.tables e below (T243.setTop (mkF m 286 #[.val (.int p0), .val (.int p1), .val (.int p2), .val (.int p3), .val (.ref a1), .val (.ref a35), .val (.int vm), .val (.int va), .val (.int vk), .val (.ref a84), .val (.ref a175), .unset, .unset, .unset, .unset, .unset, .unset, .unset] [(.ref a84), (.int (6 : Int32)), (.ref a175)])) _
  refine g_bipush X243 hx (6 : Int32) (hb hby at_286) (by decide) ?_
  show Goes p.tables e below (T243.setTop (mkF m 288 #[.val (.int p0), .val (.int p1), .val (.int p2), .val (.int p3), .val (.ref a1), .val (.ref a35), .val (.int vm), .val (.int va), .val (.int vk), .val (.ref a84), .val (.ref a175), .unset, .unset, .unset, .unset, .unset, .unset, .unset] [(.int (6 : Int32)), (.ref a84), (.int (6 : Int32)), (.ref a175)])) _
  refine g_iaload X243 hx hZ e243 fx249 (i := 6) (v := (.int n6)) (by decide) rfl (hb hby at_288) ?_
  show Goes p.tables e below (T243.setTop (mkF m 289 #[.val (.int p0), .val (.int p1), .val (.int p2), .val (.int p3), .val (.ref a1), .val (.ref a35), .val (.int vm), .val (.int va), .val (.int vk), .val (.ref a84), .val (.ref a175), .unset, .unset, .unset, .unset, .unset, .unset, .unset] [(.int n6), (.int (6 : Int32)), (.ref a175)])) _
  refine g_i2b X243 hx (hb hby at_289) ?_
  show Goes p.tables e below (T243.setTop (mkF m 290 #[.val (.int p0), .val (.int p1), .val (.int p2), .val (.int p3), .val (.ref a1), .val (.ref a35), .val (.int vm), .val (.int va), .val (.int vk), .val (.ref a84), .val (.ref a175), .unset, .unset, .unset, .unset, .unset, .unset, .unset] [(.int (Int8.toInt32 (Int32.toInt8 n6))), (.int (6 : Int32)), (.ref a175)])) _
  obtain ⟨y6, hy6⟩ : ∃ z : Int32, z = (Int8.toInt32 (Int32.toInt8 n6)) := ⟨_, rfl⟩
  refine g_nameI hy6 ?_
  show Goes p.tables e below (T243.setTop (mkF m 290 #[.val (.int p0), .val (.int p1), .val (.int p2), .val (.int p3), .val (.ref a1), .val (.ref a35), .val (.int vm), .val (.int va), .val (.int vk), .val (.ref a84), .val (.ref a175), .unset, .unset, .unset, .unset, .unset, .unset, .unset] [(.int y6), (.int (6 : Int32)), (.ref a175)])) _
  show Goes p.tables e below (T243.setTop (mkF m 290 #[.val (.int p0), .val (.int p1), .val (.int p2), .val (.int p3), .val (.ref a1), .val (.ref a35), .val (.int vm), .val (.int va), .val (.int vk), .val (.ref a84), .val (.ref a175), .unset, .unset, .unset, .unset, .unset, .unset, .unset] [(.int y6), (.int (6 : Int32)), (.ref a175)])) _
  refine g_bastore X243 hx hZ e243 fx251 6 (by decide) (by show 6 < 9; decide) y6 (by rw [hy6]; simp [nar]) (hb hby at_290) (fun T254 h254 X254 e254 W254 A254 => ?_)
  have fx255 : Exa Z h254 a1 "[I" := Exa.wr W254 fx244
  have fx256 : Ar Z h254 a1 .int [(.int (1 : Int32)), (.int (2 : Int32)), (.int (4 : Int32)), (.int (5 : Int32)), (.int (7 : Int32)), (.int (8 : Int32))] := Ar.other fx245 W254 ne176
  have fx257 : Exa Z h254 a35 "[I" := Exa.wr W254 fx246
  have fx258 : Ar Z h254 a35 .int [(.int (1 : Int32)), (.int (5 : Int32)), (.int (7 : Int32)), (.int (2 : Int32)), (.int (4 : Int32)), (.int (8 : Int32))] := Ar.other fx247 W254 ne177
  have fx259 : Exa Z h254 a84 "[I" := Exa.wr W254 fx248
  have fx260 : Ar Z h254 a84 .int [(.int n0), (.int n1), (.int n2), (.int n3), (.int n4), (.int n5), (.int n6), (.int n7), (.int n8)] := Ar.other fx249 W254 ne178
  have fx261 : Exa Z h254 a175 "[B" := Exa.wr W254 fx250
  have fx262 : Ar Z h254 a175 .byte [(.int y0), (.int y1), (.int y2), (.int y3), (.int y4), (.int y5), (.int y6), (.int (0 : Int32)), (.int (0 : Int32))] := A254
  have N263 := Fr.snoc X254 N252 ge179
  have Z264 : h0.size ≤ h254.size := by rw [W254.size]; exact Z253
  show Goes p.tables e below (T254.setTop (mkF m 291 #[.val (.int p0), .val (.int p1), .val (.int p2), .val (.int p3), .val (.ref a1), .val (.ref a35), .val (.int vm), .val (.int va), .val (.int vk), .val (.ref a84), .val (.ref a175), .unset, .unset, .unset, .unset, .unset, .unset, .unset] [])) _
  refine g_aload X254 hx (hb hby at_291) rfl rfl ?_
  show Goes p.tables e below (T254.setTop (mkF m 293 #[.val (.int p0), .val (.int p1), .val (.int p2), .val (.int p3), .val (.ref a1), .val (.ref a35), .val (.int vm), .val (.int va), .val (.int vk), .val (.ref a84), .val (.ref a175), .unset, .unset, .unset, .unset, .unset, .unset, .unset] [(.ref a175)])) _
  refine g_bipush X254 hx (7 : Int32) (hb hby at_293) (by decide) ?_
  show Goes p.tables e below (T254.setTop (mkF m 295 #[.val (.int p0), .val (.int p1), .val (.int p2), .val (.int p3), .val (.ref a1), .val (.ref a35), .val (.int vm), .val (.int va), .val (.int vk), .val (.ref a84), .val (.ref a175), .unset, .unset, .unset, .unset, .unset, .unset, .unset] [(.int (7 : Int32)), (.ref a175)])) _
  refine g_aload X254 hx (hb hby at_295) rfl rfl ?_
  show Goes p.tables e below (T254.setTop (mkF m 297 #[.val (.int p0), .val (.int p1), .val (.int p2), .val (.int p3), .val (.ref a1), .val (.ref a35), .val (.int vm), .val (.int va), .val (.int vk), .val (.ref a84), .val (.ref a175), .unset, .unset, .unset, .unset, .unset, .unset, .unset] [(.ref a84), (.int (7 : Int32)), (.ref a175)])) _
  refine g_bipush X254 hx (7 : Int32) (hb hby at_297) (by decide) ?_
  show Goes p.tables e below (T254.setTop (mkF m 299 #[.val (.int p0), .val (.int p1), .val (.int p2), .val (.int p3), .val (.ref a1), .val (.ref a35), .val (.int vm), .val (.int va), .val (.int vk), .val (.ref a84), .val (.ref a175), .unset, .unset, .unset, .unset, .unset, .unset, .unset] [(.int (7 : Int32)), (.ref a84), (.int (7 : Int32)), (.ref a175)])) _
  refine g_iaload X254 hx hZ e254 fx260 (i := 7) (v := (.int n7)) (by decide) rfl (hb hby at_299) ?_
  show Goes p.tables e below (T254.setTop (mkF m 300 #[.val (.int p0), .val (.int p1), .val (.int p2), .val (.int p3), .val (.ref a1), .val (.ref a35), .val (.int vm), .val (.int va), .val (.int vk), .val (.ref a84), .val (.ref a175), .unset, .unset, .unset, .unset, .unset, .unset, .unset] [(.int n7), (.int (7 : Int32)), (.ref a175)])) _
  refine g_i2b X254 hx (hb hby at_300) ?_
  show Goes p.tables e below (T254.setTop (mkF m 301 #[.val (.int p0), .val (.int p1), .val (.int p2), .val (.int p3), .val (.ref a1), .val (.ref a35), .val (.int vm), .val (.int va), .val (.int vk), .val (.ref a84), .val (.ref a175), .unset, .unset, .unset, .unset, .unset, .unset, .unset] [(.int (Int8.toInt32 (Int32.toInt8 n7))), (.int (7 : Int32)), (.ref a175)])) _
  obtain ⟨y7, hy7⟩ : ∃ z : Int32, z = (Int8.toInt32 (Int32.toInt8 n7)) := ⟨_, rfl⟩
  refine g_nameI hy7 ?_
  show Goes p.tables e below (T254.setTop (mkF m 301 #[.val (.int p0), .val (.int p1), .val (.int p2), .val (.int p3), .val (.ref a1), .val (.ref a35), .val (.int vm), .val (.int va), .val (.int vk), .val (.ref a84), .val (.ref a175), .unset, .unset, .unset, .unset, .unset, .unset, .unset] [(.int y7), (.int (7 : Int32)), (.ref a175)])) _
  show Goes p.tables e below (T254.setTop (mkF m 301 #[.val (.int p0), .val (.int p1), .val (.int p2), .val (.int p3), .val (.ref a1), .val (.ref a35), .val (.int vm), .val (.int va), .val (.int vk), .val (.ref a84), .val (.ref a175), .unset, .unset, .unset, .unset, .unset, .unset, .unset] [(.int y7), (.int (7 : Int32)), (.ref a175)])) _
  refine g_bastore X254 hx hZ e254 fx262 7 (by decide) (by show 7 < 9; decide) y7 (by rw [hy7]; simp [nar]) (hb hby at_301) (fun T265 h265 X265 e265 W265 A265 => ?_)
  have fx266 : Exa Z h265 a1 "[I" := Exa.wr W265 fx255
  have fx267 : Ar Z h265 a1 .int [(.int (1 : Int32)), (.int (2 : Int32)), (.int (4 : Int32)), (.int (5 : Int32)), (.int (7 : Int32)), (.int (8 : Int32))] := Ar.other fx256 W265 ne176
  have fx268 : Exa Z h265 a35 "[I" := Exa.wr W265 fx257
  have fx269 : Ar Z h265 a35 .int [(.int (1 : Int32)), (.int (5 : Int32)), (.int (7 : Int32)), (.int (2 : Int32)), (.int (4 : Int32)), (.int (8 : Int32))] := Ar.other fx258 W265 ne177
  have fx270 : Exa Z h265 a84 "[I" := Exa.wr W265 fx259
  have fx271 : Ar Z h265 a84 .int [(.int n0), (.int n1), (.int n2), (.int n3), (.int n4), (.int n5), (.int n6), (.int n7), (.int n8)] := Ar.other fx260 W265 ne178
  have fx272 : Exa Z h265 a175 "[B" := Exa.wr W265 fx261
  have fx273 : Ar Z h265 a175 .byte [(.int y0), (.int y1), (.int y2), (.int y3), (.int y4), (.int y5), (.int y6), (.int y7), (.int (0 : Int32))] := A265
  have N274 := Fr.snoc X265 N263 ge179
  have Z275 : h0.size ≤ h265.size := by rw [W265.size]; exact Z264
  show Goes p.tables e below (T265.setTop (mkF m 302 #[.val (.int p0), .val (.int p1), .val (.int p2), .val (.int p3), .val (.ref a1), .val (.ref a35), .val (.int vm), .val (.int va), .val (.int vk), .val (.ref a84), .val (.ref a175), .unset, .unset, .unset, .unset, .unset, .unset, .unset] [])) _
  refine g_aload X265 hx (hb hby at_302) rfl rfl ?_
  show Goes p.tables e below (T265.setTop (mkF m 304 #[.val (.int p0), .val (.int p1), .val (.int p2), .val (.int p3), .val (.ref a1), .val (.ref a35), .val (.int vm), .val (.int va), .val (.int vk), .val (.ref a84), .val (.ref a175), .unset, .unset, .unset, .unset, .unset, .unset, .unset] [(.ref a175)])) _
  refine g_bipush X265 hx (8 : Int32) (hb hby at_304) (by decide) ?_
  show Goes p.tables e below (T265.setTop (mkF m 306 #[.val (.int p0), .val (.int p1), .val (.int p2), .val (.int p3), .val (.ref a1), .val (.ref a35), .val (.int vm), .val (.int va), .val (.int vk), .val (.ref a84), .val (.ref a175), .unset, .unset, .unset, .unset, .unset, .unset, .unset] [(.int (8 : Int32)), (.ref a175)])) _
  refine g_aload X265 hx (hb hby at_306) rfl rfl ?_
  show Goes p.tables e below (T265.setTop (mkF m 308 #[.val (.int p0), .val (.int p1), .val (.int p2), .val (.int p3), .val (.ref a1), .val (.ref a35), .val (.int vm), .val (.int va), .val (.int vk), .val (.ref a84), .val (.ref a175), .unset, .unset, .unset, .unset, .unset, .unset, .unset] [(.ref a84), (.int (8 : Int32)), (.ref a175)])) _
  refine g_bipush X265 hx (8 : Int32) (hb hby at_308) (by decide) ?_
  show Goes p.tables e below (T265.setTop (mkF m 310 #[.val (.int p0), .val (.int p1), .val (.int p2), .val (.int p3), .val (.ref a1), .val (.ref a35), .val (.int vm), .val (.int va), .val (.int vk), .val (.ref a84), .val (.ref a175), .unset, .unset, .unset, .unset, .unset, .unset, .unset] [(.int (8 : Int32)), (.ref a84), (.int (8 : Int32)), (.ref a175)])) _
  refine g_iaload X265 hx hZ e265 fx271 (i := 8) (v := (.int n8)) (by decide) rfl (hb hby at_310) ?_
  show Goes p.tables e below (T265.setTop (mkF m 311 #[.val (.int p0), .val (.int p1), .val (.int p2), .val (.int p3), .val (.ref a1), .val (.ref a35), .val (.int vm), .val (.int va), .val (.int vk), .val (.ref a84), .val (.ref a175), .unset, .unset, .unset, .unset, .unset, .unset, .unset] [(.int n8), (.int (8 : Int32)), (.ref a175)])) _
  refine g_i2b X265 hx (hb hby at_311) ?_
  show Goes p.tables e below (T265.setTop (mkF m 312 #[.val (.int p0), .val (.int p1), .val (.int p2), .val (.int p3), .val (.ref a1), .val (.ref a35), .val (.int vm), .val (.int va), .val (.int vk), .val (.ref a84), .val (.ref a175), .unset, .unset, .unset, .unset, .unset, .unset, .unset] [(.int (Int8.toInt32 (Int32.toInt8 n8))), (.int (8 : Int32)), (.ref a175)])) _
  obtain ⟨y8, hy8⟩ : ∃ z : Int32, z = (Int8.toInt32 (Int32.toInt8 n8)) := ⟨_, rfl⟩
  refine g_nameI hy8 ?_
  show Goes p.tables e below (T265.setTop (mkF m 312 #[.val (.int p0), .val (.int p1), .val (.int p2), .val (.int p3), .val (.ref a1), .val (.ref a35), .val (.int vm), .val (.int va), .val (.int vk), .val (.ref a84), .val (.ref a175), .unset, .unset, .unset, .unset, .unset, .unset, .unset] [(.int y8), (.int (8 : Int32)), (.ref a175)])) _
  show Goes p.tables e below (T265.setTop (mkF m 312 #[.val (.int p0), .val (.int p1), .val (.int p2), .val (.int p3), .val (.ref a1), .val (.ref a35), .val (.int vm), .val (.int va), .val (.int vk), .val (.ref a84), .val (.ref a175), .unset, .unset, .unset, .unset, .unset, .unset, .unset] [(.int y8), (.int (8 : Int32)), (.ref a175)])) _
  refine g_bastore X265 hx hZ e265 fx273 8 (by decide) (by show 8 < 9; decide) y8 (by rw [hy8]; simp [nar]) (hb hby at_312) (fun T276 h276 X276 e276 W276 A276 => ?_)
  have fx277 : Exa Z h276 a1 "[I" := Exa.wr W276 fx266
  have fx278 : Ar Z h276 a1 .int [(.int (1 : Int32)), (.int (2 : Int32)), (.int (4 : Int32)), (.int (5 : Int32)), (.int (7 : Int32)), (.int (8 : Int32))] := Ar.other fx267 W276 ne176
  have fx279 : Exa Z h276 a35 "[I" := Exa.wr W276 fx268
  have fx280 : Ar Z h276 a35 .int [(.int (1 : Int32)), (.int (5 : Int32)), (.int (7 : Int32)), (.int (2 : Int32)), (.int (4 : Int32)), (.int (8 : Int32))] := Ar.other fx269 W276 ne177
  have fx281 : Exa Z h276 a84 "[I" := Exa.wr W276 fx270
  have fx282 : Ar Z h276 a84 .int [(.int n0), (.int n1), (.int n2), (.int n3), (.int n4), (.int n5), (.int n6), (.int n7), (.int n8)] := Ar.other fx271 W276 ne178
  have fx283 : Exa Z h276 a175 "[B" := Exa.wr W276 fx272
  have fx284 : Ar Z h276 a175 .byte [(.int y0), (.int y1), (.int y2), (.int y3), (.int y4), (.int y5), (.int y6), (.int y7), (.int y8)] := A276
  have N285 := Fr.snoc X276 N274 ge179
  have Z286 : h0.size ≤ h276.size := by rw [W276.size]; exact Z275
  show Goes p.tables e below (T276.setTop (mkF m 313 #[.val (.int p0), .val (.int p1), .val (.int p2), .val (.int p3), .val (.ref a1), .val (.ref a35), .val (.int vm), .val (.int va), .val (.int vk), .val (.ref a84), .val (.ref a175), .unset, .unset, .unset, .unset, .unset, .unset, .unset] [])) _
  refine g_bipush X276 hx (9 : Int32) (hb hby at_313) (by decide) ?_
  show Goes p.tables e below (T276.setTop (mkF m 315 #[.val (.int p0), .val (.int p1), .val (.int p2), .val (.int p3), .val (.ref a1), .val (.ref a35), .val (.int vm), .val (.int va), .val (.int vk), .val (.ref a84), .val (.ref a175), .unset, .unset, .unset, .unset, .unset, .unset, .unset] [(.int (9 : Int32))])) _
  refine g_iload X276 hx (hb hby at_315) rfl ?_
  show Goes p.tables e below (T276.setTop (mkF m 317 #[.val (.int p0), .val (.int p1), .val (.int p2), .val (.int p3), .val (.ref a1), .val (.ref a35), .val (.int vm), .val (.int va), .val (.int vk), .val (.ref a84), .val (.ref a175), .unset, .unset, .unset, .unset, .unset, .unset, .unset] [(.int vk), (.int (9 : Int32))])) _
  refine g_isub X276 hx (hb hby at_317) ?_
  show Goes p.tables e below (T276.setTop (mkF m 318 #[.val (.int p0), .val (.int p1), .val (.int p2), .val (.int p3), .val (.ref a1), .val (.ref a35), .val (.int vm), .val (.int va), .val (.int vk), .val (.ref a84), .val (.ref a175), .unset, .unset, .unset, .unset, .unset, .unset, .unset] [(.int ((9 : Int32) - vk))])) _
  refine g_aload X276 hx (hb hby at_318) rfl rfl ?_
  show Goes p.tables e below (T276.setTop (mkF m 320 #[.val (.int p0), .val (.int p1), .val (.int p2), .val (.int p3), .val (.ref a1), .val (.ref a35), .val (.int vm), .val (.int va), .val (.int vk), .val (.ref a84), .val (.ref a175), .unset, .unset, .unset, .unset, .unset, .unset, .unset] [(.ref a35), (.int ((9 : Int32) - vk))])) _
  refine g_iload X276 hx (hb hby at_320) rfl ?_
  show Goes p.tables e below (T276.setTop (mkF m 322 #[.val (.int p0), .val (.int p1), .val (.int p2), .val (.int p3), .val (.ref a1), .val (.ref a35), .val (.int vm), .val (.int va), .val (.int vk), .val (.ref a84), .val (.ref a175), .unset, .unset, .unset, .unset, .unset, .unset, .unset] [(.int vm), (.ref a35), (.int ((9 : Int32) - vk))])) _
  refine g_iaload X276 hx hZ e276 fx280 (i := mi.val) (v := (.int (invF mi.val))) (by rw [emi]; exact own_of (by omega)) (own_sixi mi.isLt) (hb hby at_322) ?_
  show Goes p.tables e below (T276.setTop (mkF m 323 #[.val (.int p0), .val (.int p1), .val (.int p2), .val (.int p3), .val (.ref a1), .val (.ref a35), .val (.int vm), .val (.int va), .val (.int vk), .val (.ref a84), .val (.ref a175), .unset, .unset, .unset, .unset, .unset, .unset, .unset] [(.int (invF mi.val)), (.int ((9 : Int32) - vk))])) _
  refine g_imul X276 hx (hb hby at_323) ?_
  show Goes p.tables e below (T276.setTop (mkF m 324 #[.val (.int p0), .val (.int p1), .val (.int p2), .val (.int p3), .val (.ref a1), .val (.ref a35), .val (.int vm), .val (.int va), .val (.int vk), .val (.ref a84), .val (.ref a175), .unset, .unset, .unset, .unset, .unset, .unset, .unset] [(.int (((9 : Int32) - vk) * (invF mi.val)))])) _
  refine g_bipush X276 hx (9 : Int32) (hb hby at_324) (by decide) ?_
  show Goes p.tables e below (T276.setTop (mkF m 326 #[.val (.int p0), .val (.int p1), .val (.int p2), .val (.int p3), .val (.ref a1), .val (.ref a35), .val (.int vm), .val (.int va), .val (.int vk), .val (.ref a84), .val (.ref a175), .unset, .unset, .unset, .unset, .unset, .unset, .unset] [(.int (9 : Int32)), (.int (((9 : Int32) - vk) * (invF mi.val)))])) _
  refine g_irem X276 hx (hb hby at_326) (by decide) ?_
  show Goes p.tables e below (T276.setTop (mkF m 327 #[.val (.int p0), .val (.int p1), .val (.int p2), .val (.int p3), .val (.ref a1), .val (.ref a35), .val (.int vm), .val (.int va), .val (.int vk), .val (.ref a84), .val (.ref a175), .unset, .unset, .unset, .unset, .unset, .unset, .unset] [(.int ((((9 : Int32) - vk) * (invF mi.val)) % (9 : Int32)))])) _
  obtain ⟨vb, hvb⟩ : ∃ z : Int32, z = ((((9 : Int32) - vk) * (invF mi.val)) % (9 : Int32)) := ⟨_, rfl⟩
  refine g_nameI hvb ?_
  show Goes p.tables e below (T276.setTop (mkF m 327 #[.val (.int p0), .val (.int p1), .val (.int p2), .val (.int p3), .val (.ref a1), .val (.ref a35), .val (.int vm), .val (.int va), .val (.int vk), .val (.ref a84), .val (.ref a175), .unset, .unset, .unset, .unset, .unset, .unset, .unset] [(.int vb)])) _
  refine g_istore X276 hx (hb hby at_327) (l' := #[.val (.int p0), .val (.int p1), .val (.int p2), .val (.int p3), .val (.ref a1), .val (.ref a35), .val (.int vm), .val (.int va), .val (.int vk), .val (.ref a84), .val (.ref a175), .val (.int vb), .unset, .unset, .unset, .unset, .unset, .unset]) rfl ?_
  show Goes p.tables e below (T276.setTop (mkF m 329 #[.val (.int p0), .val (.int p1), .val (.int p2), .val (.int p3), .val (.ref a1), .val (.ref a35), .val (.int vm), .val (.int va), .val (.int vk), .val (.ref a84), .val (.ref a175), .val (.int vb), .unset, .unset, .unset, .unset, .unset, .unset] [])) _
  have hxs : ([n0, n1, n2, n3, n4, n5, n6, n7, n8] : List Int32) = own_x0 mi ki := by rw [hn0, hn1, hn2, hn3, hn4, hn5, hn6, hn7, hn8, hva, eki]; rfl
  have g0 := own_g0 mi ki
  simp only [Bool.and_eq_true, decide_eq_true_eq] at g0
  obtain ⟨⟨⟨gb, gy⟩, gx⟩, gz⟩ := g0
  have hys : ([y0, y1, y2, y3, y4, y5, y6, y7, y8] : List Int32) = own_x0 mi ki := by
    rw [← hxs] at gz ⊢
    simp only [List.all_cons, List.all_nil, Bool.and_true, Bool.and_eq_true, beq_iff_eq] at gz
    obtain ⟨z0, z1, z2, z3, z4, z5, z6, z7, z8⟩ := gz
    rw [hy0, hy1, hy2, hy3, hy4, hy5, hy6, hy7, hy8, z0, z1, z2, z3, z4, z5, z6, z7, z8]
  have hvb2 : vb = own_b mi ki := by rw [hvb, eki]; rfl
  have hbr := own_rgI gb
  rw [← hvb2] at hbr
  have f287 : Ar Z h276 a84 .int (List.map Value.int (own_x0 mi ki)) := by rw [← hxs]; exact fx282
  have f288 : Ar Z h276 a175 .byte (List.map Value.int (own_x0 mi ki)) := by rw [← hys]; exact fx284
  show Goes p.tables e below (T276.setTop (mkF m 329 #[.val (.int p0), .val (.int p1), .val (.int p2), .val (.int p3), .val (.ref a1), .val (.ref a35), .val (.int vm), .val (.int va), .val (.int vk), .val (.ref a84), .val (.ref a175), .val (.int vb), .unset, .unset, .unset, .unset, .unset, .unset] [])) _
  refine g_new X276 hx hZ hown e276 (hw _ (List.mem_of_getElem? (i := 3) rfl)) (hw _ (List.mem_of_getElem? (i := 4) rfl)) (hw _ (List.mem_of_getElem? (i := 5) rfl)) (hb hby at_329) (by decide) (by decide) (fun T289 h289 a289 ga289 X289 e289 Ex289 Ea289 Df289 => ?_)
  have ne290 : a84 ≠ a289 := Nat.ne_of_lt (by rw [ga289]; exact fx281.lt)
  have ne291 : a175 ≠ a289 := Nat.ne_of_lt (by rw [ga289]; exact fx283.lt)
  have ge292 : h0.size ≤ a289 := by rw [ga289]; exact Z286
  have fx293 : Exa Z h289 a84 "[I" := Exa.ext Ex289 fx281
  have fx294 : Ar Z h289 a84 .int (List.map Value.int (own_x0 mi ki)) := Ar.ext f287 Ex289
  have fx295 : Exa Z h289 a175 "[B" := Exa.ext Ex289 fx283
  have fx296 : Ar Z h289 a175 .byte (List.map Value.int (own_x0 mi ki)) := Ar.ext f288 Ex289
  have Z297 : h0.size ≤ h289.size := Nat.le_trans Z286 Ex289.1
  have fx298 : Fld Z h289 a289 "com/example/slidewise/slidewise/search/ManhattanTracker" "squares" "I" (.int (0 : Int32)) := Df289 (Or.inr (hw _ (List.mem_of_getElem? (i := 13) rfl))) (ty := .int) (by decide)
  have fx299 : Fld Z h289 a289 "com/example/slidewise/slidewise/search/ManhattanTracker" "distances" "[I" .null := Df289 (Or.inr (hw _ (List.mem_of_getElem? (i := 15) rfl))) (ty := (.array .int)) (by decide)
  have fx300 : Fld Z h289 a289 "com/example/slidewise/slidewise/search/ManhattanTracker" "value" "I" (.int (0 : Int32)) := Df289 (Or.inl (hw _ (List.mem_of_getElem? (i := 28) rfl))) (ty := .int) (by decide)
  show Goes p.tables e below (T289.setTop (mkF m 332 #[.val (.int p0), .val (.int p1), .val (.int p2), .val (.int p3), .val (.ref a1), .val (.ref a35), .val (.int vm), .val (.int va), .val (.int vk), .val (.ref a84), .val (.ref a175), .val (.int vb), .unset, .unset, .unset, .unset, .unset, .unset] [(.ref a289)])) _
  refine g_dup X289 hx (hb hby at_332) rfl ?_
  show Goes p.tables e below (T289.setTop (mkF m 333 #[.val (.int p0), .val (.int p1), .val (.int p2), .val (.int p3), .val (.ref a1), .val (.ref a35), .val (.int vm), .val (.int va), .val (.int vk), .val (.ref a84), .val (.ref a175), .val (.int vb), .unset, .unset, .unset, .unset, .unset, .unset] [(.ref a289), (.ref a289)])) _
  refine g_iconst X289 hx (3 : Int32) (hb hby at_333) rfl ?_
  show Goes p.tables e below (T289.setTop (mkF m 334 #[.val (.int p0), .val (.int p1), .val (.int p2), .val (.int p3), .val (.ref a1), .val (.ref a35), .val (.int vm), .val (.int va), .val (.int vk), .val (.ref a84), .val (.ref a175), .val (.int vb), .unset, .unset, .unset, .unset, .unset, .unset] [(.int (3 : Int32)), (.ref a289), (.ref a289)])) _
  refine g_aload X289 hx (hb hby at_334) rfl rfl ?_
  show Goes p.tables e below (T289.setTop (mkF m 336 #[.val (.int p0), .val (.int p1), .val (.int p2), .val (.int p3), .val (.ref a1), .val (.ref a35), .val (.int vm), .val (.int va), .val (.int vk), .val (.ref a84), .val (.ref a175), .val (.int vb), .unset, .unset, .unset, .unset, .unset, .unset] [(.ref a175), (.int (3 : Int32)), (.ref a289), (.ref a289)])) _
  have lta := fx296.lt
  have ltb := Ea289.lt
  have ltc := fx294.lt
  have hns : ∀ c, c < 9 → (List.map Value.int (own_x0 mi ki))[c]? = some (.int ((own_x0 mi ki).getD c 0)) ∧ 0 ≤ ((own_x0 mi ki).getD c 0).toInt ∧ ((own_x0 mi ki).getD c 0).toInt < (9 : Nat) := by
    intro c hc
    have hr := own_rgI (List.all_eq_true.mp gx ((own_x0 mi ki).getD c 0) (by rw [List.getD_eq_getElem?_getD, List.getElem?_eq_getElem (show c < (own_x0 mi ki).length from hc)]; exact List.getElem_mem _))
    exact ⟨own_at9 rfl hc, hr⟩
  refine g_callI X289 hx hZ hown (by rw [hml]; rfl) e289 rfl (hw _ (List.mem_of_getElem? (i := 6) rfl)) (hw _ (List.mem_of_getElem? (i := 7) rfl)) (hw _ (List.mem_of_getElem? (i := 5) rfl)) (hw _ (List.mem_of_getElem? (i := 8) rfl)) (rmIni l Z a0 hw a289 (3 : Int32) a175 h289 h0.size Z297 3 9 (by decide) rfl (by decide) (by decide) (List.map Value.int (own_x0 mi ki)) (fun c => (own_x0 mi ki).getD c 0) hns fx298 fx299 fx300 Ea289 fx296 ge292 ne291) a289 [(.int (3 : Int32)), (.ref a175)] rfl [(.ref a289)] rfl (lenOf pd_1 rfl) (hb hby at_336) (by decide) 1 (by decide) (by decide) (by first | decide | exact Nat.le_refl _) (by decide) (by decide) (fun v T301 L301 X301 hQ301 => ?_)
  obtain ⟨rfl, Nc301, Kc301, d301, ds301, gd301, hd301, fS301, fD301, fV301, Ad301, ti301⟩ := hQ301
  have fx302 : Exa Z T301.heap a84 "[I" := Exa.keep fx293 Kc301
  have fx303 : Ar Z T301.heap a84 .int (List.map Value.int (own_x0 mi ki)) := Ar.keep fx294 Kc301 (ninS ne290 nin0)
  have fx304 : Exa Z T301.heap a175 "[B" := Exa.keep fx295 Kc301
  have fx305 : Ar Z T301.heap a175 .byte (List.map Value.int (own_x0 mi ki)) := Ar.keep fx296 Kc301 (ninS ne291 nin0)
  have fx306 : Exa Z T301.heap a289 "com/example/slidewise/slidewise/search/ManhattanTracker" := Exa.keep Ea289 Kc301
  have N307 := Fr.app N285 Nc301
  have Z308 : h0.size ≤ T301.heap.size := Nat.le_trans Z297 Kc301.1
  have fW : Fld Z T301.heap a289 "com/example/slidewise/slidewise/search/ManhattanTracker" "value" "I" (.int (own_y0 mi ki)) := fV301
  have ne309 : d301 ≠ a289 := Nat.ne_of_gt (Nat.lt_of_lt_of_le ltb hd301)
  have ne310 : d301 ≠ a84 := Nat.ne_of_gt (Nat.lt_of_lt_of_le ltc hd301)
  show Goes p.tables e below (T301.setTop (mkF m 339 #[.val (.int p0), .val (.int p1), .val (.int p2), .val (.int p3), .val (.ref a1), .val (.ref a35), .val (.int vm), .val (.int va), .val (.int vk), .val (.ref a84), .val (.ref a175), .val (.int vb), .unset, .unset, .unset, .unset, .unset, .unset] [(.ref a289)])) _
  refine g_astore X301 hx (hb hby at_339) rfl (l' := #[.val (.int p0), .val (.int p1), .val (.int p2), .val (.int p3), .val (.ref a1), .val (.ref a35), .val (.int vm), .val (.int va), .val (.int vk), .val (.ref a84), .val (.ref a175), .val (.int vb), .val (.ref a289), .unset, .unset, .unset, .unset, .unset]) rfl ?_
  show Goes p.tables e below (T301.setTop (mkF m 341 #[.val (.int p0), .val (.int p1), .val (.int p2), .val (.int p3), .val (.ref a1), .val (.ref a35), .val (.int vm), .val (.int va), .val (.int vk), .val (.ref a84), .val (.ref a175), .val (.int vb), .val (.ref a289), .unset, .unset, .unset, .unset, .unset] [])) _
  refine g_aload X301 hx (hb hby at_341) rfl rfl ?_
  show Goes p.tables e below (T301.setTop (mkF m 343 #[.val (.int p0), .val (.int p1), .val (.int p2), .val (.int p3), .val (.ref a1), .val (.ref a35), .val (.int vm), .val (.int va), .val (.int vk), .val (.ref a84), .val (.ref a175), .val (.int vb), .val (.ref a289), .unset, .unset, .unset, .unset, .unset] [(.ref a289)])) _
  refine g_callV X301 hx hZ hown (by rw [hml]; rfl) rfl (K := "com/example/slidewise/slidewise/search/ManhattanTracker") (hw _ (List.mem_of_getElem? (i := 29) rfl)) (hw _ (List.mem_of_getElem? (i := 30) rfl)) (hw _ (List.mem_of_getElem? (i := 32) rfl)) (hw _ (List.mem_of_getElem? (i := 31) rfl)) (hw _ (List.mem_of_getElem? (i := 5) rfl)) (hw _ (List.mem_of_getElem? (i := 33) rfl)) fx306 (rmVal l Z a0 hw a289 T301.heap h0.size Z308 (own_y0 mi ki) fW) [] rfl [] rfl (lenOf pd_6 rfl) (hb hby at_343) (by decide) 0 (by decide) (by decide) (by first | decide | exact Nat.le_refl _) (by decide) (by decide) (fun v T311 L311 X311 hQ311 => ?_)
  obtain ⟨rfl, e311, rfl⟩ := hQ311
  have N312 := Fr.app N307 (Fr.nil h0.size)
  show Goes p.tables e below (T311.setTop (mkF m 346 #[.val (.int p0), .val (.int p1), .val (.int p2), .val (.int p3), .val (.ref a1), .val (.ref a35), .val (.int vm), .val (.int va), .val (.int vk), .val (.ref a84), .val (.ref a175), .val (.int vb), .val (.ref a289), .unset, .unset, .unset, .unset, .unset] [(.int (own_y0 mi ki))])) _
  refine g_aload X311 hx (hb hby at_346) rfl rfl ?_
  show Goes p.tables e below (T311.setTop (mkF m 348 #[.val (.int p0), .val (.int p1), .val (.int p2), .val (.int p3), .val (.ref a1), .val (.ref a35), .val (.int vm), .val (.int va), .val (.int vk), .val (.ref a84), .val (.ref a175), .val (.int vb), .val (.ref a289), .unset, .unset, .unset, .unset, .unset] [(.ref a84), (.int (own_y0 mi ki))])) _
  refine g_callS X311 hx hZ hown (by rw [hml]; rfl) e311 (hw _ (List.mem_of_getElem? (i := 34) rfl)) (hw _ (List.mem_of_getElem? (i := 35) rfl)) (hw _ (List.mem_of_getElem? (i := 36) rfl)) (hw _ (List.mem_of_getElem? (i := 37) rfl)) (rmMd l Z a0 hw a84 T301.heap (own_x0 mi ki) rfl fx303) [(.ref a84)] rfl [(.int (own_y0 mi ki))] rfl (lenOf pd_7 rfl) (hb hby at_348) (by decide) 1 (by decide) (by decide) (by first | decide | exact Nat.le_refl _) (by decide) (by decide) (fun v T313 L313 X313 hQ313 => ?_)
  obtain ⟨rfl, e313, rfl⟩ := hQ313
  have N314 := Fr.app N312 (Fr.nil h0.size)
  show Goes p.tables e below (T313.setTop (mkF m 351 #[.val (.int p0), .val (.int p1), .val (.int p2), .val (.int p3), .val (.ref a1), .val (.ref a35), .val (.int vm), .val (.int va), .val (.int vk), .val (.ref a84), .val (.ref a175), .val (.int vb), .val (.ref a289), .unset, .unset, .unset, .unset, .unset] [(.int (mdV (own_x0 mi ki))), (.int (own_y0 mi ki))])) _
  have c351 : (own_y0 mi ki) = (mdV (own_x0 mi ki)) := gy
  refine g_icmp_ne X313 hx (hb hby at_351) (by decide) (pc' := 358) (by decide) (fun q => absurd c351 q) (fun _ => ?_)
  show Goes p.tables e below (T313.setTop (mkF m 354 #[.val (.int p0), .val (.int p1), .val (.int p2), .val (.int p3), .val (.ref a1), .val (.ref a35), .val (.int vm), .val (.int va), .val (.int vk), .val (.ref a84), .val (.ref a175), .val (.int vb), .val (.ref a289), .unset, .unset, .unset, .unset, .unset] [])) _
  refine g_iconst X313 hx (1 : Int32) (hb hby at_354) rfl ?_
  show Goes p.tables e below (T313.setTop (mkF m 355 #[.val (.int p0), .val (.int p1), .val (.int p2), .val (.int p3), .val (.ref a1), .val (.ref a35), .val (.int vm), .val (.int va), .val (.int vk), .val (.ref a84), .val (.ref a175), .val (.int vb), .val (.ref a289), .unset, .unset, .unset, .unset, .unset] [(.int (1 : Int32))])) _
  refine g_goto X313 hx (hb hby at_355) (by decide) (pc' := 359) (by decide) ?_
  show Goes p.tables e below (T313.setTop (mkF m 359 #[.val (.int p0), .val (.int p1), .val (.int p2), .val (.int p3), .val (.ref a1), .val (.ref a35), .val (.int vm), .val (.int va), .val (.int vk), .val (.ref a84), .val (.ref a175), .val (.int vb), .val (.ref a289), .unset, .unset, .unset, .unset, .unset] [(.int (1 : Int32))])) _
  refine g_istore X313 hx (hb hby at_359) (l' := #[.val (.int p0), .val (.int p1), .val (.int p2), .val (.int p3), .val (.ref a1), .val (.ref a35), .val (.int vm), .val (.int va), .val (.int vk), .val (.ref a84), .val (.ref a175), .val (.int vb), .val (.ref a289), .val (.int (1 : Int32)), .unset, .unset, .unset, .unset]) rfl ?_
  show Goes p.tables e below (T313.setTop (mkF m 361 #[.val (.int p0), .val (.int p1), .val (.int p2), .val (.int p3), .val (.ref a1), .val (.ref a35), .val (.int vm), .val (.int va), .val (.int vk), .val (.ref a84), .val (.ref a175), .val (.int vb), .val (.ref a289), .val (.int (1 : Int32)), .unset, .unset, .unset, .unset] [])) _
  obtain ⟨q1, eq1⟩ := own_and3 p2
  obtain ⟨q2, eq2⟩ := own_and3 p3
  show Goes p.tables e below (T313.setTop (mkF m 361 #[.val (.int p0), .val (.int p1), .val (.int p2), .val (.int p3), .val (.ref a1), .val (.ref a35), .val (.int vm), .val (.int va), .val (.int vk), .val (.ref a84), .val (.ref a175), .val (.int vb), .val (.ref a289), .val (.int (1 : Int32)), .unset, .unset, .unset, .unset] [])) _
  refine g_iload X313 hx (hb hby at_361) rfl ?_
  show Goes p.tables e below (T313.setTop (mkF m 363 #[.val (.int p0), .val (.int p1), .val (.int p2), .val (.int p3), .val (.ref a1), .val (.ref a35), .val (.int vm), .val (.int va), .val (.int vk), .val (.ref a84), .val (.ref a175), .val (.int vb), .val (.ref a289), .val (.int (1 : Int32)), .unset, .unset, .unset, .unset] [(.int vb)])) _
  refine g_iloadN X313 hx (hb hby at_363) rfl ?_
  show Goes p.tables e below (T313.setTop (mkF m 364 #[.val (.int p0), .val (.int p1), .val (.int p2), .val (.int p3), .val (.ref a1), .val (.ref a35), .val (.int vm), .val (.int va), .val (.int vk), .val (.ref a84), .val (.ref a175), .val (.int vb), .val (.ref a289), .val (.int (1 : Int32)), .unset, .unset, .unset, .unset] [(.int p2), (.int vb)])) _
  refine g_iconst X313 hx (3 : Int32) (hb hby at_364) rfl ?_
  show Goes p.tables e below (T313.setTop (mkF m 365 #[.val (.int p0), .val (.int p1), .val (.int p2), .val (.int p3), .val (.ref a1), .val (.ref a35), .val (.int vm), .val (.int va), .val (.int vk), .val (.ref a84), .val (.ref a175), .val (.int vb), .val (.ref a289), .val (.int (1 : Int32)), .unset, .unset, .unset, .unset] [(.int (3 : Int32)), (.int p2), (.int vb)])) _
  refine g_iand X313 hx (hb hby at_365) ?_
  show Goes p.tables e below (T313.setTop (mkF m 366 #[.val (.int p0), .val (.int p1), .val (.int p2), .val (.int p3), .val (.ref a1), .val (.ref a35), .val (.int vm), .val (.int va), .val (.int vk), .val (.ref a84), .val (.ref a175), .val (.int vb), .val (.ref a289), .val (.int (1 : Int32)), .unset, .unset, .unset, .unset] [(.int (p2 &&& (3 : Int32))), (.int vb)])) _
  refine g_callS X313 hx hZ hown (by rw [hml]; rfl) e313 (hw _ (List.mem_of_getElem? (i := 42) rfl)) (hw _ (List.mem_of_getElem? (i := 43) rfl)) (hw _ (List.mem_of_getElem? (i := 36) rfl)) (hw _ (List.mem_of_getElem? (i := 44) rfl)) (rmNb l Z a0 hw vb (p2 &&& (3 : Int32)) T301.heap) [(.int vb), (.int (p2 &&& (3 : Int32)))] rfl [] rfl (lenOf pd_9 rfl) (hb hby at_366) (by decide) 0 (by decide) (by decide) (by first | decide | exact Nat.le_refl _) (by decide) (by decide) (fun v T315 L315 X315 hQ315 => ?_)
  obtain ⟨rfl, e315, rfl⟩ := hQ315
  have N316 := Fr.app N314 (Fr.nil h0.size)
  show Goes p.tables e below (T315.setTop (mkF m 369 #[.val (.int p0), .val (.int p1), .val (.int p2), .val (.int p3), .val (.ref a1), .val (.ref a35), .val (.int vm), .val (.int va), .val (.int vk), .val (.ref a84), .val (.ref a175), .val (.int vb), .val (.ref a289), .val (.int (1 : Int32)), .unset, .unset, .unset, .unset] [(.int (nbV vb (p2 &&& (3 : Int32))))])) _
  obtain ⟨vf, hvf⟩ : ∃ z : Int32, z = (nbV vb (p2 &&& (3 : Int32))) := ⟨_, rfl⟩
  refine g_nameI hvf ?_
  show Goes p.tables e below (T315.setTop (mkF m 369 #[.val (.int p0), .val (.int p1), .val (.int p2), .val (.int p3), .val (.ref a1), .val (.ref a35), .val (.int vm), .val (.int va), .val (.int vk), .val (.ref a84), .val (.ref a175), .val (.int vb), .val (.ref a289), .val (.int (1 : Int32)), .unset, .unset, .unset, .unset] [(.int vf)])) _
  refine g_istore X315 hx (hb hby at_369) (l' := #[.val (.int p0), .val (.int p1), .val (.int p2), .val (.int p3), .val (.ref a1), .val (.ref a35), .val (.int vm), .val (.int va), .val (.int vk), .val (.ref a84), .val (.ref a175), .val (.int vb), .val (.ref a289), .val (.int (1 : Int32)), .val (.int vf), .unset, .unset, .unset]) rfl ?_
  show Goes p.tables e below (T315.setTop (mkF m 371 #[.val (.int p0), .val (.int p1), .val (.int p2), .val (.int p3), .val (.ref a1), .val (.ref a35), .val (.int vm), .val (.int va), .val (.int vk), .val (.ref a84), .val (.ref a175), .val (.int vb), .val (.ref a289), .val (.int (1 : Int32)), .val (.int vf), .unset, .unset, .unset] [])) _
  have hf : vf = own_f1 mi ki q1 := by rw [hvf, hvb2, eq1]; rfl
  have g1 := own_g1 mi ki q1
  simp only [Bool.and_eq_true, decide_eq_true_eq] at g1
  obtain ⟨⟨gf, gt⟩, gy1⟩ := g1
  have hfr := own_rgI gf
  rw [← hf] at hfr
  show Goes p.tables e below (T315.setTop (mkF m 371 #[.val (.int p0), .val (.int p1), .val (.int p2), .val (.int p3), .val (.ref a1), .val (.ref a35), .val (.int vm), .val (.int va), .val (.int vk), .val (.ref a84), .val (.ref a175), .val (.int vb), .val (.ref a289), .val (.int (1 : Int32)), .val (.int vf), .unset, .unset, .unset] [])) _
  refine g_aload X315 hx (hb hby at_371) rfl rfl ?_
  show Goes p.tables e below (T315.setTop (mkF m 373 #[.val (.int p0), .val (.int p1), .val (.int p2), .val (.int p3), .val (.ref a1), .val (.ref a35), .val (.int vm), .val (.int va), .val (.int vk), .val (.ref a84), .val (.ref a175), .val (.int vb), .val (.ref a289), .val (.int (1 : Int32)), .val (.int vf), .unset, .unset, .unset] [(.ref a84)])) _
  refine g_iload X315 hx (hb hby at_373) rfl ?_
  show Goes p.tables e below (T315.setTop (mkF m 375 #[.val (.int p0), .val (.int p1), .val (.int p2), .val (.int p3), .val (.ref a1), .val (.ref a35), .val (.int vm), .val (.int va), .val (.int vk), .val (.ref a84), .val (.ref a175), .val (.int vb), .val (.ref a289), .val (.int (1 : Int32)), .val (.int vf), .unset, .unset, .unset] [(.int vf), (.ref a84)])) _
  refine g_iaload X315 hx hZ e315 fx303 (i := vf.toInt.toNat) (v := (.int ((own_x0 mi ki).getD vf.toInt.toNat 0))) (by omega) (own_at9 rfl (by omega)) (hb hby at_375) ?_
  show Goes p.tables e below (T315.setTop (mkF m 376 #[.val (.int p0), .val (.int p1), .val (.int p2), .val (.int p3), .val (.ref a1), .val (.ref a35), .val (.int vm), .val (.int va), .val (.int vk), .val (.ref a84), .val (.ref a175), .val (.int vb), .val (.ref a289), .val (.int (1 : Int32)), .val (.int vf), .unset, .unset, .unset] [(.int ((own_x0 mi ki).getD vf.toInt.toNat 0))])) _
  obtain ⟨vt, hvt⟩ : ∃ z : Int32, z = ((own_x0 mi ki).getD vf.toInt.toNat 0) := ⟨_, rfl⟩
  refine g_nameI hvt ?_
  show Goes p.tables e below (T315.setTop (mkF m 376 #[.val (.int p0), .val (.int p1), .val (.int p2), .val (.int p3), .val (.ref a1), .val (.ref a35), .val (.int vm), .val (.int va), .val (.int vk), .val (.ref a84), .val (.ref a175), .val (.int vb), .val (.ref a289), .val (.int (1 : Int32)), .val (.int vf), .unset, .unset, .unset] [(.int vt)])) _
  refine g_istore X315 hx (hb hby at_376) (l' := #[.val (.int p0), .val (.int p1), .val (.int p2), .val (.int p3), .val (.ref a1), .val (.ref a35), .val (.int vm), .val (.int va), .val (.int vk), .val (.ref a84), .val (.ref a175), .val (.int vb), .val (.ref a289), .val (.int (1 : Int32)), .val (.int vf), .val (.int vt), .unset, .unset]) rfl ?_
  show Goes p.tables e below (T315.setTop (mkF m 378 #[.val (.int p0), .val (.int p1), .val (.int p2), .val (.int p3), .val (.ref a1), .val (.ref a35), .val (.int vm), .val (.int va), .val (.int vk), .val (.ref a84), .val (.ref a175), .val (.int vb), .val (.ref a289), .val (.int (1 : Int32)), .val (.int vf), .val (.int vt), .unset, .unset] [])) _
  have ht : vt = own_t1 mi ki q1 := by rw [hvt, hf]; rfl
  have htr := own_rgI gt
  rw [← ht] at htr
  show Goes p.tables e below (T315.setTop (mkF m 378 #[.val (.int p0), .val (.int p1), .val (.int p2), .val (.int p3), .val (.ref a1), .val (.ref a35), .val (.int vm), .val (.int va), .val (.int vk), .val (.ref a84), .val (.ref a175), .val (.int vb), .val (.ref a289), .val (.int (1 : Int32)), .val (.int vf), .val (.int vt), .unset, .unset] [])) _
  refine g_aload X315 hx (hb hby at_378) rfl rfl ?_
  show Goes p.tables e below (T315.setTop (mkF m 380 #[.val (.int p0), .val (.int p1), .val (.int p2), .val (.int p3), .val (.ref a1), .val (.ref a35), .val (.int vm), .val (.int va), .val (.int vk), .val (.ref a84), .val (.ref a175), .val (.int vb), .val (.ref a289), .val (.int (1 : Int32)), .val (.int vf), .val (.int vt), .unset, .unset] [(.ref a289)])) _
  refine g_iload X315 hx (hb hby at_380) rfl ?_
  show Goes p.tables e below (T315.setTop (mkF m 382 #[.val (.int p0), .val (.int p1), .val (.int p2), .val (.int p3), .val (.ref a1), .val (.ref a35), .val (.int vm), .val (.int va), .val (.int vk), .val (.ref a84), .val (.ref a175), .val (.int vb), .val (.ref a289), .val (.int (1 : Int32)), .val (.int vf), .val (.int vt), .unset, .unset] [(.int vt), (.ref a289)])) _
  refine g_iload X315 hx (hb hby at_382) rfl ?_
  show Goes p.tables e below (T315.setTop (mkF m 384 #[.val (.int p0), .val (.int p1), .val (.int p2), .val (.int p3), .val (.ref a1), .val (.ref a35), .val (.int vm), .val (.int va), .val (.int vk), .val (.ref a84), .val (.ref a175), .val (.int vb), .val (.ref a289), .val (.int (1 : Int32)), .val (.int vf), .val (.int vt), .unset, .unset] [(.int vf), (.int vt), (.ref a289)])) _
  refine g_iload X315 hx (hb hby at_384) rfl ?_
  show Goes p.tables e below (T315.setTop (mkF m 386 #[.val (.int p0), .val (.int p1), .val (.int p2), .val (.int p3), .val (.ref a1), .val (.ref a35), .val (.int vm), .val (.int va), .val (.int vk), .val (.ref a84), .val (.ref a175), .val (.int vb), .val (.ref a289), .val (.int (1 : Int32)), .val (.int vf), .val (.int vt), .unset, .unset] [(.int vb), (.int vf), (.int vt), (.ref a289)])) _
  refine g_callV X315 hx hZ hown (by rw [hml]; rfl) e315 (K := "com/example/slidewise/slidewise/search/ManhattanTracker") (hw _ (List.mem_of_getElem? (i := 45) rfl)) (hw _ (List.mem_of_getElem? (i := 46) rfl)) (hw _ (List.mem_of_getElem? (i := 48) rfl)) (hw _ (List.mem_of_getElem? (i := 47) rfl)) (hw _ (List.mem_of_getElem? (i := 5) rfl)) (hw _ (List.mem_of_getElem? (i := 49) rfl)) fx306 (rmSl l Z a0 hw a289 vt vf vb T301.heap h0.size Z308 d301 ds301 3 ((3 : Int32) * (3 : Int32)) (own_y0 mi ki) 9 (by decide) (by decide) ti301 htr hfr hbr fS301 fD301 fW fx306 Ad301 ge292 ne309) [(.int vt), (.int vf), (.int vb)] rfl [] rfl (lenOf pd_10 rfl) (hb hby at_386) (by decide) 0 (by decide) (by decide) (by first | decide | exact Nat.le_refl _) (by decide) (by decide) (fun v T317 L317 X317 hQ317 => ?_)
  obtain ⟨rfl, Nc317, Kc317, fS317, fD317, fV317, Ad317⟩ := hQ317
  have fx318 : Exa Z T317.heap a84 "[I" := Exa.keep fx302 Kc317
  have fx319 : Ar Z T317.heap a84 .int (List.map Value.int (own_x0 mi ki)) := Ar.keep fx303 Kc317 (ninS ne290 nin0)
  have fx320 : Exa Z T317.heap a289 "com/example/slidewise/slidewise/search/ManhattanTracker" := Exa.keep fx306 Kc317
  have fx321 : Ar Z T317.heap d301 .int ds301 := Ar.keep Ad301 Kc317 (ninS ne309 nin0)
  have N322 := Fr.app N316 Nc317
  have Z323 : h0.size ≤ T317.heap.size := Nat.le_trans Z308 Kc317.1
  have fW317 : Fld Z T317.heap a289 "com/example/slidewise/slidewise/search/ManhattanTracker" "value" "I" (.int (own_y1 mi ki q1)) := by rw [ht, hf, hvb2] at fV317; exact fV317
  show Goes p.tables e below (T317.setTop (mkF m 389 #[.val (.int p0), .val (.int p1), .val (.int p2), .val (.int p3), .val (.ref a1), .val (.ref a35), .val (.int vm), .val (.int va), .val (.int vk), .val (.ref a84), .val (.ref a175), .val (.int vb), .val (.ref a289), .val (.int (1 : Int32)), .val (.int vf), .val (.int vt), .unset, .unset] [])) _
  refine g_aload X317 hx (hb hby at_389) rfl rfl ?_
  show Goes p.tables e below (T317.setTop (mkF m 391 #[.val (.int p0), .val (.int p1), .val (.int p2), .val (.int p3), .val (.ref a1), .val (.ref a35), .val (.int vm), .val (.int va), .val (.int vk), .val (.ref a84), .val (.ref a175), .val (.int vb), .val (.ref a289), .val (.int (1 : Int32)), .val (.int vf), .val (.int vt), .unset, .unset] [(.ref a84)])) _
  refine g_iload X317 hx (hb hby at_391) rfl ?_
  show Goes p.tables e below (T317.setTop (mkF m 393 #[.val (.int p0), .val (.int p1), .val (.int p2), .val (.int p3), .val (.ref a1), .val (.ref a35), .val (.int vm), .val (.int va), .val (.int vk), .val (.ref a84), .val (.ref a175), .val (.int vb), .val (.ref a289), .val (.int (1 : Int32)), .val (.int vf), .val (.int vt), .unset, .unset] [(.int vb), (.ref a84)])) _
  refine g_iload X317 hx (hb hby at_393) rfl ?_
  show Goes p.tables e below (T317.setTop (mkF m 395 #[.val (.int p0), .val (.int p1), .val (.int p2), .val (.int p3), .val (.ref a1), .val (.ref a35), .val (.int vm), .val (.int va), .val (.int vk), .val (.ref a84), .val (.ref a175), .val (.int vb), .val (.ref a289), .val (.int (1 : Int32)), .val (.int vf), .val (.int vt), .unset, .unset] [(.int vt), (.int vb), (.ref a84)])) _
  refine g_iastore X317 hx hZ rfl fx319 vb.toInt.toNat (by omega) (by rw [List.length_map]; show _ < 9; omega) (hb hby at_395) (fun T324 h324 X324 e324 W324 A324 => ?_)
  have fx325 : Exa Z h324 a84 "[I" := Exa.wr W324 fx318
  have fx326 : Exa Z h324 a289 "com/example/slidewise/slidewise/search/ManhattanTracker" := Exa.wr W324 fx320
  have fx327 : Ar Z h324 d301 .int ds301 := Ar.other Ad317 W324 ne310
  have fx328 : Fld Z h324 a289 "com/example/slidewise/slidewise/search/ManhattanTracker" "squares" "I" (.int ((3 : Int32) * (3 : Int32))) := Fld.other W324 fS317 (Or.inl (Ne.symm ne290))
  have fx329 : Fld Z h324 a289 "com/example/slidewise/slidewise/search/ManhattanTracker" "distances" "[I" (.ref d301) := Fld.other W324 fD317 (Or.inl (Ne.symm ne290))
  have fx330 : Fld Z h324 a289 "com/example/slidewise/slidewise/search/ManhattanTracker" "value" "I" (.int (own_y1 mi ki q1)) := Fld.other W324 fW317 (Or.inl (Ne.symm ne290))
  have fx331 : Ar Z h324 a84 .int (List.set (List.map Value.int (own_x0 mi ki)) vb.toInt.toNat (.int vt)) := A324
  have N332 := Fr.snoc X324 N322 ge87
  have Z333 : h0.size ≤ h324.size := by rw [W324.size]; exact Z323
  show Goes p.tables e below (T324.setTop (mkF m 396 #[.val (.int p0), .val (.int p1), .val (.int p2), .val (.int p3), .val (.ref a1), .val (.ref a35), .val (.int vm), .val (.int va), .val (.int vk), .val (.ref a84), .val (.ref a175), .val (.int vb), .val (.ref a289), .val (.int (1 : Int32)), .val (.int vf), .val (.int vt), .unset, .unset] [])) _
  refine g_aload X324 hx (hb hby at_396) rfl rfl ?_
  show Goes p.tables e below (T324.setTop (mkF m 398 #[.val (.int p0), .val (.int p1), .val (.int p2), .val (.int p3), .val (.ref a1), .val (.ref a35), .val (.int vm), .val (.int va), .val (.int vk), .val (.ref a84), .val (.ref a175), .val (.int vb), .val (.ref a289), .val (.int (1 : Int32)), .val (.int vf), .val (.int vt), .unset, .unset] [(.ref a84)])) _
  refine g_iload X324 hx (hb hby at_398) rfl ?_
  show Goes p.tables e below (T324.setTop (mkF m 400 #[.val (.int p0), .val (.int p1), .val (.int p2), .val (.int p3), .val (.ref a1), .val (.ref a35), .val (.int vm), .val (.int va), .val (.int vk), .val (.ref a84), .val (.ref a175), .val (.int vb), .val (.ref a289), .val (.int (1 : Int32)), .val (.int vf), .val (.int vt), .unset, .unset] [(.int vf), (.ref a84)])) _
  refine g_iconst X324 hx (0 : Int32) (hb hby at_400) rfl ?_
  show Goes p.tables e below (T324.setTop (mkF m 401 #[.val (.int p0), .val (.int p1), .val (.int p2), .val (.int p3), .val (.ref a1), .val (.ref a35), .val (.int vm), .val (.int va), .val (.int vk), .val (.ref a84), .val (.ref a175), .val (.int vb), .val (.ref a289), .val (.int (1 : Int32)), .val (.int vf), .val (.int vt), .unset, .unset] [(.int (0 : Int32)), (.int vf), (.ref a84)])) _
  refine g_iastore X324 hx hZ e324 fx331 vf.toInt.toNat (by omega) (by rw [List.length_set, List.length_map]; show _ < 9; omega) (hb hby at_401) (fun T334 h334 X334 e334 W334 A334 => ?_)
  have fx335 : Exa Z h334 a84 "[I" := Exa.wr W334 fx325
  have fx336 : Exa Z h334 a289 "com/example/slidewise/slidewise/search/ManhattanTracker" := Exa.wr W334 fx326
  have fx337 : Ar Z h334 d301 .int ds301 := Ar.other fx327 W334 ne310
  have fx338 : Fld Z h334 a289 "com/example/slidewise/slidewise/search/ManhattanTracker" "squares" "I" (.int ((3 : Int32) * (3 : Int32))) := Fld.other W334 fx328 (Or.inl (Ne.symm ne290))
  have fx339 : Fld Z h334 a289 "com/example/slidewise/slidewise/search/ManhattanTracker" "distances" "[I" (.ref d301) := Fld.other W334 fx329 (Or.inl (Ne.symm ne290))
  have fx340 : Fld Z h334 a289 "com/example/slidewise/slidewise/search/ManhattanTracker" "value" "I" (.int (own_y1 mi ki q1)) := Fld.other W334 fx330 (Or.inl (Ne.symm ne290))
  have fx341 : Ar Z h334 a84 .int (List.set (List.set (List.map Value.int (own_x0 mi ki)) vb.toInt.toNat (.int vt)) vf.toInt.toNat (.int (0 : Int32))) := A334
  have N342 := Fr.snoc X334 N332 ge87
  have Z343 : h0.size ≤ h334.size := by rw [W334.size]; exact Z333
  show Goes p.tables e below (T334.setTop (mkF m 402 #[.val (.int p0), .val (.int p1), .val (.int p2), .val (.int p3), .val (.ref a1), .val (.ref a35), .val (.int vm), .val (.int va), .val (.int vk), .val (.ref a84), .val (.ref a175), .val (.int vb), .val (.ref a289), .val (.int (1 : Int32)), .val (.int vf), .val (.int vt), .unset, .unset] [])) _
  have f344 : Ar Z h334 a84 .int (List.map Value.int (own_x1 mi ki q1)) := by rw [own_x1, ← hvb2, ← ht, ← hf, List.map_set, List.map_set]; exact fx341
  have hx1l : (own_x1 mi ki q1).length = 9 := by rw [own_x1, List.length_set, List.length_set]; rfl
  show Goes p.tables e below (T334.setTop (mkF m 402 #[.val (.int p0), .val (.int p1), .val (.int p2), .val (.int p3), .val (.ref a1), .val (.ref a35), .val (.int vm), .val (.int va), .val (.int vk), .val (.ref a84), .val (.ref a175), .val (.int vb), .val (.ref a289), .val (.int (1 : Int32)), .val (.int vf), .val (.int vt), .unset, .unset] [])) _
  refine g_iload X334 hx (hb hby at_402) rfl ?_
  show Goes p.tables e below (T334.setTop (mkF m 404 #[.val (.int p0), .val (.int p1), .val (.int p2), .val (.int p3), .val (.ref a1), .val (.ref a35), .val (.int vm), .val (.int va), .val (.int vk), .val (.ref a84), .val (.ref a175), .val (.int vb), .val (.ref a289), .val (.int (1 : Int32)), .val (.int vf), .val (.int vt), .unset, .unset] [(.int (1 : Int32))])) _
  refine g_aload X334 hx (hb hby at_404) rfl rfl ?_
  show Goes p.tables e below (T334.setTop (mkF m 406 #[.val (.int p0), .val (.int p1), .val (.int p2), .val (.int p3), .val (.ref a1), .val (.ref a35), .val (.int vm), .val (.int va), .val (.int vk), .val (.ref a84), .val (.ref a175), .val (.int vb), .val (.ref a289), .val (.int (1 : Int32)), .val (.int vf), .val (.int vt), .unset, .unset] [(.ref a289), (.int (1 : Int32))])) _
  refine g_callV X334 hx hZ hown (by rw [hml]; rfl) e334 (K := "com/example/slidewise/slidewise/search/ManhattanTracker") (hw _ (List.mem_of_getElem? (i := 29) rfl)) (hw _ (List.mem_of_getElem? (i := 30) rfl)) (hw _ (List.mem_of_getElem? (i := 32) rfl)) (hw _ (List.mem_of_getElem? (i := 31) rfl)) (hw _ (List.mem_of_getElem? (i := 5) rfl)) (hw _ (List.mem_of_getElem? (i := 33) rfl)) fx336 (rmVal l Z a0 hw a289 h334 h0.size Z343 (own_y1 mi ki q1) fx340) [] rfl [(.int (1 : Int32))] rfl (lenOf pd_6 rfl) (hb hby at_406) (by decide) 1 (by decide) (by decide) (by first | decide | exact Nat.le_refl _) (by decide) (by decide) (fun v T345 L345 X345 hQ345 => ?_)
  obtain ⟨rfl, e345, rfl⟩ := hQ345
  have N346 := Fr.app N342 (Fr.nil h0.size)
  show Goes p.tables e below (T345.setTop (mkF m 409 #[.val (.int p0), .val (.int p1), .val (.int p2), .val (.int p3), .val (.ref a1), .val (.ref a35), .val (.int vm), .val (.int va), .val (.int vk), .val (.ref a84), .val (.ref a175), .val (.int vb), .val (.ref a289), .val (.int (1 : Int32)), .val (.int vf), .val (.int vt), .unset, .unset] [(.int (own_y1 mi ki q1)), (.int (1 : Int32))])) _
  refine g_aload X345 hx (hb hby at_409) rfl rfl ?_
  show Goes p.tables e below (T345.setTop (mkF m 411 #[.val (.int p0), .val (.int p1), .val (.int p2), .val (.int p3), .val (.ref a1), .val (.ref a35), .val (.int vm), .val (.int va), .val (.int vk), .val (.ref a84), .val (.ref a175), .val (.int vb), .val (.ref a289), .val (.int (1 : Int32)), .val (.int vf), .val (.int vt), .unset, .unset] [(.ref a84), (.int (own_y1 mi ki q1)), (.int (1 : Int32))])) _
  refine g_callS X345 hx hZ hown (by rw [hml]; rfl) e345 (hw _ (List.mem_of_getElem? (i := 34) rfl)) (hw _ (List.mem_of_getElem? (i := 35) rfl)) (hw _ (List.mem_of_getElem? (i := 36) rfl)) (hw _ (List.mem_of_getElem? (i := 37) rfl)) (rmMd l Z a0 hw a84 h334 (own_x1 mi ki q1) hx1l f344) [(.ref a84)] rfl [(.int (own_y1 mi ki q1)), (.int (1 : Int32))] rfl (lenOf pd_7 rfl) (hb hby at_411) (by decide) 2 (by decide) (by decide) (by first | decide | exact Nat.le_refl _) (by decide) (by decide) (fun v T347 L347 X347 hQ347 => ?_)
  obtain ⟨rfl, e347, rfl⟩ := hQ347
  have N348 := Fr.app N346 (Fr.nil h0.size)
  show Goes p.tables e below (T347.setTop (mkF m 414 #[.val (.int p0), .val (.int p1), .val (.int p2), .val (.int p3), .val (.ref a1), .val (.ref a35), .val (.int vm), .val (.int va), .val (.int vk), .val (.ref a84), .val (.ref a175), .val (.int vb), .val (.ref a289), .val (.int (1 : Int32)), .val (.int vf), .val (.int vt), .unset, .unset] [(.int (mdV (own_x1 mi ki q1))), (.int (own_y1 mi ki q1)), (.int (1 : Int32))])) _
  have c414 : (own_y1 mi ki q1) = (mdV (own_x1 mi ki q1)) := gy1
  refine g_icmp_ne X347 hx (hb hby at_414) (by decide) (pc' := 421) (by decide) (fun q => absurd c414 q) (fun _ => ?_)
  show Goes p.tables e below (T347.setTop (mkF m 417 #[.val (.int p0), .val (.int p1), .val (.int p2), .val (.int p3), .val (.ref a1), .val (.ref a35), .val (.int vm), .val (.int va), .val (.int vk), .val (.ref a84), .val (.ref a175), .val (.int vb), .val (.ref a289), .val (.int (1 : Int32)), .val (.int vf), .val (.int vt), .unset, .unset] [(.int (1 : Int32))])) _
  refine g_iconst X347 hx (1 : Int32) (hb hby at_417) rfl ?_
  show Goes p.tables e below (T347.setTop (mkF m 418 #[.val (.int p0), .val (.int p1), .val (.int p2), .val (.int p3), .val (.ref a1), .val (.ref a35), .val (.int vm), .val (.int va), .val (.int vk), .val (.ref a84), .val (.ref a175), .val (.int vb), .val (.ref a289), .val (.int (1 : Int32)), .val (.int vf), .val (.int vt), .unset, .unset] [(.int (1 : Int32)), (.int (1 : Int32))])) _
  refine g_goto X347 hx (hb hby at_418) (by decide) (pc' := 422) (by decide) ?_
  show Goes p.tables e below (T347.setTop (mkF m 422 #[.val (.int p0), .val (.int p1), .val (.int p2), .val (.int p3), .val (.ref a1), .val (.ref a35), .val (.int vm), .val (.int va), .val (.int vk), .val (.ref a84), .val (.ref a175), .val (.int vb), .val (.ref a289), .val (.int (1 : Int32)), .val (.int vf), .val (.int vt), .unset, .unset] [(.int (1 : Int32)), (.int (1 : Int32))])) _
  refine g_iand X347 hx (hb hby at_422) ?_
  show Goes p.tables e below (T347.setTop (mkF m 423 #[.val (.int p0), .val (.int p1), .val (.int p2), .val (.int p3), .val (.ref a1), .val (.ref a35), .val (.int vm), .val (.int va), .val (.int vk), .val (.ref a84), .val (.ref a175), .val (.int vb), .val (.ref a289), .val (.int (1 : Int32)), .val (.int vf), .val (.int vt), .unset, .unset] [(.int ((1 : Int32) &&& (1 : Int32)))])) _
  refine g_istore X347 hx (hb hby at_423) (l' := #[.val (.int p0), .val (.int p1), .val (.int p2), .val (.int p3), .val (.ref a1), .val (.ref a35), .val (.int vm), .val (.int va), .val (.int vk), .val (.ref a84), .val (.ref a175), .val (.int vb), .val (.ref a289), .val (.int ((1 : Int32) &&& (1 : Int32))), .val (.int vf), .val (.int vt), .unset, .unset]) rfl ?_
  show Goes p.tables e below (T347.setTop (mkF m 425 #[.val (.int p0), .val (.int p1), .val (.int p2), .val (.int p3), .val (.ref a1), .val (.ref a35), .val (.int vm), .val (.int va), .val (.int vk), .val (.ref a84), .val (.ref a175), .val (.int vb), .val (.ref a289), .val (.int ((1 : Int32) &&& (1 : Int32))), .val (.int vf), .val (.int vt), .unset, .unset] [])) _
  refine g_iload X347 hx (hb hby at_425) rfl ?_
  show Goes p.tables e below (T347.setTop (mkF m 427 #[.val (.int p0), .val (.int p1), .val (.int p2), .val (.int p3), .val (.ref a1), .val (.ref a35), .val (.int vm), .val (.int va), .val (.int vk), .val (.ref a84), .val (.ref a175), .val (.int vb), .val (.ref a289), .val (.int ((1 : Int32) &&& (1 : Int32))), .val (.int vf), .val (.int vt), .unset, .unset] [(.int vf)])) _
  refine g_iloadN X347 hx (hb hby at_427) rfl ?_
  show Goes p.tables e below (T347.setTop (mkF m 428 #[.val (.int p0), .val (.int p1), .val (.int p2), .val (.int p3), .val (.ref a1), .val (.ref a35), .val (.int vm), .val (.int va), .val (.int vk), .val (.ref a84), .val (.ref a175), .val (.int vb), .val (.ref a289), .val (.int ((1 : Int32) &&& (1 : Int32))), .val (.int vf), .val (.int vt), .unset, .unset] [(.int p3), (.int vf)])) _
  refine g_iconst X347 hx (3 : Int32) (hb hby at_428) rfl ?_
  show Goes p.tables e below (T347.setTop (mkF m 429 #[.val (.int p0), .val (.int p1), .val (.int p2), .val (.int p3), .val (.ref a1), .val (.ref a35), .val (.int vm), .val (.int va), .val (.int vk), .val (.ref a84), .val (.ref a175), .val (.int vb), .val (.ref a289), .val (.int ((1 : Int32) &&& (1 : Int32))), .val (.int vf), .val (.int vt), .unset, .unset] [(.int (3 : Int32)), (.int p3), (.int vf)])) _
  refine g_iand X347 hx (hb hby at_429) ?_
  show Goes p.tables e below (T347.setTop (mkF m 430 #[.val (.int p0), .val (.int p1), .val (.int p2), .val (.int p3), .val (.ref a1), .val (.ref a35), .val (.int vm), .val (.int va), .val (.int vk), .val (.ref a84), .val (.ref a175), .val (.int vb), .val (.ref a289), .val (.int ((1 : Int32) &&& (1 : Int32))), .val (.int vf), .val (.int vt), .unset, .unset] [(.int (p3 &&& (3 : Int32))), (.int vf)])) _
  refine g_callS X347 hx hZ hown (by rw [hml]; rfl) e347 (hw _ (List.mem_of_getElem? (i := 42) rfl)) (hw _ (List.mem_of_getElem? (i := 43) rfl)) (hw _ (List.mem_of_getElem? (i := 36) rfl)) (hw _ (List.mem_of_getElem? (i := 44) rfl)) (rmNb l Z a0 hw vf (p3 &&& (3 : Int32)) h334) [(.int vf), (.int (p3 &&& (3 : Int32)))] rfl [] rfl (lenOf pd_9 rfl) (hb hby at_430) (by decide) 0 (by decide) (by decide) (by first | decide | exact Nat.le_refl _) (by decide) (by decide) (fun v T349 L349 X349 hQ349 => ?_)
  obtain ⟨rfl, e349, rfl⟩ := hQ349
  have N350 := Fr.app N348 (Fr.nil h0.size)
  show Goes p.tables e below (T349.setTop (mkF m 433 #[.val (.int p0), .val (.int p1), .val (.int p2), .val (.int p3), .val (.ref a1), .val (.ref a35), .val (.int vm), .val (.int va), .val (.int vk), .val (.ref a84), .val (.ref a175), .val (.int vb), .val (.ref a289), .val (.int ((1 : Int32) &&& (1 : Int32))), .val (.int vf), .val (.int vt), .unset, .unset] [(.int (nbV vf (p3 &&& (3 : Int32))))])) _
  obtain ⟨vf2, hvf2⟩ : ∃ z : Int32, z = (nbV vf (p3 &&& (3 : Int32))) := ⟨_, rfl⟩
  refine g_nameI hvf2 ?_
  show Goes p.tables e below (T349.setTop (mkF m 433 #[.val (.int p0), .val (.int p1), .val (.int p2), .val (.int p3), .val (.ref a1), .val (.ref a35), .val (.int vm), .val (.int va), .val (.int vk), .val (.ref a84), .val (.ref a175), .val (.int vb), .val (.ref a289), .val (.int ((1 : Int32) &&& (1 : Int32))), .val (.int vf), .val (.int vt), .unset, .unset] [(.int vf2)])) _
  refine g_istore X349 hx (hb hby at_433) (l' := #[.val (.int p0), .val (.int p1), .val (.int p2), .val (.int p3), .val (.ref a1), .val (.ref a35), .val (.int vm), .val (.int va), .val (.int vk), .val (.ref a84), .val (.ref a175), .val (.int vb), .val (.ref a289), .val (.int ((1 : Int32) &&& (1 : Int32))), .val (.int vf), .val (.int vt), .val (.int vf2), .unset]) rfl ?_
  show Goes p.tables e below (T349.setTop (mkF m 435 #[.val (.int p0), .val (.int p1), .val (.int p2), .val (.int p3), .val (.ref a1), .val (.ref a35), .val (.int vm), .val (.int va), .val (.int vk), .val (.ref a84), .val (.ref a175), .val (.int vb), .val (.ref a289), .val (.int ((1 : Int32) &&& (1 : Int32))), .val (.int vf), .val (.int vt), .val (.int vf2), .unset] [])) _
  have hf2 : vf2 = own_f2 mi ki q1 q2 := by rw [hvf2, hf, eq2]; rfl
  have g2 := own_g2 mi ki q1 q2
  simp only [Bool.and_eq_true, decide_eq_true_eq] at g2
  obtain ⟨⟨gf2, gt2⟩, gy2⟩ := g2
  have hfr2 := own_rgI gf2
  rw [← hf2] at hfr2
  show Goes p.tables e below (T349.setTop (mkF m 435 #[.val (.int p0), .val (.int p1), .val (.int p2), .val (.int p3), .val (.ref a1), .val (.ref a35), .val (.int vm), .val (.int va), .val (.int vk), .val (.ref a84), .val (.ref a175), .val (.int vb), .val (.ref a289), .val (.int ((1 : Int32) &&& (1 : Int32))), .val (.int vf), .val (.int vt), .val (.int vf2), .unset] [])) _
  refine g_aload X349 hx (hb hby at_435) rfl rfl ?_
  show Goes p.tables e below (T349.setTop (mkF m 437 #[.val (.int p0), .val (.int p1), .val (.int p2), .val (.int p3), .val (.ref a1), .val (.ref a35), .val (.int vm), .val (.int va), .val (.int vk), .val (.ref a84), .val (.ref a175), .val (.int vb), .val (.ref a289), .val (.int ((1 : Int32) &&& (1 : Int32))), .val (.int vf), .val (.int vt), .val (.int vf2), .unset] [(.ref a84)])) _
  refine g_iload X349 hx (hb hby at_437) rfl ?_
  show Goes p.tables e below (T349.setTop (mkF m 439 #[.val (.int p0), .val (.int p1), .val (.int p2), .val (.int p3), .val (.ref a1), .val (.ref a35), .val (.int vm), .val (.int va), .val (.int vk), .val (.ref a84), .val (.ref a175), .val (.int vb), .val (.ref a289), .val (.int ((1 : Int32) &&& (1 : Int32))), .val (.int vf), .val (.int vt), .val (.int vf2), .unset] [(.int vf2), (.ref a84)])) _
  refine g_iaload X349 hx hZ e349 f344 (i := vf2.toInt.toNat) (v := (.int ((own_x1 mi ki q1).getD vf2.toInt.toNat 0))) (by omega) (own_at9 hx1l (by omega)) (hb hby at_439) ?_
  show Goes p.tables e below (T349.setTop (mkF m 440 #[.val (.int p0), .val (.int p1), .val (.int p2), .val (.int p3), .val (.ref a1), .val (.ref a35), .val (.int vm), .val (.int va), .val (.int vk), .val (.ref a84), .val (.ref a175), .val (.int vb), .val (.ref a289), .val (.int ((1 : Int32) &&& (1 : Int32))), .val (.int vf), .val (.int vt), .val (.int vf2), .unset] [(.int ((own_x1 mi ki q1).getD vf2.toInt.toNat 0))])) _
  obtain ⟨vt2, hvt2⟩ : ∃ z : Int32, z = ((own_x1 mi ki q1).getD vf2.toInt.toNat 0) := ⟨_, rfl⟩
  refine g_nameI hvt2 ?_
  show Goes p.tables e below (T349.setTop (mkF m 440 #[.val (.int p0), .val (.int p1), .val (.int p2), .val (.int p3), .val (.ref a1), .val (.ref a35), .val (.int vm), .val (.int va), .val (.int vk), .val (.ref a84), .val (.ref a175), .val (.int vb), .val (.ref a289), .val (.int ((1 : Int32) &&& (1 : Int32))), .val (.int vf), .val (.int vt), .val (.int vf2), .unset] [(.int vt2)])) _
  refine g_istore X349 hx (hb hby at_440) (l' := #[.val (.int p0), .val (.int p1), .val (.int p2), .val (.int p3), .val (.ref a1), .val (.ref a35), .val (.int vm), .val (.int va), .val (.int vk), .val (.ref a84), .val (.ref a175), .val (.int vb), .val (.ref a289), .val (.int ((1 : Int32) &&& (1 : Int32))), .val (.int vf), .val (.int vt), .val (.int vf2), .val (.int vt2)]) rfl ?_
  show Goes p.tables e below (T349.setTop (mkF m 442 #[.val (.int p0), .val (.int p1), .val (.int p2), .val (.int p3), .val (.ref a1), .val (.ref a35), .val (.int vm), .val (.int va), .val (.int vk), .val (.ref a84), .val (.ref a175), .val (.int vb), .val (.ref a289), .val (.int ((1 : Int32) &&& (1 : Int32))), .val (.int vf), .val (.int vt), .val (.int vf2), .val (.int vt2)] [])) _
  have ht2 : vt2 = own_t2 mi ki q1 q2 := by rw [hvt2, hf2]; rfl
  have htr2 := own_rgI gt2
  rw [← ht2] at htr2
  show Goes p.tables e below (T349.setTop (mkF m 442 #[.val (.int p0), .val (.int p1), .val (.int p2), .val (.int p3), .val (.ref a1), .val (.ref a35), .val (.int vm), .val (.int va), .val (.int vk), .val (.ref a84), .val (.ref a175), .val (.int vb), .val (.ref a289), .val (.int ((1 : Int32) &&& (1 : Int32))), .val (.int vf), .val (.int vt), .val (.int vf2), .val (.int vt2)] [])) _
  refine g_aload X349 hx (hb hby at_442) rfl rfl ?_
  show Goes p.tables e below (T349.setTop (mkF m 444 #[.val (.int p0), .val (.int p1), .val (.int p2), .val (.int p3), .val (.ref a1), .val (.ref a35), .val (.int vm), .val (.int va), .val (.int vk), .val (.ref a84), .val (.ref a175), .val (.int vb), .val (.ref a289), .val (.int ((1 : Int32) &&& (1 : Int32))), .val (.int vf), .val (.int vt), .val (.int vf2), .val (.int vt2)] [(.ref a289)])) _
  refine g_iload X349 hx (hb hby at_444) rfl ?_
  show Goes p.tables e below (T349.setTop (mkF m 446 #[.val (.int p0), .val (.int p1), .val (.int p2), .val (.int p3), .val (.ref a1), .val (.ref a35), .val (.int vm), .val (.int va), .val (.int vk), .val (.ref a84), .val (.ref a175), .val (.int vb), .val (.ref a289), .val (.int ((1 : Int32) &&& (1 : Int32))), .val (.int vf), .val (.int vt), .val (.int vf2), .val (.int vt2)] [(.int vt2), (.ref a289)])) _
  refine g_iload X349 hx (hb hby at_446) rfl ?_
  show Goes p.tables e below (T349.setTop (mkF m 448 #[.val (.int p0), .val (.int p1), .val (.int p2), .val (.int p3), .val (.ref a1), .val (.ref a35), .val (.int vm), .val (.int va), .val (.int vk), .val (.ref a84), .val (.ref a175), .val (.int vb), .val (.ref a289), .val (.int ((1 : Int32) &&& (1 : Int32))), .val (.int vf), .val (.int vt), .val (.int vf2), .val (.int vt2)] [(.int vf2), (.int vt2), (.ref a289)])) _
  refine g_iload X349 hx (hb hby at_448) rfl ?_
  show Goes p.tables e below (T349.setTop (mkF m 450 #[.val (.int p0), .val (.int p1), .val (.int p2), .val (.int p3), .val (.ref a1), .val (.ref a35), .val (.int vm), .val (.int va), .val (.int vk), .val (.ref a84), .val (.ref a175), .val (.int vb), .val (.ref a289), .val (.int ((1 : Int32) &&& (1 : Int32))), .val (.int vf), .val (.int vt), .val (.int vf2), .val (.int vt2)] [(.int vf), (.int vf2), (.int vt2), (.ref a289)])) _
  refine g_callV X349 hx hZ hown (by rw [hml]; rfl) e349 (K := "com/example/slidewise/slidewise/search/ManhattanTracker") (hw _ (List.mem_of_getElem? (i := 45) rfl)) (hw _ (List.mem_of_getElem? (i := 46) rfl)) (hw _ (List.mem_of_getElem? (i := 48) rfl)) (hw _ (List.mem_of_getElem? (i := 47) rfl)) (hw _ (List.mem_of_getElem? (i := 5) rfl)) (hw _ (List.mem_of_getElem? (i := 49) rfl)) fx336 (rmSl l Z a0 hw a289 vt2 vf2 vf h334 h0.size Z343 d301 ds301 3 ((3 : Int32) * (3 : Int32)) (own_y1 mi ki q1) 9 (by decide) (by decide) ti301 htr2 hfr2 hfr fx338 fx339 fx340 fx336 fx337 ge292 ne309) [(.int vt2), (.int vf2), (.int vf)] rfl [] rfl (lenOf pd_10 rfl) (hb hby at_450) (by decide) 0 (by decide) (by decide) (by first | decide | exact Nat.le_refl _) (by decide) (by decide) (fun v T351 L351 X351 hQ351 => ?_)
  obtain ⟨rfl, Nc351, Kc351, fS351, fD351, fV351, Ad351⟩ := hQ351
  have fx352 : Exa Z T351.heap a84 "[I" := Exa.keep fx335 Kc351
  have fx353 : Exa Z T351.heap a289 "com/example/slidewise/slidewise/search/ManhattanTracker" := Exa.keep fx336 Kc351
  have fx354 : Ar Z T351.heap d301 .int ds301 := Ar.keep fx337 Kc351 (ninS ne309 nin0)
  have fx355 : Ar Z T351.heap a84 .int (List.map Value.int (own_x1 mi ki q1)) := Ar.keep f344 Kc351 (ninS ne290 nin0)
  have N356 := Fr.app N350 Nc351
  have Z357 : h0.size ≤ T351.heap.size := Nat.le_trans Z343 Kc351.1
  have fW351 : Fld Z T351.heap a289 "com/example/slidewise/slidewise/search/ManhattanTracker" "value" "I" (.int (own_y2 mi ki q1 q2)) := by rw [ht2, hf2, hf] at fV351; exact fV351
  show Goes p.tables e below (T351.setTop (mkF m 453 #[.val (.int p0), .val (.int p1), .val (.int p2), .val (.int p3), .val (.ref a1), .val (.ref a35), .val (.int vm), .val (.int va), .val (.int vk), .val (.ref a84), .val (.ref a175), .val (.int vb), .val (.ref a289), .val (.int ((1 : Int32) &&& (1 : Int32))), .val (.int vf), .val (.int vt), .val (.int vf2), .val (.int vt2)] [])) _
  refine g_aload X351 hx (hb hby at_453) rfl rfl ?_
  show Goes p.tables e below (T351.setTop (mkF m 455 #[.val (.int p0), .val (.int p1), .val (.int p2), .val (.int p3), .val (.ref a1), .val (.ref a35), .val (.int vm), .val (.int va), .val (.int vk), .val (.ref a84), .val (.ref a175), .val (.int vb), .val (.ref a289), .val (.int ((1 : Int32) &&& (1 : Int32))), .val (.int vf), .val (.int vt), .val (.int vf2), .val (.int vt2)] [(.ref a84)])) _
  refine g_iload X351 hx (hb hby at_455) rfl ?_
  show Goes p.tables e below (T351.setTop (mkF m 457 #[.val (.int p0), .val (.int p1), .val (.int p2), .val (.int p3), .val (.ref a1), .val (.ref a35), .val (.int vm), .val (.int va), .val (.int vk), .val (.ref a84), .val (.ref a175), .val (.int vb), .val (.ref a289), .val (.int ((1 : Int32) &&& (1 : Int32))), .val (.int vf), .val (.int vt), .val (.int vf2), .val (.int vt2)] [(.int vf), (.ref a84)])) _
  refine g_iload X351 hx (hb hby at_457) rfl ?_
  show Goes p.tables e below (T351.setTop (mkF m 459 #[.val (.int p0), .val (.int p1), .val (.int p2), .val (.int p3), .val (.ref a1), .val (.ref a35), .val (.int vm), .val (.int va), .val (.int vk), .val (.ref a84), .val (.ref a175), .val (.int vb), .val (.ref a289), .val (.int ((1 : Int32) &&& (1 : Int32))), .val (.int vf), .val (.int vt), .val (.int vf2), .val (.int vt2)] [(.int vt2), (.int vf), (.ref a84)])) _
  refine g_iastore X351 hx hZ rfl fx355 vf.toInt.toNat (by omega) (by rw [List.length_map, hx1l]; omega) (hb hby at_459) (fun T358 h358 X358 e358 W358 A358 => ?_)
  have fx359 : Exa Z h358 a84 "[I" := Exa.wr W358 fx352
  have fx360 : Exa Z h358 a289 "com/example/slidewise/slidewise/search/ManhattanTracker" := Exa.wr W358 fx353
  have fx361 : Ar Z h358 d301 .int ds301 := Ar.other Ad351 W358 ne310
  have fx362 : Fld Z h358 a289 "com/example/slidewise/slidewise/search/ManhattanTracker" "squares" "I" (.int ((3 : Int32) * (3 : Int32))) := Fld.other W358 fS351 (Or.inl (Ne.symm ne290))
  have fx363 : Fld Z h358 a289 "com/example/slidewise/slidewise/search/ManhattanTracker" "distances" "[I" (.ref d301) := Fld.other W358 fD351 (Or.inl (Ne.symm ne290))
  have fx364 : Fld Z h358 a289 "com/example/slidewise/slidewise/search/ManhattanTracker" "value" "I" (.int (own_y2 mi ki q1 q2)) := Fld.other W358 fW351 (Or.inl (Ne.symm ne290))
  have fx365 : Ar Z h358 a84 .int (List.set (List.map Value.int (own_x1 mi ki q1)) vf.toInt.toNat (.int vt2)) := A358
  have N366 := Fr.snoc X358 N356 ge87
  have Z367 : h0.size ≤ h358.size := by rw [W358.size]; exact Z357
  show Goes p.tables e below (T358.setTop (mkF m 460 #[.val (.int p0), .val (.int p1), .val (.int p2), .val (.int p3), .val (.ref a1), .val (.ref a35), .val (.int vm), .val (.int va), .val (.int vk), .val (.ref a84), .val (.ref a175), .val (.int vb), .val (.ref a289), .val (.int ((1 : Int32) &&& (1 : Int32))), .val (.int vf), .val (.int vt), .val (.int vf2), .val (.int vt2)] [])) _
  refine g_aload X358 hx (hb hby at_460) rfl rfl ?_
  show Goes p.tables e below (T358.setTop (mkF m 462 #[.val (.int p0), .val (.int p1), .val (.int p2), .val (.int p3), .val (.ref a1), .val (.ref a35), .val (.int vm), .val (.int va), .val (.int vk), .val (.ref a84), .val (.ref a175), .val (.int vb), .val (.ref a289), .val (.int ((1 : Int32) &&& (1 : Int32))), .val (.int vf), .val (.int vt), .val (.int vf2), .val (.int vt2)] [(.ref a84)])) _
  refine g_iload X358 hx (hb hby at_462) rfl ?_
  show Goes p.tables e below (T358.setTop (mkF m 464 #[.val (.int p0), .val (.int p1), .val (.int p2), .val (.int p3), .val (.ref a1), .val (.ref a35), .val (.int vm), .val (.int va), .val (.int vk), .val (.ref a84), .val (.ref a175), .val (.int vb), .val (.ref a289), .val (.int ((1 : Int32) &&& (1 : Int32))), .val (.int vf), .val (.int vt), .val (.int vf2), .val (.int vt2)] [(.int vf2), (.ref a84)])) _
  refine g_iconst X358 hx (0 : Int32) (hb hby at_464) rfl ?_
  show Goes p.tables e below (T358.setTop (mkF m 465 #[.val (.int p0), .val (.int p1), .val (.int p2), .val (.int p3), .val (.ref a1), .val (.ref a35), .val (.int vm), .val (.int va), .val (.int vk), .val (.ref a84), .val (.ref a175), .val (.int vb), .val (.ref a289), .val (.int ((1 : Int32) &&& (1 : Int32))), .val (.int vf), .val (.int vt), .val (.int vf2), .val (.int vt2)] [(.int (0 : Int32)), (.int vf2), (.ref a84)])) _
  refine g_iastore X358 hx hZ e358 fx365 vf2.toInt.toNat (by omega) (by rw [List.length_set, List.length_map, hx1l]; omega) (hb hby at_465) (fun T368 h368 X368 e368 W368 A368 => ?_)
  have fx369 : Exa Z h368 a84 "[I" := Exa.wr W368 fx359
  have fx370 : Exa Z h368 a289 "com/example/slidewise/slidewise/search/ManhattanTracker" := Exa.wr W368 fx360
  have fx371 : Ar Z h368 d301 .int ds301 := Ar.other fx361 W368 ne310
  have fx372 : Fld Z h368 a289 "com/example/slidewise/slidewise/search/ManhattanTracker" "squares" "I" (.int ((3 : Int32) * (3 : Int32))) := Fld.other W368 fx362 (Or.inl (Ne.symm ne290))
  have fx373 : Fld Z h368 a289 "com/example/slidewise/slidewise/search/ManhattanTracker" "distances" "[I" (.ref d301) := Fld.other W368 fx363 (Or.inl (Ne.symm ne290))
  have fx374 : Fld Z h368 a289 "com/example/slidewise/slidewise/search/ManhattanTracker" "value" "I" (.int (own_y2 mi ki q1 q2)) := Fld.other W368 fx364 (Or.inl (Ne.symm ne290))
  have fx375 : Ar Z h368 a84 .int (List.set (List.set (List.map Value.int (own_x1 mi ki q1)) vf.toInt.toNat (.int vt2)) vf2.toInt.toNat (.int (0 : Int32))) := A368
  have N376 := Fr.snoc X368 N366 ge87
  have Z377 : h0.size ≤ h368.size := by rw [W368.size]; exact Z367
  show Goes p.tables e below (T368.setTop (mkF m 466 #[.val (.int p0), .val (.int p1), .val (.int p2), .val (.int p3), .val (.ref a1), .val (.ref a35), .val (.int vm), .val (.int va), .val (.int vk), .val (.ref a84), .val (.ref a175), .val (.int vb), .val (.ref a289), .val (.int ((1 : Int32) &&& (1 : Int32))), .val (.int vf), .val (.int vt), .val (.int vf2), .val (.int vt2)] [])) _
  have f378 : Ar Z h368 a84 .int (List.map Value.int (own_x2 mi ki q1 q2)) := by rw [own_x2, ← hf, ← ht2, ← hf2, List.map_set, List.map_set]; exact fx375
  have hx2l : (own_x2 mi ki q1 q2).length = 9 := by rw [own_x2, List.length_set, List.length_set, hx1l]
  show Goes p.tables e below (T368.setTop (mkF m 466 #[.val (.int p0), .val (.int p1), .val (.int p2), .val (.int p3), .val (.ref a1), .val (.ref a35), .val (.int vm), .val (.int va), .val (.int vk), .val (.ref a84), .val (.ref a175), .val (.int vb), .val (.ref a289), .val (.int ((1 : Int32) &&& (1 : Int32))), .val (.int vf), .val (.int vt), .val (.int vf2), .val (.int vt2)] [])) _
  refine g_iload X368 hx (hb hby at_466) rfl ?_
  show Goes p.tables e below (T368.setTop (mkF m 468 #[.val (.int p0), .val (.int p1), .val (.int p2), .val (.int p3), .val (.ref a1), .val (.ref a35), .val (.int vm), .val (.int va), .val (.int vk), .val (.ref a84), .val (.ref a175), .val (.int vb), .val (.ref a289), .val (.int ((1 : Int32) &&& (1 : Int32))), .val (.int vf), .val (.int vt), .val (.int vf2), .val (.int vt2)] [(.int ((1 : Int32) &&& (1 : Int32)))])) _
  refine g_aload X368 hx (hb hby at_468) rfl rfl ?_
  show Goes p.tables e below (T368.setTop (mkF m 470 #[.val (.int p0), .val (.int p1), .val (.int p2), .val (.int p3), .val (.ref a1), .val (.ref a35), .val (.int vm), .val (.int va), .val (.int vk), .val (.ref a84), .val (.ref a175), .val (.int vb), .val (.ref a289), .val (.int ((1 : Int32) &&& (1 : Int32))), .val (.int vf), .val (.int vt), .val (.int vf2), .val (.int vt2)] [(.ref a289), (.int ((1 : Int32) &&& (1 : Int32)))])) _
  refine g_callV X368 hx hZ hown (by rw [hml]; rfl) e368 (K := "com/example/slidewise/slidewise/search/ManhattanTracker") (hw _ (List.mem_of_getElem? (i := 29) rfl)) (hw _ (List.mem_of_getElem? (i := 30) rfl)) (hw _ (List.mem_of_getElem? (i := 32) rfl)) (hw _ (List.mem_of_getElem? (i := 31) rfl)) (hw _ (List.mem_of_getElem? (i := 5) rfl)) (hw _ (List.mem_of_getElem? (i := 33) rfl)) fx370 (rmVal l Z a0 hw a289 h368 h0.size Z377 (own_y2 mi ki q1 q2) fx374) [] rfl [(.int ((1 : Int32) &&& (1 : Int32)))] rfl (lenOf pd_6 rfl) (hb hby at_470) (by decide) 1 (by decide) (by decide) (by first | decide | exact Nat.le_refl _) (by decide) (by decide) (fun v T379 L379 X379 hQ379 => ?_)
  obtain ⟨rfl, e379, rfl⟩ := hQ379
  have N380 := Fr.app N376 (Fr.nil h0.size)
  show Goes p.tables e below (T379.setTop (mkF m 473 #[.val (.int p0), .val (.int p1), .val (.int p2), .val (.int p3), .val (.ref a1), .val (.ref a35), .val (.int vm), .val (.int va), .val (.int vk), .val (.ref a84), .val (.ref a175), .val (.int vb), .val (.ref a289), .val (.int ((1 : Int32) &&& (1 : Int32))), .val (.int vf), .val (.int vt), .val (.int vf2), .val (.int vt2)] [(.int (own_y2 mi ki q1 q2)), (.int ((1 : Int32) &&& (1 : Int32)))])) _
  refine g_aload X379 hx (hb hby at_473) rfl rfl ?_
  show Goes p.tables e below (T379.setTop (mkF m 475 #[.val (.int p0), .val (.int p1), .val (.int p2), .val (.int p3), .val (.ref a1), .val (.ref a35), .val (.int vm), .val (.int va), .val (.int vk), .val (.ref a84), .val (.ref a175), .val (.int vb), .val (.ref a289), .val (.int ((1 : Int32) &&& (1 : Int32))), .val (.int vf), .val (.int vt), .val (.int vf2), .val (.int vt2)] [(.ref a84), (.int (own_y2 mi ki q1 q2)), (.int ((1 : Int32) &&& (1 : Int32)))])) _
  refine g_callS X379 hx hZ hown (by rw [hml]; rfl) e379 (hw _ (List.mem_of_getElem? (i := 34) rfl)) (hw _ (List.mem_of_getElem? (i := 35) rfl)) (hw _ (List.mem_of_getElem? (i := 36) rfl)) (hw _ (List.mem_of_getElem? (i := 37) rfl)) (rmMd l Z a0 hw a84 h368 (own_x2 mi ki q1 q2) hx2l f378) [(.ref a84)] rfl [(.int (own_y2 mi ki q1 q2)), (.int ((1 : Int32) &&& (1 : Int32)))] rfl (lenOf pd_7 rfl) (hb hby at_475) (by decide) 2 (by decide) (by decide) (by first | decide | exact Nat.le_refl _) (by decide) (by decide) (fun v T381 L381 X381 hQ381 => ?_)
  obtain ⟨rfl, e381, rfl⟩ := hQ381
  have N382 := Fr.app N380 (Fr.nil h0.size)
  show Goes p.tables e below (T381.setTop (mkF m 478 #[.val (.int p0), .val (.int p1), .val (.int p2), .val (.int p3), .val (.ref a1), .val (.ref a35), .val (.int vm), .val (.int va), .val (.int vk), .val (.ref a84), .val (.ref a175), .val (.int vb), .val (.ref a289), .val (.int ((1 : Int32) &&& (1 : Int32))), .val (.int vf), .val (.int vt), .val (.int vf2), .val (.int vt2)] [(.int (mdV (own_x2 mi ki q1 q2))), (.int (own_y2 mi ki q1 q2)), (.int ((1 : Int32) &&& (1 : Int32)))])) _
  have c478 : (own_y2 mi ki q1 q2) = (mdV (own_x2 mi ki q1 q2)) := gy2
  refine g_icmp_ne X381 hx (hb hby at_478) (by decide) (pc' := 485) (by decide) (fun q => absurd c478 q) (fun _ => ?_)
  show Goes p.tables e below (T381.setTop (mkF m 481 #[.val (.int p0), .val (.int p1), .val (.int p2), .val (.int p3), .val (.ref a1), .val (.ref a35), .val (.int vm), .val (.int va), .val (.int vk), .val (.ref a84), .val (.ref a175), .val (.int vb), .val (.ref a289), .val (.int ((1 : Int32) &&& (1 : Int32))), .val (.int vf), .val (.int vt), .val (.int vf2), .val (.int vt2)] [(.int ((1 : Int32) &&& (1 : Int32)))])) _
  refine g_iconst X381 hx (1 : Int32) (hb hby at_481) rfl ?_
  show Goes p.tables e below (T381.setTop (mkF m 482 #[.val (.int p0), .val (.int p1), .val (.int p2), .val (.int p3), .val (.ref a1), .val (.ref a35), .val (.int vm), .val (.int va), .val (.int vk), .val (.ref a84), .val (.ref a175), .val (.int vb), .val (.ref a289), .val (.int ((1 : Int32) &&& (1 : Int32))), .val (.int vf), .val (.int vt), .val (.int vf2), .val (.int vt2)] [(.int (1 : Int32)), (.int ((1 : Int32) &&& (1 : Int32)))])) _
  refine g_goto X381 hx (hb hby at_482) (by decide) (pc' := 486) (by decide) ?_
  show Goes p.tables e below (T381.setTop (mkF m 486 #[.val (.int p0), .val (.int p1), .val (.int p2), .val (.int p3), .val (.ref a1), .val (.ref a35), .val (.int vm), .val (.int va), .val (.int vk), .val (.ref a84), .val (.ref a175), .val (.int vb), .val (.ref a289), .val (.int ((1 : Int32) &&& (1 : Int32))), .val (.int vf), .val (.int vt), .val (.int vf2), .val (.int vt2)] [(.int (1 : Int32)), (.int ((1 : Int32) &&& (1 : Int32)))])) _
  refine g_iand X381 hx (hb hby at_486) ?_
  show Goes p.tables e below (T381.setTop (mkF m 487 #[.val (.int p0), .val (.int p1), .val (.int p2), .val (.int p3), .val (.ref a1), .val (.ref a35), .val (.int vm), .val (.int va), .val (.int vk), .val (.ref a84), .val (.ref a175), .val (.int vb), .val (.ref a289), .val (.int ((1 : Int32) &&& (1 : Int32))), .val (.int vf), .val (.int vt), .val (.int vf2), .val (.int vt2)] [(.int (((1 : Int32) &&& (1 : Int32)) &&& (1 : Int32)))])) _
  refine g_istore X381 hx (hb hby at_487) (l' := #[.val (.int p0), .val (.int p1), .val (.int p2), .val (.int p3), .val (.ref a1), .val (.ref a35), .val (.int vm), .val (.int va), .val (.int vk), .val (.ref a84), .val (.ref a175), .val (.int vb), .val (.ref a289), .val (.int (((1 : Int32) &&& (1 : Int32)) &&& (1 : Int32))), .val (.int vf), .val (.int vt), .val (.int vf2), .val (.int vt2)]) rfl ?_
  show Goes p.tables e below (T381.setTop (mkF m 489 #[.val (.int p0), .val (.int p1), .val (.int p2), .val (.int p3), .val (.ref a1), .val (.ref a35), .val (.int vm), .val (.int va), .val (.int vk), .val (.ref a84), .val (.ref a175), .val (.int vb), .val (.ref a289), .val (.int (((1 : Int32) &&& (1 : Int32)) &&& (1 : Int32))), .val (.int vf), .val (.int vt), .val (.int vf2), .val (.int vt2)] [])) _
  refine g_iload X381 hx (hb hby at_489) rfl ?_
  show Goes p.tables e below (T381.setTop (mkF m 491 #[.val (.int p0), .val (.int p1), .val (.int p2), .val (.int p3), .val (.ref a1), .val (.ref a35), .val (.int vm), .val (.int va), .val (.int vk), .val (.ref a84), .val (.ref a175), .val (.int vb), .val (.ref a289), .val (.int (((1 : Int32) &&& (1 : Int32)) &&& (1 : Int32))), .val (.int vf), .val (.int vt), .val (.int vf2), .val (.int vt2)] [(.int (((1 : Int32) &&& (1 : Int32)) &&& (1 : Int32)))])) _
  exact g_retZ X381 hx (hz := (by decide)) hret hlk (hb hby at_491) (by decide) (by decide) ⟨rfl, N382⟩
set_option maxRecDepth 65536 in
set_option maxHeartbeats 40000000 in
theorem comes_1 {Post : Tables → Env → Array Value → State → Outcome → State → Prop} (hpost : ∀ tb e args s v u, (limb_1_1.after args s (.returned v) u = true ∧ limb_1_2.after args s (.returned v) u = true ∧ True) → FrameEnd s (.returned v) u (Jvm.fieldLocs frame_1_writes args s ++ Jvm.arrayLocs frame_1_arrays args s ++ Jvm.staticLocs frame_1_statics s) 24 320 → Post tb e args s (.returned v) u) :
    ArmFor flags0 classFile x code maxLocals ret World_1 tables_1 room_1 Calls_1 rest_1 Pre_1 Post := by
  intro l hfl _ _ p e ha hc hk s m args below hf hA hF happ hP
  obtain ⟨hcalls, hrest, hpre⟩ := hP
  obtain ⟨-, -, -, hnamed, -, -, -, hat⟩ := (Spec.applies_iff hf).mp happ
  obtain ⟨hg, hn⟩ := and_e (Cond.before_iff.mp (show (Jvm.Cond.and given_1 narrow_1).before args s = true from hpre))
  obtain ⟨h1, hg1⟩ := and_e hg
  obtain ⟨w0, w1, w2, w3, rfl⟩ : ∃ w0 w1 w2 w3 : Value, args = #[w0, w1, w2, w3] := by
    have hs : args.size = 4 := by simpa [Cond.value, given_1] using h1
    obtain ⟨L⟩ := args
    match L, hs with
    | [w0, w1, w2, w3], _ => exact ⟨w0, w1, w2, w3, rfl⟩
  have hw := fun d (hd : d ∈ tables_1) => atoms_spec (ws := Jvm.Cond.code x code maxLocals ret :: tables_1) hat d (List.mem_cons_of_mem _ hd)
  obtain ⟨ha0, hg2⟩ := and_e hg1
  obtain ⟨i0, ei0⟩ := is_v ha0
  obtain rfl : w0 = (.int i0) := Option.some.inj ei0
  obtain ⟨ha1, hg3⟩ := and_e hg2
  obtain ⟨i1, ei1⟩ := is_v ha1
  obtain rfl : w1 = (.int i1) := Option.some.inj ei1
  obtain ⟨ha2, hg4⟩ := and_e hg3
  obtain ⟨i2, ei2⟩ := is_v ha2
  obtain rfl : w2 = (.int i2) := Option.some.inj ei2
  obtain ⟨i3, ei3⟩ := is_v hg4
  obtain rfl : w3 = (.int i3) := Option.some.inj ei3
  obtain ⟨n, o, h1, h2, h3, _, L, rfl, ⟨rfl, N⟩, hq⟩ := law l s _ hw tables_1 i0 i1 i2 i3 s.heap  p e ha hc hk s m _ below hf ((Spec.applies_iff_loose hf).mp happ).1 ⟨rfl, State.Warmed39.refl s, rfl⟩ trivial
  refine ⟨n, _, h1, h2, h3, hpost _ _ _ _ _ _ ⟨Cond.after_iff.mpr rfl, Cond.after_iff.mpr (eq_i res_at (Term.int_eval (1)) rfl), trivial⟩ ⟨hq.1, hq.2.1, (hq.2.2.sift fun y hy => Or.inr (N y hy)).mono (by decide) (by decide)⟩⟩
theorem main_1_1 : Claimed_1_1 := comes_1 fun _ _ _ _ _ _ h hF => ⟨h.1, hF⟩
theorem main_1_2 : Claimed_1_2 := comes_1 fun _ _ _ _ _ _ h hF => ⟨h.2.1, hF⟩
end Jvm.Pilot.@@N@@
namespace Jvm.Pilot.@@N@@
open Jvm Jvm.ClassFile Sem Op Lib Jvm.Free Jvm.Stand Jvm.Pilot.@@N@@.Jvm.D
/-! MADE BY PROGRAM (witnessworld.py) out of the Statement's table words and the real class files: 13 classes; the members and pool entries that the words name. The judged class is class 1, her method 4. -/
namespace start1
open Jvm.ClassFile
def u (s : String) : CpInfo := .utf8 (stringToUtf16 s)
/-- a pool by its gaps: so many unusable entries, then the entry; so many at the end -/
def gap : Nat → List CpInfo → List CpInfo
  | 0, r => r
  | n + 1, r => .unusable :: gap n r
def poolList (es : List (Nat × CpInfo)) (last : Nat) : List CpInfo := es.foldr (fun e r => gap e.1 (e.2 :: r)) (gap last [])
def pool (es : List (Nat × CpInfo)) (last : Nat) : Array CpInfo := ⟨poolList es last⟩
def fileOf (pool : Array CpInfo) (this : Nat) (attrs : Array Attribute := #[]) (ms : Array MethodInfo := #[]) (fl : Nat := 33) (sup : Nat := 0) (ifs : Array Nat := #[]) (fds : Array FieldInfo := #[]) : ClassFile where
  minorVersion := 0
  majorVersion := 65
  constantPool := pool
  accessFlags := fl
  thisClass := this
  superClass := sup
  interfaces := ifs
  fields := fds
  methods := ms
  attributes := attrs
def plain (name : String) (sup : Option ClassId) : Class where
  name := name
  kind := .ordinary
  loader := none
  accessFlags := 33
  super := sup
  interfaces := #[]
  cf := none
  fields := #[]
  methods := #[]
  instanceTypes := #[]
  staticTypes := #[]
  resolved := #[]
  callSites := []
  init := .initialized
  statics := none
  mirror := none

def pool0 : Array CpInfo := pool [(5, u "<init>"), (0, u "()V"), (1, .class_ 10), (1, u "java/lang/Object")] 113

def k0c0 : Code := { maxStack := 0, maxLocals := 1, code := object_method_1_code, exceptionTable := #[], attributes := #[] }
def k0m0 : Method := { name := "<init>", desc := "()V", sig := { parameters := [], returnType := none }, accessFlags := 1, code := some k0c0 }
/-- java/lang/Object -/
def k0 : Class := { plain "java/lang/Object" none with
  accessFlags := 33
  interfaces := #[]
  cf := some (fileOf pool0 8 #[] #[{ accessFlags := 1, nameIndex := 5, descriptorIndex := 6, attributes := #[] }] 33 0 #[] #[])
  fields := #[]
  methods := #[k0m0]
  instanceTypes := #[]
  staticTypes := #[]
  resolved := Array.replicate 124 none
  statics := none }

def pool1 : Array CpInfo := pool [(2, .class_ 4), (1, u "java/lang/Object"), (0, u "<init>"), (0, u "()V"), (0, .methodref 8 9), (0, .class_ 10), (0, .nameAndType 11 12), (0, u "java/lang/Math"), (0, u "abs"), (0, u "(I)I"), (0, .methodref 14 15), (0, .class_ 16), (0, .nameAndType 17 18), (0, u "com/example/slidewise/slidewise/search/ManhattanTrackerSlidePinLaw"), (0, u "d"), (0, u "(II)I"), (0, .integer 2147483647), (0, .class_ 21), (0, u "com/example/slidewise/slidewise/search/ManhattanTracker"), (0, .methodref 20 23), (0, .nameAndType 5 24), (0, u "(I[B)V"), (0, .methodref 20 26), (0, .nameAndType 27 28), (0, u "value"), (0, u "()I"), (0, .methodref 14 30), (0, .nameAndType 31 32), (0, u "md"), (0, u "([I)I"), (0, .methodref 14 34), (0, .nameAndType 35 18), (0, u "neighbor"), (0, .methodref 20 37), (0, .nameAndType 38 39), (0, u "slide"), (0, u "(III)V"), (3, u "law"), (0, u "(IIII)Z")] 6

def k1m0 : Method := { name := "<init>", desc := "()V", sig := { parameters := [], returnType := none }, accessFlags := 1, code := none }
def k1c1 : Code := { maxStack := 4, maxLocals := 3, code := method_2_code, exceptionTable := #[], attributes := #[] }
def k1m1 : Method := { name := "d", desc := "(II)I", sig := { parameters := [.int, .int], returnType := some .int }, accessFlags := 10, code := some k1c1 }
def k1c2 : Code := { maxStack := 3, maxLocals := 1, code := method_3_code, exceptionTable := #[], attributes := #[] }
def k1m2 : Method := { name := "md", desc := "([I)I", sig := { parameters := [(.array .int)], returnType := some .int }, accessFlags := 10, code := some k1c2 }
def k1c3 : Code := { maxStack := 2, maxLocals := 4, code := method_4_code, exceptionTable := #[], attributes := #[] }
def k1m3 : Method := { name := "neighbor", desc := "(II)I", sig := { parameters := [.int, .int], returnType := some .int }, accessFlags := 10, code := some k1c3 }
def k1c4 : Code := { maxStack := 4, maxLocals := 18, code := code, exceptionTable := #[], attributes := #[] }
def k1m4 : Method := { name := "law", desc := "(IIII)Z", sig := { parameters := [.int, .int, .int, .int], returnType := some .boolean }, accessFlags := 9, code := some k1c4 }
/-- com/example/slidewise/slidewise/search/ManhattanTrackerSlidePinLaw -/
def k1 : Class := { plain "com/example/slidewise/slidewise/search/ManhattanTrackerSlidePinLaw" (some 0) with
  accessFlags := 49
  interfaces := #[]
  cf := some (fileOf pool1 14 #[] #[{ accessFlags := 1, nameIndex := 5, descriptorIndex := 6, attributes := #[] }, { accessFlags := 10, nameIndex := 17, descriptorIndex := 18, attributes := #[] }, { accessFlags := 10, nameIndex := 31, descriptorIndex := 32, attributes := #[] }, { accessFlags := 10, nameIndex := 35, descriptorIndex := 18, attributes := #[] }, { accessFlags := 9, nameIndex := 43, descriptorIndex := 44, attributes := #[] }] 49 2 #[] #[])
  fields := #[]
  methods := #[k1m0, k1m1, k1m2, k1m3, k1m4]
  instanceTypes := #[]
  staticTypes := #[]
  resolved := Array.replicate 51 none
  statics := none }

def pool2 : Array CpInfo := pool [(1, .class_ 2), (0, u "com/example/slidewise/slidewise/search/BoundTracker"), (0, .class_ 4), (0, u "java/lang/Object")] 7

/-- com/example/slidewise/slidewise/search/BoundTracker -/
def k2 : Class := { plain "com/example/slidewise/slidewise/search/BoundTracker" (some 0) with
  accessFlags := 1536
  interfaces := #[]
  cf := some (fileOf pool2 1 #[] #[] 1536 3 #[] #[])
  fields := #[]
  methods := #[]
  instanceTypes := #[]
  staticTypes := #[]
  resolved := Array.replicate 12 none
  statics := none }

def pool3 : Array CpInfo := pool [(1, .methodref 2 3), (0, .class_ 4), (0, .nameAndType 5 6), (0, u "java/lang/Object"), (0, u "<init>"), (0, u "()V"), (0, .fieldref 8 9), (0, .class_ 10), (0, .nameAndType 11 12), (0, u "com/example/slidewise/slidewise/search/ManhattanTracker"), (0, u "squares"), (0, u "I"), (0, .fieldref 8 14), (0, .nameAndType 15 16), (0, u "distances"), (0, u "[I"), (0, .methodref 18 19), (0, .class_ 20), (0, .nameAndType 21 22), (0, u "com/example/slidewise/slidewise/model/Puzzle"), (0, u "distance"), (0, u "(III)I"), (0, .fieldref 8 24), (0, .nameAndType 25 12), (0, u "value"), (0, .class_ 27), (0, u "com/example/slidewise/slidewise/search/BoundTracker"), (0, u "(I[B)V"), (5, u "()I"), (0, u "slide"), (0, u "(III)V")] 3

def k3c0 : Code := { maxStack := 5, maxLocals := 5, code := prog_52_method_1_code, exceptionTable := #[], attributes := #[] }
def k3m0 : Method := { name := "<init>", desc := "(I[B)V", sig := { parameters := [.int, (.array .byte)], returnType := none }, accessFlags := 0, code := some k3c0 }
def k3c1 : Code := { maxStack := 1, maxLocals := 1, code := prog_52_method_2_code, exceptionTable := #[], attributes := #[] }
def k3m1 : Method := { name := "value", desc := "()I", sig := { parameters := [], returnType := some .int }, accessFlags := 1, code := some k3c1 }
def k3c2 : Code := { maxStack := 6, maxLocals := 4, code := prog_52_method_3_code, exceptionTable := #[], attributes := #[] }
def k3m2 : Method := { name := "slide", desc := "(III)V", sig := { parameters := [.int, .int, .int], returnType := none }, accessFlags := 1, code := some k3c2 }
/-- com/example/slidewise/slidewise/search/ManhattanTracker -/
def k3 : Class := { plain "com/example/slidewise/slidewise/search/ManhattanTracker" (some 0) with
  accessFlags := 48
  interfaces := #[2]
  cf := some (fileOf pool3 8 #[] #[{ accessFlags := 0, nameIndex := 5, descriptorIndex := 28, attributes := #[] }, { accessFlags := 1, nameIndex := 25, descriptorIndex := 34, attributes := #[] }, { accessFlags := 1, nameIndex := 35, descriptorIndex := 36, attributes := #[] }] 48 2 #[26] #[{ accessFlags := 18, nameIndex := 11, descriptorIndex := 12, attributes := #[] }, { accessFlags := 18, nameIndex := 15, descriptorIndex := 16, attributes := #[] }, { accessFlags := 2, nameIndex := 25, descriptorIndex := 12, attributes := #[] }])
  fields := #[{ name := "squares", type := .int, accessFlags := 18, slot := 0, constantValue := 0 }, { name := "distances", type := (.array .int), accessFlags := 18, slot := 1, constantValue := 0 }, { name := "value", type := .int, accessFlags := 2, slot := 2, constantValue := 0 }]
  methods := #[k3m0, k3m1, k3m2]
  instanceTypes := #[.int, (.array .int), .int]
  staticTypes := #[]
  resolved := Array.replicate 40 none
  statics := none }

def pool4 : Array CpInfo := pool [(1, .class_ 2), (0, u "com/example/slidewise/slidewise/model/Grid"), (0, .class_ 4), (0, u "java/lang/Object")] 6

/-- com/example/slidewise/slidewise/model/Grid -/
def k4 : Class := { plain "com/example/slidewise/slidewise/model/Grid" (some 0) with
  accessFlags := 1537
  interfaces := #[]
  cf := some (fileOf pool4 1 #[] #[] 1537 3 #[] #[])
  fields := #[]
  methods := #[]
  instanceTypes := #[]
  staticTypes := #[]
  resolved := Array.replicate 11 none
  statics := none }

def pool5 : Array CpInfo := pool [(2, .class_ 4), (1, u "java/lang/Object"), (3, .class_ 10), (1, u "com/example/slidewise/slidewise/model/Puzzle"), (0, u "side"), (0, u "I"), (2, u "cells"), (0, u "[B"), (2, u "blank"), (24, .methodref 8 45), (0, .nameAndType 46 47), (0, u "goalCell"), (0, u "(II)I"), (4, .methodref 53 54), (0, .class_ 55), (0, .nameAndType 56 57), (0, u "java/lang/Math"), (0, u "abs"), (0, u "(I)I"), (1, .class_ 61), (1, u "com/example/slidewise/slidewise/model/Puzzle$1"), (38, u "distance"), (0, u "(III)I"), (8, .class_ 111), (0, u "com/example/slidewise/slidewise/model/Grid"), (0, u "MIN_SIDE"), (2, u "MAX_SIDE")] 40

def k5c0 : Code := { maxStack := 2, maxLocals := 2, code := prog_34_method_4_code, exceptionTable := #[], attributes := #[] }
def k5m0 : Method := { name := "goalCell", desc := "(II)I", sig := { parameters := [.int, .int], returnType := some .int }, accessFlags := 9, code := some k5c0 }
def k5c1 : Code := { maxStack := 4, maxLocals := 4, code := prog_34_method_5_code, exceptionTable := #[], attributes := #[] }
def k5m1 : Method := { name := "distance", desc := "(III)I", sig := { parameters := [.int, .int, .int], returnType := some .int }, accessFlags := 9, code := some k5c1 }
/-- com/example/slidewise/slidewise/model/Puzzle -/
def k5 : Class := { plain "com/example/slidewise/slidewise/model/Puzzle" (some 0) with
  accessFlags := 49
  interfaces := #[4]
  cf := some (fileOf pool5 8 #[.nestMembers #[59]] #[{ accessFlags := 9, nameIndex := 46, descriptorIndex := 47, attributes := #[] }, { accessFlags := 9, nameIndex := 100, descriptorIndex := 101, attributes := #[] }] 49 2 #[110] #[{ accessFlags := 25, nameIndex := 112, descriptorIndex := 12, attributes := #[] }, { accessFlags := 25, nameIndex := 115, descriptorIndex := 12, attributes := #[] }, { accessFlags := 18, nameIndex := 11, descriptorIndex := 12, attributes := #[] }, { accessFlags := 18, nameIndex := 15, descriptorIndex := 16, attributes := #[] }, { accessFlags := 18, nameIndex := 19, descriptorIndex := 12, attributes := #[] }])
  fields := #[{ name := "MIN_SIDE", type := .int, accessFlags := 25, slot := 0, constantValue := 0 }, { name := "MAX_SIDE", type := .int, accessFlags := 25, slot := 1, constantValue := 0 }, { name := "side", type := .int, accessFlags := 18, slot := 0, constantValue := 0 }, { name := "cells", type := (.array .byte), accessFlags := 18, slot := 1, constantValue := 0 }, { name := "blank", type := .int, accessFlags := 18, slot := 2, constantValue := 0 }]
  methods := #[k5m0, k5m1]
  instanceTypes := #[.int, (.array .byte), .int]
  staticTypes := #[.int, .int]
  resolved := Array.replicate 156 none
  statics := none }

def pool6 : Array CpInfo := pool [(1, .class_ 2), (0, u "java/lang/Math"), (1, .class_ 6), (1, u "java/lang/Object"), (0, u "<init>"), (0, u "()V"), (89, .class_ 100), (1, u "java/lang/Math$RandomNumberGeneratorHolder"), (23, u "abs"), (34, u "(I)I"), (12, u "negativeZeroFloatBits"), (0, u "J"), (2, u "negativeZeroDoubleBits"), (68, u "$assertionsDisabled"), (0, u "Z"), (91, u "twoToTheDoubleScaleDown"), (0, u "D"), (4, u "twoToTheDoubleScaleUp"), (9, u "E"), (3, u "PI"), (2, u "TAU"), (2, u "DEGREES_TO_RADIANS"), (0, u "RADIANS_TO_DEGREES")] 94

def k6m0 : Method := { name := "<init>", desc := "()V", sig := { parameters := [], returnType := none }, accessFlags := 2, code := none }
def k6c1 : Code := { maxStack := 1, maxLocals := 1, code := jdk_29_method_59_code, exceptionTable := #[], attributes := #[] }
def k6m1 : Method := { name := "abs", desc := "(I)I", sig := { parameters := [.int], returnType := some .int }, accessFlags := 9, code := some k6c1 }
/-- java/lang/Math -/
def k6 : Class := { plain "java/lang/Math" (some 0) with
  accessFlags := 49
  interfaces := #[]
  cf := some (fileOf pool6 1 #[.nestMembers #[98]] #[{ accessFlags := 2, nameIndex := 7, descriptorIndex := 8, attributes := #[] }, { accessFlags := 9, nameIndex := 124, descriptorIndex := 159, attributes := #[] }] 49 4 #[] #[{ accessFlags := 25, nameIndex := 354, descriptorIndex := 339, attributes := #[] }, { accessFlags := 25, nameIndex := 358, descriptorIndex := 339, attributes := #[] }, { accessFlags := 25, nameIndex := 361, descriptorIndex := 339, attributes := #[] }, { accessFlags := 26, nameIndex := 364, descriptorIndex := 339, attributes := #[] }, { accessFlags := 26, nameIndex := 365, descriptorIndex := 339, attributes := #[] }, { accessFlags := 26, nameIndex := 172, descriptorIndex := 173, attributes := #[] }, { accessFlags := 26, nameIndex := 176, descriptorIndex := 173, attributes := #[] }, { accessFlags := 8, nameIndex := 344, descriptorIndex := 339, attributes := #[] }, { accessFlags := 8, nameIndex := 338, descriptorIndex := 339, attributes := #[] }, { accessFlags := 4120, nameIndex := 245, descriptorIndex := 246, attributes := #[] }])
  fields := #[{ name := "E", type := .double, accessFlags := 25, slot := 0, constantValue := 0 }, { name := "PI", type := .double, accessFlags := 25, slot := 1, constantValue := 0 }, { name := "TAU", type := .double, accessFlags := 25, slot := 2, constantValue := 0 }, { name := "DEGREES_TO_RADIANS", type := .double, accessFlags := 26, slot := 3, constantValue := 0 }, { name := "RADIANS_TO_DEGREES", type := .double, accessFlags := 26, slot := 4, constantValue := 0 }, { name := "negativeZeroFloatBits", type := .long, accessFlags := 26, slot := 5, constantValue := 0 }, { name := "negativeZeroDoubleBits", type := .long, accessFlags := 26, slot := 6, constantValue := 0 }, { name := "twoToTheDoubleScaleUp", type := .double, accessFlags := 8, slot := 7, constantValue := 0 }, { name := "twoToTheDoubleScaleDown", type := .double, accessFlags := 8, slot := 8, constantValue := 0 }, { name := "$assertionsDisabled", type := .boolean, accessFlags := 4120, slot := 9, constantValue := 0 }]
  methods := #[k6m0, k6m1]
  instanceTypes := #[]
  staticTypes := #[.double, .double, .double, .double, .double, .long, .long, .double, .double, .boolean]
  resolved := Array.replicate 460 none
  statics := none }

def pool7 : Array CpInfo := pool [(1, u "java/lang/Cloneable"), (0, .class_ 1), (0, u "java/lang/Object"), (0, .class_ 3)] 3

/-- java/lang/Cloneable -/
def k7 : Class := { plain "java/lang/Cloneable" (some 0) with
  accessFlags := 1537
  interfaces := #[]
  cf := some (fileOf pool7 2 #[] #[] 1537 4 #[] #[])
  fields := #[]
  methods := #[]
  instanceTypes := #[]
  staticTypes := #[]
  resolved := Array.replicate 8 none
  statics := none }

def pool8 : Array CpInfo := pool [(1, u "java/io/Serializable"), (0, .class_ 1), (0, u "java/lang/Object"), (0, .class_ 3)] 3

/-- java/io/Serializable -/
def k8 : Class := { plain "java/io/Serializable" (some 0) with
  accessFlags := 1537
  interfaces := #[]
  cf := some (fileOf pool8 2 #[] #[] 1537 4 #[] #[])
  fields := #[]
  methods := #[]
  instanceTypes := #[]
  staticTypes := #[]
  resolved := Array.replicate 8 none
  statics := none }

/-- the primitive byte -/
def k9 : Class := { plain "byte" none with kind := .primitive 'B', accessFlags := 0x411 }
/-- [B -/
def k10 : Class := { plain "[B" (some 0) with kind := .array 9 .byte, interfaces := #[7, 8], accessFlags := 1041 }

/-- the primitive int -/
def k11 : Class := { plain "int" none with kind := .primitive 'I', accessFlags := 0x411 }
/-- [I -/
def k12 : Class := { plain "[I" (some 0) with kind := .array 11 .int, interfaces := #[7, 8], accessFlags := 1041 }

def heap : Heap := #[]
def classes : Array Class := #[k0, k1, k2, k3, k4, k5, k6, k7, k8, k9, k10, k11, k12]
def interned : List (Array UInt16 × Addr) := []
def slotsUsed : Nat := 0
def theMethod : MethodId := ⟨1, 4⟩
def args0 : Array Value := #[.int 5, .int 7, .int 3, .int 4]
def aboutOver (below : List Frame) : State where
  vm := { classes := classes, interned := interned.toArray }
  heap := heap
  slotsUsed := slotsUsed
  threads := #[{ frames := .invoking theMethod args0 :: below }]
def below0 : List Frame := [.native { method := ⟨0, 0⟩, args := #[] }]
def about1 : State := aboutOver below0
def p0 : Program := .bare "" "" ""
def e0 : Env := launch0.env 0 0 0
theorem w_frames : about1.frames = Frame.invoking theMethod args0 :: below0 := rfl
set_option maxRecDepth 65536 in
theorem w_args : argsFit about1.vm theMethod args0 = true := by decide +kernel
set_option maxRecDepth 65536 in
theorem w_heap : heapFits about1 = true := by decide +kernel
set_option maxRecDepth 65536 in
theorem w_runnable : about1.curStatus? = some .runnable := by decide +kernel
set_option maxRecDepth 65536 in
theorem w_alone : about1.alone = true := by decide +kernel
set_option maxRecDepth 65536 in
theorem w_named : about1.methodNamed? x = some theMethod := by decide +kernel
set_option maxRecDepth 65536 in
theorem w_hears : about1.hears theMethod below0 = true := by decide +kernel
set_option maxRecDepth 65536 in
theorem w_ripe : about1.ripe theMethod args0 below0 = true := by decide +kernel
theorem w_running : about1.status = .running := rfl
set_option maxRecDepth 65536 in
theorem w_room : about1.hasRoom e0.platform room_1 = true :=
  launch0.hasRoom_least _ room_1 (by decide +kernel) (by decide +kernel) (by decide +kernel) (by decide +kernel) (by decide +kernel) (by decide +kernel)
theorem allAtoms_all (ts : List Jvm.Cond) (a : Array Jvm.Value) (st : Jvm.State) : (allAtoms ts).before a st = ts.all (fun c => c.before a st) := by
  induction ts with
  | nil => rfl
  | cons c t ih =>
    show (Jvm.Cond.and c (allAtoms t)).before a st = _
    rw [Jvm.Cond.before_and, ih, List.all_cons]
def words1 : List Jvm.Cond := Jvm.Cond.code x code maxLocals ret :: tables_1
/-- a 'code' word, met by the world's own term for the bytes: nothing is compared byte by byte -/
theorem code_word {y : MethodName} {bytes : ByteArray} {mx : Nat} {rt : Option FieldType} {a : Array Value} {s : State} {m : MethodId} {meth : Method} {c : Code} (h1 : s.methodNamed? y = some m) (h2 : s.vm.method? m = some meth) (h3 : meth.code = some c) (h4 : c.code = bytes)
    (h5 : (c.maxLocals == mx && c.exceptionTable.isEmpty && decide (c.maxStack ≤ mostOperands) && decide (meth.sig.returnType = rt) && !meth.locks && decide (parseMethodDescriptor y.desc = some meth.sig)) = true) : (Jvm.Cond.code y bytes mx rt).before a s = true := by
  simp only [Bool.and_eq_true, beq_iff_eq, Bool.not_eq_true', decide_eq_true_eq] at h5
  obtain ⟨⟨⟨⟨⟨g1, g2⟩, g3⟩, g4⟩, g5⟩, g6⟩ := h5
  simp [Cond.before, Cond.holds, Cond.value, h1, h2, h3, h4, g1, g2, g3, g4, g5, g6]
def isCode : Jvm.Cond → Bool
  | .code _ _ _ _ => true
  | _ => false
theorem all_split {L : List Jvm.Cond} {P : Jvm.Cond → Bool} (h1 : L.all (fun c => isCode c || P c) = true) (h2 : ∀ c ∈ L.filter isCode, P c = true) : L.all P = true := by
  refine List.all_eq_true.mpr fun c hc => ?_
  have h := List.all_eq_true.mp h1 c hc
  rcases Bool.eq_false_or_eq_true (isCode c) with hi | hi
  · exact h2 c (List.mem_filter.mpr ⟨hc, hi⟩)
  · simpa [hi] using h
set_option maxRecDepth 65536 in
theorem w_c0 : (Jvm.Cond.code x code maxLocals ret).before args0 about1 = true := code_word (m := ⟨1, 4⟩) (meth := k1m4) (c := k1c4) (by decide +kernel) rfl rfl rfl (by decide +kernel)
set_option maxRecDepth 65536 in
theorem w_c1 : (Jvm.Cond.code ({ cls := "com/example/slidewise/slidewise/search/ManhattanTracker", name := "<init>", desc := "(I[B)V" } : Jvm.MethodName) prog_52_method_1_code (5 : Nat) (Option.none : Option Jvm.ClassFile.FieldType)).before args0 about1 = true := code_word (m := ⟨3, 0⟩) (meth := k3m0) (c := k3c0) (by decide +kernel) rfl rfl rfl (by decide +kernel)
set_option maxRecDepth 65536 in
theorem w_c2 : (Jvm.Cond.code ({ cls := "java/lang/Object", name := "<init>", desc := "()V" } : Jvm.MethodName) object_method_1_code (1 : Nat) (Option.none : Option Jvm.ClassFile.FieldType)).before args0 about1 = true := code_word (m := ⟨0, 0⟩) (meth := k0m0) (c := k0c0) (by decide +kernel) rfl rfl rfl (by decide +kernel)
set_option maxRecDepth 65536 in
theorem w_c3 : (Jvm.Cond.code ({ cls := "com/example/slidewise/slidewise/model/Puzzle", name := "distance", desc := "(III)I" } : Jvm.MethodName) prog_34_method_5_code (4 : Nat) (Option.some Jvm.ClassFile.FieldType.int)).before args0 about1 = true := code_word (m := ⟨5, 1⟩) (meth := k5m1) (c := k5c1) (by decide +kernel) rfl rfl rfl (by decide +kernel)
set_option maxRecDepth 65536 in
theorem w_c4 : (Jvm.Cond.code ({ cls := "com/example/slidewise/slidewise/model/Puzzle", name := "goalCell", desc := "(II)I" } : Jvm.MethodName) prog_34_method_4_code (2 : Nat) (Option.some Jvm.ClassFile.FieldType.int)).before args0 about1 = true := code_word (m := ⟨5, 0⟩) (meth := k5m0) (c := k5c0) (by decide +kernel) rfl rfl rfl (by decide +kernel)
set_option maxRecDepth 65536 in
theorem w_c5 : (Jvm.Cond.code ({ cls := "java/lang/Math", name := "abs", desc := "(I)I" } : Jvm.MethodName) jdk_29_method_59_code (1 : Nat) (Option.some Jvm.ClassFile.FieldType.int)).before args0 about1 = true := code_word (m := ⟨6, 1⟩) (meth := k6m1) (c := k6c1) (by decide +kernel) rfl rfl rfl (by decide +kernel)
set_option maxRecDepth 65536 in
theorem w_c6 : (Jvm.Cond.code ({ cls := "com/example/slidewise/slidewise/search/ManhattanTracker", name := "value", desc := "()I" } : Jvm.MethodName) prog_52_method_2_code (1 : Nat) (Option.some Jvm.ClassFile.FieldType.int)).before args0 about1 = true := code_word (m := ⟨3, 1⟩) (meth := k3m1) (c := k3c1) (by decide +kernel) rfl rfl rfl (by decide +kernel)
set_option maxRecDepth 65536 in
theorem w_c7 : (Jvm.Cond.code ({ cls := "com/example/slidewise/slidewise/search/ManhattanTrackerSlidePinLaw", name := "md", desc := "([I)I" } : Jvm.MethodName) method_3_code (1 : Nat) (Option.some Jvm.ClassFile.FieldType.int)).before args0 about1 = true := code_word (m := ⟨1, 2⟩) (meth := k1m2) (c := k1c2) (by decide +kernel) rfl rfl rfl (by decide +kernel)
set_option maxRecDepth 65536 in
theorem w_c8 : (Jvm.Cond.code ({ cls := "com/example/slidewise/slidewise/search/ManhattanTrackerSlidePinLaw", name := "d", desc := "(II)I" } : Jvm.MethodName) method_2_code (3 : Nat) (Option.some Jvm.ClassFile.FieldType.int)).before args0 about1 = true := code_word (m := ⟨1, 1⟩) (meth := k1m1) (c := k1c1) (by decide +kernel) rfl rfl rfl (by decide +kernel)
set_option maxRecDepth 65536 in
theorem w_c9 : (Jvm.Cond.code ({ cls := "com/example/slidewise/slidewise/search/ManhattanTrackerSlidePinLaw", name := "neighbor", desc := "(II)I" } : Jvm.MethodName) method_4_code (4 : Nat) (Option.some Jvm.ClassFile.FieldType.int)).before args0 about1 = true := code_word (m := ⟨1, 3⟩) (meth := k1m3) (c := k1c3) (by decide +kernel) rfl rfl rfl (by decide +kernel)
set_option maxRecDepth 65536 in
theorem w_c10 : (Jvm.Cond.code ({ cls := "com/example/slidewise/slidewise/search/ManhattanTracker", name := "slide", desc := "(III)V" } : Jvm.MethodName) prog_52_method_3_code (4 : Nat) (Option.none : Option Jvm.ClassFile.FieldType)).before args0 about1 = true := code_word (m := ⟨3, 2⟩) (meth := k3m2) (c := k3c2) (by decide +kernel) rfl rfl rfl (by decide +kernel)
def codes1 : List Jvm.Cond := [Jvm.Cond.code x code maxLocals ret, Jvm.Cond.code ({ cls := "com/example/slidewise/slidewise/search/ManhattanTracker", name := "<init>", desc := "(I[B)V" } : Jvm.MethodName) prog_52_method_1_code (5 : Nat) (Option.none : Option Jvm.ClassFile.FieldType), Jvm.Cond.code ({ cls := "java/lang/Object", name := "<init>", desc := "()V" } : Jvm.MethodName) object_method_1_code (1 : Nat) (Option.none : Option Jvm.ClassFile.FieldType), Jvm.Cond.code ({ cls := "com/example/slidewise/slidewise/model/Puzzle", name := "distance", desc := "(III)I" } : Jvm.MethodName) prog_34_method_5_code (4 : Nat) (Option.some Jvm.ClassFile.FieldType.int), Jvm.Cond.code ({ cls := "com/example/slidewise/slidewise/model/Puzzle", name := "goalCell", desc := "(II)I" } : Jvm.MethodName) prog_34_method_4_code (2 : Nat) (Option.some Jvm.ClassFile.FieldType.int), Jvm.Cond.code ({ cls := "java/lang/Math", name := "abs", desc := "(I)I" } : Jvm.MethodName) jdk_29_method_59_code (1 : Nat) (Option.some Jvm.ClassFile.FieldType.int), Jvm.Cond.code ({ cls := "com/example/slidewise/slidewise/search/ManhattanTracker", name := "value", desc := "()I" } : Jvm.MethodName) prog_52_method_2_code (1 : Nat) (Option.some Jvm.ClassFile.FieldType.int), Jvm.Cond.code ({ cls := "com/example/slidewise/slidewise/search/ManhattanTrackerSlidePinLaw", name := "md", desc := "([I)I" } : Jvm.MethodName) method_3_code (1 : Nat) (Option.some Jvm.ClassFile.FieldType.int), Jvm.Cond.code ({ cls := "com/example/slidewise/slidewise/search/ManhattanTrackerSlidePinLaw", name := "d", desc := "(II)I" } : Jvm.MethodName) method_2_code (3 : Nat) (Option.some Jvm.ClassFile.FieldType.int), Jvm.Cond.code ({ cls := "com/example/slidewise/slidewise/search/ManhattanTrackerSlidePinLaw", name := "neighbor", desc := "(II)I" } : Jvm.MethodName) method_4_code (4 : Nat) (Option.some Jvm.ClassFile.FieldType.int), Jvm.Cond.code ({ cls := "com/example/slidewise/slidewise/search/ManhattanTracker", name := "slide", desc := "(III)V" } : Jvm.MethodName) prog_52_method_3_code (4 : Nat) (Option.none : Option Jvm.ClassFile.FieldType)]
set_option maxRecDepth 65536 in
theorem codes_eq : words1.filter isCode = codes1 := rfl
theorem w_codes : ∀ c ∈ words1.filter isCode, c.before args0 about1 = true := by
  rw [codes_eq]
  intro c hc
  simp only [codes1, List.mem_cons, List.not_mem_nil, or_false] at hc
  rcases hc with rfl | rfl | rfl | rfl | rfl | rfl | rfl | rfl | rfl | rfl | rfl
  · exact w_c0
  · exact w_c1
  · exact w_c2
  · exact w_c3
  · exact w_c4
  · exact w_c5
  · exact w_c6
  · exact w_c7
  · exact w_c8
  · exact w_c9
  · exact w_c10
set_option maxRecDepth 65536 in
theorem w_t1 : (words1.take 24).all (fun c => isCode c || c.before args0 about1) = true := by decide +kernel
set_option maxRecDepth 65536 in
theorem w_t2 : ((words1.drop 24).take 24).all (fun c => isCode c || c.before args0 about1) = true := by decide +kernel
set_option maxRecDepth 65536 in
theorem w_t3 : ((words1.drop 24).drop 24).all (fun c => isCode c || c.before args0 about1) = true := by decide +kernel
theorem w_tables : (allAtoms (Jvm.Cond.code x code maxLocals ret :: tables_1)).before args0 about1 = true := by
  rw [allAtoms_all]
  show words1.all (fun c => c.before args0 about1) = true
  refine all_split ?_ w_codes
  rw [← List.take_append_drop 24 words1, List.all_append, w_t1, ← List.take_append_drop 24 (words1.drop 24), List.all_append, w_t2, w_t3]
  rfl
set_option maxRecDepth 65536 in
theorem w_case : (Jvm.Cond.and given_1 narrow_1).before args0 about1 = true := by decide +kernel
theorem w_applies : (headSpec (Jvm.Cond.code x code maxLocals ret :: tables_1) room_1).applies x e0.platform about1 = true :=
  (Spec.applies_iff w_frames).mpr ⟨w_running, w_runnable, w_alone, w_named, w_hears, w_ripe, w_room, w_tables⟩
theorem atStart : AtStart classFile x code maxLocals ret World_1 tables_1 room_1 Calls_1 rest_1 Pre_1 launch0 p0 e0 about1 theMethod args0 below0 :=
  ⟨lists_1, trivial, launch0.admits_env _ _ _, launch0.least_env, fairChoices_fair.cas, fairChoices_fair.clock, w_frames, w_args, w_heap, w_applies, trivial, trivial, w_case⟩
end start1
theorem witness_1 : WitnessClaimed_1 := ⟨start1.p0, start1.e0, start1.about1, start1.theMethod, start1.args0, start1.below0, start1.atStart⟩
end Jvm.Pilot.@@N@@
