import JvmDerived
import JvmDerived.Pilot.@@N@@Statement
import JvmDerived.Pilot.@@N@@Code
set_option linter.unusedVariables false
set_option linter.unusedSimpArgs false
namespace Jvm.RoadKit
open Sem ClassFile Op Lib Jvm.Stand Jvm.Free Jvm.LawKit
section New
variable {p : Program} {l : Launch} {e : Env} {R : Room} {s : State} {m : MethodId} {args : Array Value} {below : List Frame} {meth : Method} {c : Code} {T : State} {locs : List Loc} {cells slots : Nat}
theorem retI (X : Stand p l e R s m args below meth c T locs cells slots) (hx : p.tables.exec = Jvm.exec) {pc : Nat} {Ls : Array Slot} {z : Int32} {rest : List Value} (hret : meth.sig.returnType = some .int) (hd : decode c.code pc = .ok (.ireturn, 1)) {fs : List Frame}
    (hl : ∀ (f : JFrame) (acts : List Action), f.method = m → f.locked = none → f.entered = [] → (doReturn e (T.setTop f) acts (some (.int z))).1 = T.setFrames fs) : Steps p.tables e below (T.setTop (mkF m pc Ls (.int z :: rest))) (T.setFrames fs) := by
  have hm' : T.vm.method? m = some meth := X.method'
  have hn : narrow .int (.int z) = .int z := rfl
  show Steps p.tables e below (T.setTop { method := m, pc := pc, locals := Ls, stack := _ :: rest, locked := none }) _
  jvm_step X.here [X.here.top, hx, hd, hm', hret, hn]
  first | (intro acts; rw [hl _ acts rfl rfl rfl]) | rw [hl _ _ rfl rfl rfl]
  exact Steps.refl _
theorem retD (X : Stand p l e R s m args below meth c T locs cells slots) (hx : p.tables.exec = Jvm.exec) {pc : Nat} {Ls : Array Slot} {z : UInt64} {rest : List Value} (hret : meth.sig.returnType = some .double) (hd : decode c.code pc = .ok (.dreturn, 1)) {fs : List Frame}
    (hl : ∀ (f : JFrame) (acts : List Action), f.method = m → f.locked = none → f.entered = [] → (doReturn e (T.setTop f) acts (some (.double z))).1 = T.setFrames fs) : Steps p.tables e below (T.setTop (mkF m pc Ls (.double z :: rest))) (T.setFrames fs) := by
  have hm' : T.vm.method? m = some meth := X.method'
  show Steps p.tables e below (T.setTop { method := m, pc := pc, locals := Ls, stack := _ :: rest, locked := none }) _
  jvm_step X.here [X.here.top, hx, hd, hm', hret]
  first | (intro acts; rw [hl _ acts rfl rfl rfl]) | rw [hl _ _ rfl rfl rfl]
  exact Steps.refl _
end New
end Jvm.RoadKit
namespace Jvm.Pilot.@@N@@
section OwnSteps
open Jvm Jvm.ClassFile Sem Op Lib Jvm.Free Jvm.Stand
open Jvm.RoadKit (lcmpW)
theorem own_f_iload {tb : Tables} [Ours tb] {e : Env} {below : List Frame} {T target : State} {m : MethodId} {c : Code} {Ls : Array Slot} {S : List Value} {pc pc' : Nat} {k : Nat} {v : Int32} (h : At T m c below) (hx : tb.exec = Jvm.exec) (hd : decode c.code pc = .ok (.iload k, 2)) (hl : Ls[k]? = some (.val (.int v))) (hp : pc + 2 = pc') (hr : Steps tb e below (T.setTop (mkF m pc' Ls (.int v :: S))) target) : Steps tb e below (T.setTop (mkF m pc Ls (S))) target := by subst hp; exact XS.iload h hx rfl hd hl hr
theorem own_f_iloadN {tb : Tables} [Ours tb] {e : Env} {below : List Frame} {T target : State} {m : MethodId} {c : Code} {Ls : Array Slot} {S : List Value} {pc pc' : Nat} {k : Fin 4} {v : Int32} (h : At T m c below) (hx : tb.exec = Jvm.exec) (hd : decode c.code pc = .ok (.iload_n k, 1)) (hl : Ls[k.val]? = some (.val (.int v))) (hp : pc + 1 = pc') (hr : Steps tb e below (T.setTop (mkF m pc' Ls (.int v :: S))) target) : Steps tb e below (T.setTop (mkF m pc Ls (S))) target := by subst hp; exact XS.iloadN h hx rfl hd hl hr
theorem own_f_istore {tb : Tables} [Ours tb] {e : Env} {below : List Frame} {T target : State} {m : MethodId} {c : Code} {Ls : Array Slot} {S : List Value} {pc pc' : Nat} {k : Nat} {v : Int32} {Ls' : Array Slot} (h : At T m c below) (hx : tb.exec = Jvm.exec) (hd : decode c.code pc = .ok (.istore k, 2)) (hl : storeLocals Ls k (.int v) = some Ls') (hp : pc + 2 = pc') (hr : Steps tb e below (T.setTop (mkF m pc' Ls' (S))) target) : Steps tb e below (T.setTop (mkF m pc Ls (.int v :: S))) target := by subst hp; exact XS.istore h hx rfl hd rfl hl hr
theorem own_f_istoreN {tb : Tables} [Ours tb] {e : Env} {below : List Frame} {T target : State} {m : MethodId} {c : Code} {Ls : Array Slot} {S : List Value} {pc pc' : Nat} {k : Fin 4} {v : Int32} {Ls' : Array Slot} (h : At T m c below) (hx : tb.exec = Jvm.exec) (hd : decode c.code pc = .ok (.istore_n k, 1)) (hl : storeLocals Ls k.val (.int v) = some Ls') (hp : pc + 1 = pc') (hr : Steps tb e below (T.setTop (mkF m pc' Ls' (S))) target) : Steps tb e below (T.setTop (mkF m pc Ls (.int v :: S))) target := by subst hp; exact XS.istoreN h hx rfl hd rfl hl hr
theorem own_f_lload {tb : Tables} [Ours tb] {e : Env} {below : List Frame} {T target : State} {m : MethodId} {c : Code} {Ls : Array Slot} {S : List Value} {pc pc' : Nat} {k : Nat} {v : Int64} (h : At T m c below) (hx : tb.exec = Jvm.exec) (hd : decode c.code pc = .ok (.lload k, 2)) (hl : Ls[k]? = some (.val (.long v))) (hp : pc + 2 = pc') (hr : Steps tb e below (T.setTop (mkF m pc' Ls (.long v :: S))) target) : Steps tb e below (T.setTop (mkF m pc Ls (S))) target := by subst hp; exact XS.lload h hx rfl hd hl hr
theorem own_f_lloadN {tb : Tables} [Ours tb] {e : Env} {below : List Frame} {T target : State} {m : MethodId} {c : Code} {Ls : Array Slot} {S : List Value} {pc pc' : Nat} {k : Fin 4} {v : Int64} (h : At T m c below) (hx : tb.exec = Jvm.exec) (hd : decode c.code pc = .ok (.lload_n k, 1)) (hl : Ls[k.val]? = some (.val (.long v))) (hp : pc + 1 = pc') (hr : Steps tb e below (T.setTop (mkF m pc' Ls (.long v :: S))) target) : Steps tb e below (T.setTop (mkF m pc Ls (S))) target := by subst hp; exact XS.lloadN h hx rfl hd hl hr
theorem own_f_lstore {tb : Tables} [Ours tb] {e : Env} {below : List Frame} {T target : State} {m : MethodId} {c : Code} {Ls : Array Slot} {S : List Value} {pc pc' : Nat} {k : Nat} {v : Int64} {Ls' : Array Slot} (h : At T m c below) (hx : tb.exec = Jvm.exec) (hd : decode c.code pc = .ok (.lstore k, 2)) (hl : storeLocals Ls k (.long v) = some Ls') (hp : pc + 2 = pc') (hr : Steps tb e below (T.setTop (mkF m pc' Ls' (S))) target) : Steps tb e below (T.setTop (mkF m pc Ls (.long v :: S))) target := by subst hp; exact XS.lstore h hx rfl hd rfl hl hr
theorem own_f_lstoreN {tb : Tables} [Ours tb] {e : Env} {below : List Frame} {T target : State} {m : MethodId} {c : Code} {Ls : Array Slot} {S : List Value} {pc pc' : Nat} {k : Fin 4} {v : Int64} {Ls' : Array Slot} (h : At T m c below) (hx : tb.exec = Jvm.exec) (hd : decode c.code pc = .ok (.lstore_n k, 1)) (hl : storeLocals Ls k.val (.long v) = some Ls') (hp : pc + 1 = pc') (hr : Steps tb e below (T.setTop (mkF m pc' Ls' (S))) target) : Steps tb e below (T.setTop (mkF m pc Ls (.long v :: S))) target := by subst hp; exact XS.lstoreN h hx rfl hd rfl hl hr
theorem own_f_dload {tb : Tables} [Ours tb] {e : Env} {below : List Frame} {T target : State} {m : MethodId} {c : Code} {Ls : Array Slot} {S : List Value} {pc pc' : Nat} {k : Nat} {v : UInt64} (h : At T m c below) (hx : tb.exec = Jvm.exec) (hd : decode c.code pc = .ok (.dload k, 2)) (hl : Ls[k]? = some (.val (.double v))) (hp : pc + 2 = pc') (hr : Steps tb e below (T.setTop (mkF m pc' Ls (.double v :: S))) target) : Steps tb e below (T.setTop (mkF m pc Ls (S))) target := by subst hp; exact XS.dload h hx rfl hd hl hr
theorem own_f_dloadN {tb : Tables} [Ours tb] {e : Env} {below : List Frame} {T target : State} {m : MethodId} {c : Code} {Ls : Array Slot} {S : List Value} {pc pc' : Nat} {k : Fin 4} {v : UInt64} (h : At T m c below) (hx : tb.exec = Jvm.exec) (hd : decode c.code pc = .ok (.dload_n k, 1)) (hl : Ls[k.val]? = some (.val (.double v))) (hp : pc + 1 = pc') (hr : Steps tb e below (T.setTop (mkF m pc' Ls (.double v :: S))) target) : Steps tb e below (T.setTop (mkF m pc Ls (S))) target := by subst hp; exact XS.dloadN h hx rfl hd hl hr
theorem own_f_dstore {tb : Tables} [Ours tb] {e : Env} {below : List Frame} {T target : State} {m : MethodId} {c : Code} {Ls : Array Slot} {S : List Value} {pc pc' : Nat} {k : Nat} {v : UInt64} {Ls' : Array Slot} (h : At T m c below) (hx : tb.exec = Jvm.exec) (hd : decode c.code pc = .ok (.dstore k, 2)) (hl : storeLocals Ls k (.double v) = some Ls') (hp : pc + 2 = pc') (hr : Steps tb e below (T.setTop (mkF m pc' Ls' (S))) target) : Steps tb e below (T.setTop (mkF m pc Ls (.double v :: S))) target := by subst hp; exact XS.dstore h hx rfl hd rfl hl hr
theorem own_f_dstoreN {tb : Tables} [Ours tb] {e : Env} {below : List Frame} {T target : State} {m : MethodId} {c : Code} {Ls : Array Slot} {S : List Value} {pc pc' : Nat} {k : Fin 4} {v : UInt64} {Ls' : Array Slot} (h : At T m c below) (hx : tb.exec = Jvm.exec) (hd : decode c.code pc = .ok (.dstore_n k, 1)) (hl : storeLocals Ls k.val (.double v) = some Ls') (hp : pc + 1 = pc') (hr : Steps tb e below (T.setTop (mkF m pc' Ls' (S))) target) : Steps tb e below (T.setTop (mkF m pc Ls (.double v :: S))) target := by subst hp; exact XS.dstoreN h hx rfl hd rfl hl hr
theorem own_f_aload {tb : Tables} [Ours tb] {e : Env} {below : List Frame} {T target : State} {m : MethodId} {c : Code} {Ls : Array Slot} {S : List Value} {pc pc' : Nat} {k : Nat} {v : Value} (h : At T m c below) (hx : tb.exec = Jvm.exec) (hd : decode c.code pc = .ok (.aload k, 2)) (hl : Ls[k]? = some (.val v)) (hv : v.isRef = true) (hp : pc + 2 = pc') (hr : Steps tb e below (T.setTop (mkF m pc' Ls (v :: S))) target) : Steps tb e below (T.setTop (mkF m pc Ls (S))) target := by subst hp; exact XS.aload h hx rfl hd hl hv hr
theorem own_f_aloadN {tb : Tables} [Ours tb] {e : Env} {below : List Frame} {T target : State} {m : MethodId} {c : Code} {Ls : Array Slot} {S : List Value} {pc pc' : Nat} {k : Fin 4} {v : Value} (h : At T m c below) (hx : tb.exec = Jvm.exec) (hd : decode c.code pc = .ok (.aload_n k, 1)) (hl : Ls[k.val]? = some (.val v)) (hv : v.isRef = true) (hp : pc + 1 = pc') (hr : Steps tb e below (T.setTop (mkF m pc' Ls (v :: S))) target) : Steps tb e below (T.setTop (mkF m pc Ls (S))) target := by subst hp; exact XS.aloadN h hx rfl hd hl hv hr
theorem own_f_astore {tb : Tables} [Ours tb] {e : Env} {below : List Frame} {T target : State} {m : MethodId} {c : Code} {Ls : Array Slot} {S : List Value} {pc pc' : Nat} {k : Nat} {v : Value} {Ls' : Array Slot} (h : At T m c below) (hx : tb.exec = Jvm.exec) (hd : decode c.code pc = .ok (.astore k, 2)) (hv : v.isRef = true) (hl : storeLocals Ls k v = some Ls') (hp : pc + 2 = pc') (hr : Steps tb e below (T.setTop (mkF m pc' Ls' (S))) target) : Steps tb e below (T.setTop (mkF m pc Ls (v :: S))) target := by subst hp; exact XS.astore h hx rfl hd rfl hv hl hr
theorem own_f_astoreN {tb : Tables} [Ours tb] {e : Env} {below : List Frame} {T target : State} {m : MethodId} {c : Code} {Ls : Array Slot} {S : List Value} {pc pc' : Nat} {k : Fin 4} {v : Value} {Ls' : Array Slot} (h : At T m c below) (hx : tb.exec = Jvm.exec) (hd : decode c.code pc = .ok (.astore_n k, 1)) (hv : v.isRef = true) (hl : storeLocals Ls k.val v = some Ls') (hp : pc + 1 = pc') (hr : Steps tb e below (T.setTop (mkF m pc' Ls' (S))) target) : Steps tb e below (T.setTop (mkF m pc Ls (v :: S))) target := by subst hp; exact XS.astoreN h hx rfl hd rfl hv hl hr
theorem own_f_iconst {tb : Tables} [Ours tb] {e : Env} {below : List Frame} {T target : State} {m : MethodId} {c : Code} {Ls : Array Slot} {S : List Value} {pc pc' : Nat} {i : Int} {v : Int32} (h : At T m c below) (hx : tb.exec = Jvm.exec) (hd : decode c.code pc = .ok (.iconst i, 1)) (hv : Int32.ofInt i = v) (hp : pc + 1 = pc') (hr : Steps tb e below (T.setTop (mkF m pc' Ls (.int v :: S))) target) : Steps tb e below (T.setTop (mkF m pc Ls (S))) target := by subst hp; exact XS.iconst h hx rfl hd (hv ▸ hr)
theorem own_f_bipush {tb : Tables} [Ours tb] {e : Env} {below : List Frame} {T target : State} {m : MethodId} {c : Code} {Ls : Array Slot} {S : List Value} {pc pc' : Nat} {i : Int} {v : Int32} (h : At T m c below) (hx : tb.exec = Jvm.exec) (hd : decode c.code pc = .ok (.bipush i, 2)) (hv : (Int8.ofInt i).toInt32 = v) (hp : pc + 2 = pc') (hr : Steps tb e below (T.setTop (mkF m pc' Ls (.int v :: S))) target) : Steps tb e below (T.setTop (mkF m pc Ls (S))) target := by subst hp; exact XS.bipush h hx rfl hd (hv ▸ hr)
theorem own_f_sipush {tb : Tables} [Ours tb] {e : Env} {below : List Frame} {T target : State} {m : MethodId} {c : Code} {Ls : Array Slot} {S : List Value} {pc pc' : Nat} {i : Int} {v : Int32} (h : At T m c below) (hx : tb.exec = Jvm.exec) (hd : decode c.code pc = .ok (.sipush i, 3)) (hv : (Int16.ofInt i).toInt32 = v) (hp : pc + 3 = pc') (hr : Steps tb e below (T.setTop (mkF m pc' Ls (.int v :: S))) target) : Steps tb e below (T.setTop (mkF m pc Ls (S))) target := by subst hp; exact XS.sipush h hx rfl hd (hv ▸ hr)
theorem own_f_lconst {tb : Tables} [Ours tb] {e : Env} {below : List Frame} {T target : State} {m : MethodId} {c : Code} {Ls : Array Slot} {S : List Value} {pc pc' : Nat} {k : Fin 2} {v : Int64} (h : At T m c below) (hx : tb.exec = Jvm.exec) (hd : decode c.code pc = .ok (.lconst k, 1)) (hv : Int64.ofNat k = v) (hp : pc + 1 = pc') (hr : Steps tb e below (T.setTop (mkF m pc' Ls (.long v :: S))) target) : Steps tb e below (T.setTop (mkF m pc Ls (S))) target := by subst hp; exact XS.lconst h hx rfl hd (hv ▸ hr)
theorem own_f_dconst0 {tb : Tables} [Ours tb] {e : Env} {below : List Frame} {T target : State} {m : MethodId} {c : Code} {Ls : Array Slot} {S : List Value} {pc pc' : Nat} {v : UInt64} (h : At T m c below) (hx : tb.exec = Jvm.exec) (hd : decode c.code pc = .ok (.dconst 0, 1)) (hv : FP.dconst0 = v) (hp : pc + 1 = pc') (hr : Steps tb e below (T.setTop (mkF m pc' Ls (.double v :: S))) target) : Steps tb e below (T.setTop (mkF m pc Ls (S))) target := by subst hp; exact XS.dconst0 h hx rfl hd hv hr
theorem own_f_dconst1 {tb : Tables} [Ours tb] {e : Env} {below : List Frame} {T target : State} {m : MethodId} {c : Code} {Ls : Array Slot} {S : List Value} {pc pc' : Nat} {v : UInt64} (h : At T m c below) (hx : tb.exec = Jvm.exec) (hd : decode c.code pc = .ok (.dconst 1, 1)) (hv : FP.dconst1 = v) (hp : pc + 1 = pc') (hr : Steps tb e below (T.setTop (mkF m pc' Ls (.double v :: S))) target) : Steps tb e below (T.setTop (mkF m pc Ls (S))) target := by subst hp; exact XS.dconst1 h hx rfl hd hv hr
theorem own_f_aconstNull {tb : Tables} [Ours tb] {e : Env} {below : List Frame} {T target : State} {m : MethodId} {c : Code} {Ls : Array Slot} {S : List Value} {pc pc' : Nat}  (h : At T m c below) (hx : tb.exec = Jvm.exec) (hd : decode c.code pc = .ok (.aconst_null, 1)) (hp : pc + 1 = pc') (hr : Steps tb e below (T.setTop (mkF m pc' Ls (.null :: S))) target) : Steps tb e below (T.setTop (mkF m pc Ls (S))) target := by subst hp; exact XS.aconstNull h hx rfl hd hr
theorem own_f_iadd {tb : Tables} [Ours tb] {e : Env} {below : List Frame} {T target : State} {m : MethodId} {c : Code} {Ls : Array Slot} {S : List Value} {pc pc' : Nat} {x y v : Int32} (h : At T m c below) (hx : tb.exec = Jvm.exec) (hd : decode c.code pc = .ok (.iadd, 1)) (hv : x + y = v) (hp : pc + 1 = pc') (hr : Steps tb e below (T.setTop (mkF m pc' Ls (.int v :: S))) target) : Steps tb e below (T.setTop (mkF m pc Ls (.int y :: .int x :: S))) target := by subst hp; exact XS.iadd h hx rfl hd rfl (hv ▸ hr)
theorem own_f_ladd {tb : Tables} [Ours tb] {e : Env} {below : List Frame} {T target : State} {m : MethodId} {c : Code} {Ls : Array Slot} {S : List Value} {pc pc' : Nat} {x y v : Int64} (h : At T m c below) (hx : tb.exec = Jvm.exec) (hd : decode c.code pc = .ok (.ladd, 1)) (hv : x + y = v) (hp : pc + 1 = pc') (hr : Steps tb e below (T.setTop (mkF m pc' Ls (.long v :: S))) target) : Steps tb e below (T.setTop (mkF m pc Ls (.long y :: .long x :: S))) target := by subst hp; exact XS.ladd h hx rfl hd rfl (hv ▸ hr)
theorem own_f_isub {tb : Tables} [Ours tb] {e : Env} {below : List Frame} {T target : State} {m : MethodId} {c : Code} {Ls : Array Slot} {S : List Value} {pc pc' : Nat} {x y v : Int32} (h : At T m c below) (hx : tb.exec = Jvm.exec) (hd : decode c.code pc = .ok (.isub, 1)) (hv : x - y = v) (hp : pc + 1 = pc') (hr : Steps tb e below (T.setTop (mkF m pc' Ls (.int v :: S))) target) : Steps tb e below (T.setTop (mkF m pc Ls (.int y :: .int x :: S))) target := by subst hp; exact XS.isub h hx rfl hd rfl (hv ▸ hr)
theorem own_f_lsub {tb : Tables} [Ours tb] {e : Env} {below : List Frame} {T target : State} {m : MethodId} {c : Code} {Ls : Array Slot} {S : List Value} {pc pc' : Nat} {x y v : Int64} (h : At T m c below) (hx : tb.exec = Jvm.exec) (hd : decode c.code pc = .ok (.lsub, 1)) (hv : x - y = v) (hp : pc + 1 = pc') (hr : Steps tb e below (T.setTop (mkF m pc' Ls (.long v :: S))) target) : Steps tb e below (T.setTop (mkF m pc Ls (.long y :: .long x :: S))) target := by subst hp; exact XS.lsub h hx rfl hd rfl (hv ▸ hr)
theorem own_f_imul {tb : Tables} [Ours tb] {e : Env} {below : List Frame} {T target : State} {m : MethodId} {c : Code} {Ls : Array Slot} {S : List Value} {pc pc' : Nat} {x y v : Int32} (h : At T m c below) (hx : tb.exec = Jvm.exec) (hd : decode c.code pc = .ok (.imul, 1)) (hv : x * y = v) (hp : pc + 1 = pc') (hr : Steps tb e below (T.setTop (mkF m pc' Ls (.int v :: S))) target) : Steps tb e below (T.setTop (mkF m pc Ls (.int y :: .int x :: S))) target := by subst hp; exact XS.imul h hx rfl hd rfl (hv ▸ hr)
theorem own_f_lmul {tb : Tables} [Ours tb] {e : Env} {below : List Frame} {T target : State} {m : MethodId} {c : Code} {Ls : Array Slot} {S : List Value} {pc pc' : Nat} {x y v : Int64} (h : At T m c below) (hx : tb.exec = Jvm.exec) (hd : decode c.code pc = .ok (.lmul, 1)) (hv : x * y = v) (hp : pc + 1 = pc') (hr : Steps tb e below (T.setTop (mkF m pc' Ls (.long v :: S))) target) : Steps tb e below (T.setTop (mkF m pc Ls (.long y :: .long x :: S))) target := by subst hp; exact XS.lmul h hx rfl hd rfl (hv ▸ hr)
theorem own_f_iand {tb : Tables} [Ours tb] {e : Env} {below : List Frame} {T target : State} {m : MethodId} {c : Code} {Ls : Array Slot} {S : List Value} {pc pc' : Nat} {x y v : Int32} (h : At T m c below) (hx : tb.exec = Jvm.exec) (hd : decode c.code pc = .ok (.iand, 1)) (hv : x &&& y = v) (hp : pc + 1 = pc') (hr : Steps tb e below (T.setTop (mkF m pc' Ls (.int v :: S))) target) : Steps tb e below (T.setTop (mkF m pc Ls (.int y :: .int x :: S))) target := by subst hp; exact XS.iand h hx rfl hd rfl (hv ▸ hr)
theorem own_f_land {tb : Tables} [Ours tb] {e : Env} {below : List Frame} {T target : State} {m : MethodId} {c : Code} {Ls : Array Slot} {S : List Value} {pc pc' : Nat} {x y v : Int64} (h : At T m c below) (hx : tb.exec = Jvm.exec) (hd : decode c.code pc = .ok (.land, 1)) (hv : x &&& y = v) (hp : pc + 1 = pc') (hr : Steps tb e below (T.setTop (mkF m pc' Ls (.long v :: S))) target) : Steps tb e below (T.setTop (mkF m pc Ls (.long y :: .long x :: S))) target := by subst hp; exact XS.land h hx rfl hd rfl (hv ▸ hr)
theorem own_f_ior {tb : Tables} [Ours tb] {e : Env} {below : List Frame} {T target : State} {m : MethodId} {c : Code} {Ls : Array Slot} {S : List Value} {pc pc' : Nat} {x y v : Int32} (h : At T m c below) (hx : tb.exec = Jvm.exec) (hd : decode c.code pc = .ok (.ior, 1)) (hv : x ||| y = v) (hp : pc + 1 = pc') (hr : Steps tb e below (T.setTop (mkF m pc' Ls (.int v :: S))) target) : Steps tb e below (T.setTop (mkF m pc Ls (.int y :: .int x :: S))) target := by subst hp; exact XS.ior h hx rfl hd rfl (hv ▸ hr)
theorem own_f_lor {tb : Tables} [Ours tb] {e : Env} {below : List Frame} {T target : State} {m : MethodId} {c : Code} {Ls : Array Slot} {S : List Value} {pc pc' : Nat} {x y v : Int64} (h : At T m c below) (hx : tb.exec = Jvm.exec) (hd : decode c.code pc = .ok (.lor, 1)) (hv : x ||| y = v) (hp : pc + 1 = pc') (hr : Steps tb e below (T.setTop (mkF m pc' Ls (.long v :: S))) target) : Steps tb e below (T.setTop (mkF m pc Ls (.long y :: .long x :: S))) target := by subst hp; exact XS.lor h hx rfl hd rfl (hv ▸ hr)
theorem own_f_ixor {tb : Tables} [Ours tb] {e : Env} {below : List Frame} {T target : State} {m : MethodId} {c : Code} {Ls : Array Slot} {S : List Value} {pc pc' : Nat} {x y v : Int32} (h : At T m c below) (hx : tb.exec = Jvm.exec) (hd : decode c.code pc = .ok (.ixor, 1)) (hv : x ^^^ y = v) (hp : pc + 1 = pc') (hr : Steps tb e below (T.setTop (mkF m pc' Ls (.int v :: S))) target) : Steps tb e below (T.setTop (mkF m pc Ls (.int y :: .int x :: S))) target := by subst hp; exact XS.ixor h hx rfl hd rfl (hv ▸ hr)
theorem own_f_lxor {tb : Tables} [Ours tb] {e : Env} {below : List Frame} {T target : State} {m : MethodId} {c : Code} {Ls : Array Slot} {S : List Value} {pc pc' : Nat} {x y v : Int64} (h : At T m c below) (hx : tb.exec = Jvm.exec) (hd : decode c.code pc = .ok (.lxor, 1)) (hv : x ^^^ y = v) (hp : pc + 1 = pc') (hr : Steps tb e below (T.setTop (mkF m pc' Ls (.long v :: S))) target) : Steps tb e below (T.setTop (mkF m pc Ls (.long y :: .long x :: S))) target := by subst hp; exact XS.lxor h hx rfl hd rfl (hv ▸ hr)
theorem own_f_ishl {tb : Tables} [Ours tb] {e : Env} {below : List Frame} {T target : State} {m : MethodId} {c : Code} {Ls : Array Slot} {S : List Value} {pc pc' : Nat} {x : Int32} {y : Int32} (h : At T m c below) (hx : tb.exec = Jvm.exec) (hd : decode c.code pc = .ok (.ishl, 1)) (hp : pc + 1 = pc') (hr : Steps tb e below (T.setTop (mkF m pc' Ls (.int (x <<< (y &&& 31)) :: S))) target) : Steps tb e below (T.setTop (mkF m pc Ls (.int y :: .int x :: S))) target := by subst hp; exact XS.ishl h hx rfl hd rfl hr
theorem own_f_ishr {tb : Tables} [Ours tb] {e : Env} {below : List Frame} {T target : State} {m : MethodId} {c : Code} {Ls : Array Slot} {S : List Value} {pc pc' : Nat} {x : Int32} {y : Int32} (h : At T m c below) (hx : tb.exec = Jvm.exec) (hd : decode c.code pc = .ok (.ishr, 1)) (hp : pc + 1 = pc') (hr : Steps tb e below (T.setTop (mkF m pc' Ls (.int (x >>> (y &&& 31)) :: S))) target) : Steps tb e below (T.setTop (mkF m pc Ls (.int y :: .int x :: S))) target := by subst hp; exact XS.ishr h hx rfl hd rfl hr
theorem own_f_iushr {tb : Tables} [Ours tb] {e : Env} {below : List Frame} {T target : State} {m : MethodId} {c : Code} {Ls : Array Slot} {S : List Value} {pc pc' : Nat} {x : Int32} {y : Int32} (h : At T m c below) (hx : tb.exec = Jvm.exec) (hd : decode c.code pc = .ok (.iushr, 1)) (hp : pc + 1 = pc') (hr : Steps tb e below (T.setTop (mkF m pc' Ls (.int ((x.toUInt32 >>> (y &&& 31).toUInt32).toInt32) :: S))) target) : Steps tb e below (T.setTop (mkF m pc Ls (.int y :: .int x :: S))) target := by subst hp; exact XS.iushr h hx rfl hd rfl hr
theorem own_f_lshl {tb : Tables} [Ours tb] {e : Env} {below : List Frame} {T target : State} {m : MethodId} {c : Code} {Ls : Array Slot} {S : List Value} {pc pc' : Nat} {x : Int64} {y : Int32} (h : At T m c below) (hx : tb.exec = Jvm.exec) (hd : decode c.code pc = .ok (.lshl, 1)) (hp : pc + 1 = pc') (hr : Steps tb e below (T.setTop (mkF m pc' Ls (.long (x <<< (y &&& 0x3f).toInt64) :: S))) target) : Steps tb e below (T.setTop (mkF m pc Ls (.int y :: .long x :: S))) target := by subst hp; exact XS.lshl h hx rfl hd rfl hr
theorem own_f_lshr {tb : Tables} [Ours tb] {e : Env} {below : List Frame} {T target : State} {m : MethodId} {c : Code} {Ls : Array Slot} {S : List Value} {pc pc' : Nat} {x : Int64} {y : Int32} (h : At T m c below) (hx : tb.exec = Jvm.exec) (hd : decode c.code pc = .ok (.lshr, 1)) (hp : pc + 1 = pc') (hr : Steps tb e below (T.setTop (mkF m pc' Ls (.long (x >>> (y &&& 0x3f).toInt64) :: S))) target) : Steps tb e below (T.setTop (mkF m pc Ls (.int y :: .long x :: S))) target := by subst hp; exact XS.lshr h hx rfl hd rfl hr
theorem own_f_lushr {tb : Tables} [Ours tb] {e : Env} {below : List Frame} {T target : State} {m : MethodId} {c : Code} {Ls : Array Slot} {S : List Value} {pc pc' : Nat} {x : Int64} {y : Int32} (h : At T m c below) (hx : tb.exec = Jvm.exec) (hd : decode c.code pc = .ok (.lushr, 1)) (hp : pc + 1 = pc') (hr : Steps tb e below (T.setTop (mkF m pc' Ls (.long ((x.toUInt64 >>> (y &&& 0x3f).toInt64.toUInt64).toInt64) :: S))) target) : Steps tb e below (T.setTop (mkF m pc Ls (.int y :: .long x :: S))) target := by subst hp; exact XS.lushr h hx rfl hd rfl hr
theorem own_f_idiv {tb : Tables} [Ours tb] {e : Env} {below : List Frame} {T target : State} {m : MethodId} {c : Code} {Ls : Array Slot} {S : List Value} {pc pc' : Nat} {x y : Int32} (h : At T m c below) (hx : tb.exec = Jvm.exec) (hd : decode c.code pc = .ok (.idiv, 1)) (hy : y ≠ 0) (hp : pc + 1 = pc') (hr : Steps tb e below (T.setTop (mkF m pc' Ls (.int (x / y) :: S))) target) : Steps tb e below (T.setTop (mkF m pc Ls (.int y :: .int x :: S))) target := by subst hp; exact XS.idiv h hx rfl hd rfl hy hr
theorem own_f_irem {tb : Tables} [Ours tb] {e : Env} {below : List Frame} {T target : State} {m : MethodId} {c : Code} {Ls : Array Slot} {S : List Value} {pc pc' : Nat} {x y : Int32} (h : At T m c below) (hx : tb.exec = Jvm.exec) (hd : decode c.code pc = .ok (.irem, 1)) (hy : y ≠ 0) (hp : pc + 1 = pc') (hr : Steps tb e below (T.setTop (mkF m pc' Ls (.int (x - (x / y) * y) :: S))) target) : Steps tb e below (T.setTop (mkF m pc Ls (.int y :: .int x :: S))) target := by subst hp; exact XS.irem h hx rfl hd rfl hy hr
theorem own_f_ldiv {tb : Tables} [Ours tb] {e : Env} {below : List Frame} {T target : State} {m : MethodId} {c : Code} {Ls : Array Slot} {S : List Value} {pc pc' : Nat} {x y : Int64} (h : At T m c below) (hx : tb.exec = Jvm.exec) (hd : decode c.code pc = .ok (.ldiv, 1)) (hy : y ≠ 0) (hp : pc + 1 = pc') (hr : Steps tb e below (T.setTop (mkF m pc' Ls (.long (x / y) :: S))) target) : Steps tb e below (T.setTop (mkF m pc Ls (.long y :: .long x :: S))) target := by subst hp; exact XS.ldiv h hx rfl hd rfl hy hr
theorem own_f_lrem {tb : Tables} [Ours tb] {e : Env} {below : List Frame} {T target : State} {m : MethodId} {c : Code} {Ls : Array Slot} {S : List Value} {pc pc' : Nat} {x y : Int64} (h : At T m c below) (hx : tb.exec = Jvm.exec) (hd : decode c.code pc = .ok (.lrem, 1)) (hy : y ≠ 0) (hp : pc + 1 = pc') (hr : Steps tb e below (T.setTop (mkF m pc' Ls (.long (x - (x / y) * y) :: S))) target) : Steps tb e below (T.setTop (mkF m pc Ls (.long y :: .long x :: S))) target := by subst hp; exact XS.lrem h hx rfl hd rfl hy hr
theorem own_f_ineg {tb : Tables} [Ours tb] {e : Env} {below : List Frame} {T target : State} {m : MethodId} {c : Code} {Ls : Array Slot} {S : List Value} {pc pc' : Nat} {x : Int32} (h : At T m c below) (hx : tb.exec = Jvm.exec) (hd : decode c.code pc = .ok (.ineg, 1)) (hp : pc + 1 = pc') (hr : Steps tb e below (T.setTop (mkF m pc' Ls (.int (-x) :: S))) target) : Steps tb e below (T.setTop (mkF m pc Ls (.int x :: S))) target := by subst hp; exact XS.ineg h hx rfl hd rfl hr
theorem own_f_lneg {tb : Tables} [Ours tb] {e : Env} {below : List Frame} {T target : State} {m : MethodId} {c : Code} {Ls : Array Slot} {S : List Value} {pc pc' : Nat} {x : Int64} (h : At T m c below) (hx : tb.exec = Jvm.exec) (hd : decode c.code pc = .ok (.lneg, 1)) (hp : pc + 1 = pc') (hr : Steps tb e below (T.setTop (mkF m pc' Ls (.long (-x) :: S))) target) : Steps tb e below (T.setTop (mkF m pc Ls (.long x :: S))) target := by subst hp; exact XS.lneg h hx rfl hd rfl hr
theorem own_f_i2l {tb : Tables} [Ours tb] {e : Env} {below : List Frame} {T target : State} {m : MethodId} {c : Code} {Ls : Array Slot} {S : List Value} {pc pc' : Nat} {x : Int32} (h : At T m c below) (hx : tb.exec = Jvm.exec) (hd : decode c.code pc = .ok (.i2l, 1)) (hp : pc + 1 = pc') (hr : Steps tb e below (T.setTop (mkF m pc' Ls (.long (x.toInt64) :: S))) target) : Steps tb e below (T.setTop (mkF m pc Ls (.int x :: S))) target := by subst hp; exact XS.i2l h hx rfl hd rfl hr
theorem own_f_l2i {tb : Tables} [Ours tb] {e : Env} {below : List Frame} {T target : State} {m : MethodId} {c : Code} {Ls : Array Slot} {S : List Value} {pc pc' : Nat} {x : Int64} (h : At T m c below) (hx : tb.exec = Jvm.exec) (hd : decode c.code pc = .ok (.l2i, 1)) (hp : pc + 1 = pc') (hr : Steps tb e below (T.setTop (mkF m pc' Ls (.int (x.toInt32) :: S))) target) : Steps tb e below (T.setTop (mkF m pc Ls (.long x :: S))) target := by subst hp; exact XS.l2i h hx rfl hd rfl hr
theorem own_f_i2b {tb : Tables} [Ours tb] {e : Env} {below : List Frame} {T target : State} {m : MethodId} {c : Code} {Ls : Array Slot} {S : List Value} {pc pc' : Nat} {x : Int32} (h : At T m c below) (hx : tb.exec = Jvm.exec) (hd : decode c.code pc = .ok (.i2b, 1)) (hp : pc + 1 = pc') (hr : Steps tb e below (T.setTop (mkF m pc' Ls (.int (x.toInt8.toInt32) :: S))) target) : Steps tb e below (T.setTop (mkF m pc Ls (.int x :: S))) target := by subst hp; exact XS.i2b h hx rfl hd rfl hr
theorem own_f_i2s {tb : Tables} [Ours tb] {e : Env} {below : List Frame} {T target : State} {m : MethodId} {c : Code} {Ls : Array Slot} {S : List Value} {pc pc' : Nat} {x : Int32} (h : At T m c below) (hx : tb.exec = Jvm.exec) (hd : decode c.code pc = .ok (.i2s, 1)) (hp : pc + 1 = pc') (hr : Steps tb e below (T.setTop (mkF m pc' Ls (.int (x.toInt16.toInt32) :: S))) target) : Steps tb e below (T.setTop (mkF m pc Ls (.int x :: S))) target := by subst hp; exact XS.i2s h hx rfl hd rfl hr
theorem own_f_i2c {tb : Tables} [Ours tb] {e : Env} {below : List Frame} {T target : State} {m : MethodId} {c : Code} {Ls : Array Slot} {S : List Value} {pc pc' : Nat} {x : Int32} (h : At T m c below) (hx : tb.exec = Jvm.exec) (hd : decode c.code pc = .ok (.i2c, 1)) (hp : pc + 1 = pc') (hr : Steps tb e below (T.setTop (mkF m pc' Ls (.int (x.toUInt32.toUInt16.toUInt32.toInt32) :: S))) target) : Steps tb e below (T.setTop (mkF m pc Ls (.int x :: S))) target := by subst hp; exact XS.i2c h hx rfl hd rfl hr
theorem own_f_lcmp {tb : Tables} [Ours tb] {e : Env} {below : List Frame} {T target : State} {m : MethodId} {c : Code} {Ls : Array Slot} {S : List Value} {pc pc' : Nat} {x y : Int64} (h : At T m c below) (hx : tb.exec = Jvm.exec) (hd : decode c.code pc = .ok (.lcmp, 1)) (hp : pc + 1 = pc') (hr : Steps tb e below (T.setTop (mkF m pc' Ls (.int (lcmpW x y) :: S))) target) : Steps tb e below (T.setTop (mkF m pc Ls (.long y :: .long x :: S))) target := by subst hp; exact XS.lcmp h hx rfl hd rfl hr
theorem own_f_i2d {tb : Tables} [Ours tb] {e : Env} {below : List Frame} {T target : State} {m : MethodId} {c : Code} {Ls : Array Slot} {S : List Value} {pc pc' : Nat} {x : Int32} {v : UInt64} (h : At T m c below) (hx : tb.exec = Jvm.exec) (hd : decode c.code pc = .ok (.i2d, 1)) (hv : FP.i2d x = v) (hp : pc + 1 = pc') (hr : Steps tb e below (T.setTop (mkF m pc' Ls (.double v :: S))) target) : Steps tb e below (T.setTop (mkF m pc Ls (.int x :: S))) target := by subst hp; exact XS.i2dS h hx rfl hd rfl hv hr
theorem own_f_l2d {tb : Tables} [Ours tb] {e : Env} {below : List Frame} {T target : State} {m : MethodId} {c : Code} {Ls : Array Slot} {S : List Value} {pc pc' : Nat} {x : Int64} {v : UInt64} (h : At T m c below) (hx : tb.exec = Jvm.exec) (hd : decode c.code pc = .ok (.l2d, 1)) (hv : FP.l2d x = v) (hp : pc + 1 = pc') (hr : Steps tb e below (T.setTop (mkF m pc' Ls (.double v :: S))) target) : Steps tb e below (T.setTop (mkF m pc Ls (.long x :: S))) target := by subst hp; exact XS.l2dS h hx rfl hd rfl hv hr
theorem own_f_d2i {tb : Tables} [Ours tb] {e : Env} {below : List Frame} {T target : State} {m : MethodId} {c : Code} {Ls : Array Slot} {S : List Value} {pc pc' : Nat} {x : UInt64} {v : Int32} (h : At T m c below) (hx : tb.exec = Jvm.exec) (hd : decode c.code pc = .ok (.d2i, 1)) (hv : FP.d2i x = v) (hp : pc + 1 = pc') (hr : Steps tb e below (T.setTop (mkF m pc' Ls (.int v :: S))) target) : Steps tb e below (T.setTop (mkF m pc Ls (.double x :: S))) target := by subst hp; exact XS.d2iS h hx rfl hd rfl hv hr
theorem own_f_d2l {tb : Tables} [Ours tb] {e : Env} {below : List Frame} {T target : State} {m : MethodId} {c : Code} {Ls : Array Slot} {S : List Value} {pc pc' : Nat} {x : UInt64} {v : Int64} (h : At T m c below) (hx : tb.exec = Jvm.exec) (hd : decode c.code pc = .ok (.d2l, 1)) (hv : FP.d2l x = v) (hp : pc + 1 = pc') (hr : Steps tb e below (T.setTop (mkF m pc' Ls (.long v :: S))) target) : Steps tb e below (T.setTop (mkF m pc Ls (.double x :: S))) target := by subst hp; exact XS.d2lS h hx rfl hd rfl hv hr
theorem own_f_dneg {tb : Tables} [Ours tb] {e : Env} {below : List Frame} {T target : State} {m : MethodId} {c : Code} {Ls : Array Slot} {S : List Value} {pc pc' : Nat} {x : UInt64} {v : UInt64} (h : At T m c below) (hx : tb.exec = Jvm.exec) (hd : decode c.code pc = .ok (.dneg, 1)) (hv : FP.dneg x = v) (hp : pc + 1 = pc') (hr : Steps tb e below (T.setTop (mkF m pc' Ls (.double v :: S))) target) : Steps tb e below (T.setTop (mkF m pc Ls (.double x :: S))) target := by subst hp; exact XS.dnegS h hx rfl hd rfl hv hr
theorem own_f_dadd {tb : Tables} [Ours tb] {e : Env} {below : List Frame} {T target : State} {m : MethodId} {c : Code} {Ls : Array Slot} {S : List Value} {pc pc' : Nat} {x y v : UInt64} (h : At T m c below) (hx : tb.exec = Jvm.exec) (hd : decode c.code pc = .ok (.dadd, 1)) (hn : Jvm.Free.Fl.NoNaN64 (FP.dadd x y)) (hv : FP.dadd x y = v) (hp : pc + 1 = pc') (hr : Steps tb e below (T.setTop (mkF m pc' Ls (.double v :: S))) target) : Steps tb e below (T.setTop (mkF m pc Ls (.double y :: .double x :: S))) target := by subst hp; exact XS.daddS h hx rfl hd rfl hn hv hr
theorem own_f_dsub {tb : Tables} [Ours tb] {e : Env} {below : List Frame} {T target : State} {m : MethodId} {c : Code} {Ls : Array Slot} {S : List Value} {pc pc' : Nat} {x y v : UInt64} (h : At T m c below) (hx : tb.exec = Jvm.exec) (hd : decode c.code pc = .ok (.dsub, 1)) (hn : Jvm.Free.Fl.NoNaN64 (FP.dsub x y)) (hv : FP.dsub x y = v) (hp : pc + 1 = pc') (hr : Steps tb e below (T.setTop (mkF m pc' Ls (.double v :: S))) target) : Steps tb e below (T.setTop (mkF m pc Ls (.double y :: .double x :: S))) target := by subst hp; exact XS.dsubS h hx rfl hd rfl hn hv hr
theorem own_f_dmul {tb : Tables} [Ours tb] {e : Env} {below : List Frame} {T target : State} {m : MethodId} {c : Code} {Ls : Array Slot} {S : List Value} {pc pc' : Nat} {x y v : UInt64} (h : At T m c below) (hx : tb.exec = Jvm.exec) (hd : decode c.code pc = .ok (.dmul, 1)) (hn : Jvm.Free.Fl.NoNaN64 (FP.dmul x y)) (hv : FP.dmul x y = v) (hp : pc + 1 = pc') (hr : Steps tb e below (T.setTop (mkF m pc' Ls (.double v :: S))) target) : Steps tb e below (T.setTop (mkF m pc Ls (.double y :: .double x :: S))) target := by subst hp; exact XS.dmulS h hx rfl hd rfl hn hv hr
theorem own_f_ddiv {tb : Tables} [Ours tb] {e : Env} {below : List Frame} {T target : State} {m : MethodId} {c : Code} {Ls : Array Slot} {S : List Value} {pc pc' : Nat} {x y v : UInt64} (h : At T m c below) (hx : tb.exec = Jvm.exec) (hd : decode c.code pc = .ok (.ddiv, 1)) (hn : Jvm.Free.Fl.NoNaN64 (FP.ddiv x y)) (hv : FP.ddiv x y = v) (hp : pc + 1 = pc') (hr : Steps tb e below (T.setTop (mkF m pc' Ls (.double v :: S))) target) : Steps tb e below (T.setTop (mkF m pc Ls (.double y :: .double x :: S))) target := by subst hp; exact XS.ddivS h hx rfl hd rfl hn hv hr
theorem own_f_dcmp {tb : Tables} [Ours tb] {e : Env} {below : List Frame} {T target : State} {m : MethodId} {c : Code} {Ls : Array Slot} {S : List Value} {pc pc' : Nat} {o : CmpOp} {x y : UInt64} {v : Int32} (h : At T m c below) (hx : tb.exec = Jvm.exec) (hd : decode c.code pc = .ok (.dcmp o, 1)) (hv : cmpValue (FP.dcmp x y) o = v) (hp : pc + 1 = pc') (hr : Steps tb e below (T.setTop (mkF m pc' Ls (.int v :: S))) target) : Steps tb e below (T.setTop (mkF m pc Ls (.double y :: .double x :: S))) target := by subst hp; exact XS.dcmpS h hx rfl hd rfl hv hr
theorem own_f_iinc {tb : Tables} [Ours tb] {e : Env} {below : List Frame} {T target : State} {m : MethodId} {c : Code} {Ls : Array Slot} {S : List Value} {pc pc' : Nat} {k : Nat} {cst : Int} {x : Int32} {Ls' : Array Slot} (h : At T m c below) (hx : tb.exec = Jvm.exec) (hd : decode c.code pc = .ok (.iinc k cst, 3)) (hl : Ls[k]? = some (.val (.int x))) (hl' : storeLocals Ls k (.int (x + Int32.ofInt cst)) = some Ls') (hp : pc + 3 = pc') (hr : Steps tb e below (T.setTop (mkF m pc' Ls' (S))) target) : Steps tb e below (T.setTop (mkF m pc Ls (S))) target := by subst hp; exact XS.iinc h hx rfl hd hl hl' hr
theorem own_f_dup {tb : Tables} [Ours tb] {e : Env} {below : List Frame} {T target : State} {m : MethodId} {c : Code} {Ls : Array Slot} {S : List Value} {pc pc' : Nat} {v : Value} (h : At T m c below) (hx : tb.exec = Jvm.exec) (hd : decode c.code pc = .ok (.dup, 1)) (hc : v.category = 1) (hp : pc + 1 = pc') (hr : Steps tb e below (T.setTop (mkF m pc' Ls (v :: v :: S))) target) : Steps tb e below (T.setTop (mkF m pc Ls (v :: S))) target := by subst hp; exact XS.dup h hx rfl hd rfl hc hr
theorem own_f_dupX1 {tb : Tables} [Ours tb] {e : Env} {below : List Frame} {T target : State} {m : MethodId} {c : Code} {Ls : Array Slot} {S : List Value} {pc pc' : Nat} {x y : Value} (h : At T m c below) (hx : tb.exec = Jvm.exec) (hd : decode c.code pc = .ok (.dup_x1, 1)) (hc : x.category = 1) (hc' : y.category = 1) (hp : pc + 1 = pc') (hr : Steps tb e below (T.setTop (mkF m pc' Ls (x :: y :: x :: S))) target) : Steps tb e below (T.setTop (mkF m pc Ls (x :: y :: S))) target := by subst hp; exact XS.dupX1 h hx rfl hd rfl hc hc' hr
theorem own_f_pop {tb : Tables} [Ours tb] {e : Env} {below : List Frame} {T target : State} {m : MethodId} {c : Code} {Ls : Array Slot} {S : List Value} {pc pc' : Nat} {x : Value} (h : At T m c below) (hx : tb.exec = Jvm.exec) (hd : decode c.code pc = .ok (.pop, 1)) (hc : x.category = 1) (hp : pc + 1 = pc') (hr : Steps tb e below (T.setTop (mkF m pc' Ls (S))) target) : Steps tb e below (T.setTop (mkF m pc Ls (x :: S))) target := by subst hp; exact XS.pop h hx rfl hd rfl hc hr
theorem own_f_goto {tb : Tables} [Ours tb] {e : Env} {below : List Frame} {T target : State} {m : MethodId} {c : Code} {Ls : Array Slot} {S : List Value} {pc pc' : Nat} {o : Int} (h : At T m c below) (hx : tb.exec = Jvm.exec) (hd : decode c.code pc = .ok (.goto o, 3)) (ho : 0 ≤ (pc : Int) + o) (hp : ((pc : Int) + o).toNat = pc') (hr : Steps tb e below (T.setTop (mkF m pc' Ls S)) target) : Steps tb e below (T.setTop (mkF m pc Ls (S))) target := XS.goto h hx rfl rfl hd ho hp hr
theorem own_f_ifYes {tb : Tables} [Ours tb] {e : Env} {below : List Frame} {T target : State} {m : MethodId} {c : Code} {Ls : Array Slot} {S : List Value} {pc pc' : Nat} {o : Int} {cd : ClassFile.Cond} {x : Int32} (h : At T m c below) (hx : tb.exec = Jvm.exec) (hd : decode c.code pc = .ok (.ifCond cd o, 3)) (hc : ifCond.holds cd x = true) (ho : 0 ≤ (pc : Int) + o) (hp : ((pc : Int) + o).toNat = pc') (hr : Steps tb e below (T.setTop (mkF m pc' Ls S)) target) : Steps tb e below (T.setTop (mkF m pc Ls (.int x :: S))) target := XS.ifYes h hx rfl rfl hd rfl hc ho hp hr
theorem own_f_icmpYes {tb : Tables} [Ours tb] {e : Env} {below : List Frame} {T target : State} {m : MethodId} {c : Code} {Ls : Array Slot} {S : List Value} {pc pc' : Nat} {o : Int} {cd : ClassFile.Cond} {x y : Int32} (h : At T m c below) (hx : tb.exec = Jvm.exec) (hd : decode c.code pc = .ok (.if_icmp cd o, 3)) (hc : if_icmp.holds cd x y = true) (ho : 0 ≤ (pc : Int) + o) (hp : ((pc : Int) + o).toNat = pc') (hr : Steps tb e below (T.setTop (mkF m pc' Ls S)) target) : Steps tb e below (T.setTop (mkF m pc Ls (.int y :: .int x :: S))) target := XS.icmpYes h hx rfl rfl hd rfl hc ho hp hr
theorem own_f_ifNo {tb : Tables} [Ours tb] {e : Env} {below : List Frame} {T target : State} {m : MethodId} {c : Code} {Ls : Array Slot} {S : List Value} {pc pc' : Nat} {o : Int} {cd : ClassFile.Cond} {x : Int32} (h : At T m c below) (hx : tb.exec = Jvm.exec) (hd : decode c.code pc = .ok (.ifCond cd o, 3)) (hc : ifCond.holds cd x = false) (hp : pc + 3 = pc') (hr : Steps tb e below (T.setTop (mkF m pc' Ls (S))) target) : Steps tb e below (T.setTop (mkF m pc Ls (.int x :: S))) target := by subst hp; exact XS.ifNo h hx rfl hd rfl hc hr
theorem own_f_icmpNo {tb : Tables} [Ours tb] {e : Env} {below : List Frame} {T target : State} {m : MethodId} {c : Code} {Ls : Array Slot} {S : List Value} {pc pc' : Nat} {o : Int} {cd : ClassFile.Cond} {x y : Int32} (h : At T m c below) (hx : tb.exec = Jvm.exec) (hd : decode c.code pc = .ok (.if_icmp cd o, 3)) (hc : if_icmp.holds cd x y = false) (hp : pc + 3 = pc') (hr : Steps tb e below (T.setTop (mkF m pc' Ls (S))) target) : Steps tb e below (T.setTop (mkF m pc Ls (.int y :: .int x :: S))) target := by subst hp; exact XS.icmpNo h hx rfl hd rfl hc hr
variable {p : Program} {l : Launch} {e : Env} {R : Room} {s : State} {m : MethodId} {args : Array Value} {below : List Frame} {meth : Method} {c : Code} {T target : State} {locs : List Loc} {cells slots : Nat} {Ls : Array Slot} {S : List Value} {pc pc' : Nat} {own : String} {index : Nat}
theorem own_f_ldcInt (X : Stand p l e R s m args below meth c T locs cells slots) (hx : p.tables.exec = Jvm.exec) {v : Int32} (hown : s.vm.findClass own = some m.cls) (hc : (Jvm.Cond.constant own index v).before args s = true) (hd : decode c.code pc = .ok (.ldc index, 2)) (hp : pc + 2 = pc') (hr : Steps p.tables e below (T.setTop (mkF m pc' Ls (.int v :: S))) target) : Steps p.tables e below (T.setTop (mkF m pc Ls S)) target := by subst hp; exact X.ldcInt hx hown hc (g := mkF m pc Ls S) rfl hd _ hr
theorem own_f_ldcwInt (X : Stand p l e R s m args below meth c T locs cells slots) (hx : p.tables.exec = Jvm.exec) {v : Int32} (hown : s.vm.findClass own = some m.cls) (hc : (Jvm.Cond.constant own index v).before args s = true) (hd : decode c.code pc = .ok (.ldc_w index, 3)) (hp : pc + 3 = pc') (hr : Steps p.tables e below (T.setTop (mkF m pc' Ls (.int v :: S))) target) : Steps p.tables e below (T.setTop (mkF m pc Ls S)) target := by subst hp; exact X.ldcwInt hx hown hc (g := mkF m pc Ls S) rfl hd _ hr
theorem own_f_ldc2Long (X : Stand p l e R s m args below meth c T locs cells slots) (hx : p.tables.exec = Jvm.exec) {v : Int64} (hown : s.vm.findClass own = some m.cls) (hc : (Jvm.Cond.constantLong own index v).before args s = true) (hd : decode c.code pc = .ok (.ldc2_w index, 3)) (hp : pc + 3 = pc') (hr : Steps p.tables e below (T.setTop (mkF m pc' Ls (.long v :: S))) target) : Steps p.tables e below (T.setTop (mkF m pc Ls S)) target := by subst hp; exact X.ldc2Long hx hown hc (g := mkF m pc Ls S) rfl hd _ hr
theorem own_f_ldc2DoubleC (X : Stand p l e R s m args below meth c T locs cells slots) (hx : p.tables.exec = Jvm.exec) {v : UInt64} (hown : s.vm.findClass own = some m.cls) (hc : (Jvm.Cond.constantDouble own index v).before args s = true) (hd : decode c.code pc = .ok (.ldc2_w index, 3)) (hp : pc + 3 = pc') (hr : Steps p.tables e below (T.setTop (mkF m pc' Ls (.double v :: S))) target) : Steps p.tables e below (T.setTop (mkF m pc Ls S)) target := by subst hp; exact X.ldc2DoubleC hx hown hc (g := mkF m pc Ls S) rfl hd _ hr
end OwnSteps
section OwnFloat
open Jvm.FP.Core
/-! a double as n * 2^(j - 1074) -/
def own_Rep (x : UInt64) (n : Int) (j : Nat) : Prop := DFin x ∧ zval b64 (val64 x) = n * ((2 ^ j : Nat) : Int)
theorem own_cancel {P Q u v : Nat} (h : P * 2 ^ u = Q * 2 ^ v) : P * 2 ^ (u - v) = Q * 2 ^ (v - u) := by
  rcases Nat.le_total u v with q | q
  · obtain ⟨d, rfl⟩ := Nat.exists_eq_add_of_le q
    rw [show u - (u + d) = 0 by omega, show u + d - u = d by omega]
    refine Nat.eq_of_mul_eq_mul_right (Nat.two_pow_pos u) ?_
    rw [Nat.pow_zero, Nat.mul_one, h, Nat.pow_add]; ac_rfl
  · obtain ⟨d, rfl⟩ := Nat.exists_eq_add_of_le q
    rw [show v - (v + d) = 0 by omega, show v + d - v = d by omega]
    refine Nat.eq_of_mul_eq_mul_right (Nat.two_pow_pos v) ?_
    rw [Nat.pow_zero, Nat.mul_one, ← h, Nat.pow_add]; ac_rfl
theorem own_qmax : b64.qmax = 971 := by decide
theorem own_natAbs_pow (n : Int) (j : Nat) : (n * ((2 ^ j : Nat) : Int)).natAbs = n.natAbs * 2 ^ j := by
  rw [Int.natAbs_mul, Int.natAbs_natCast]
theorem own_rr_exact {s : Bool} {A B M j u v : Nat} {e : Int} (hB : 0 < B) (hM : M < 2 ^ 53) (hj : j ≤ 2045) (h : A * 2 ^ u = M * B * 2 ^ v) (hu : (u : Int) - v = e - ((j : Int) - 1074)) :
    ∃ c q, roundRatio b64 s A B e = .fin s c q ∧ inUnits c q b64.qmin = M * 2 ^ j := by
  have h1 := own_cancel h
  rw [roundRatio_congr (A' := M) (B' := 1) (e' := (j : Int) - 1074) hB (by decide) (by rw [Nat.mul_one, show (e - ((j : Int) - 1074)).toNat = u - v by omega, show (((j : Int) - 1074) - e).toNat = v - u by omega]; exact h1)]
  have hp : b64.p = 53 := rfl
  obtain ⟨c, q, h3, h4⟩ := round_exact good_b64 s (c := M) (q := (j : Int) - 1074) (by rw [hp]; exact hM) (by rw [qmin_b64]; omega) (by rw [own_qmax]; omega)
  refine ⟨c, q, h3, ?_⟩
  rw [h4]; unfold inUnits; rw [qmin_b64, show ((j : Int) - 1074 - -1074).toNat = j by omega]
theorem own_round {z : UInt64} {sg : Bool} {N : Nat} {e n : Int} {j : Nat} (hv : val64 z = round b64 (.fin sg N e)) (h2 : b64.qmin ≤ e) (hs : n.natAbs < 2 ^ 53) (hj : j ≤ 2045)
    (h3 : signed sg (inUnits N e b64.qmin) = n * ((2 ^ j : Nat) : Int)) : own_Rep z n j := by
  have h4 : inUnits N e b64.qmin = n.natAbs * 2 ^ j := by
    have := congrArg Int.natAbs h3
    rwa [natAbs_signed, own_natAbs_pow] at this
  rw [qmin_b64] at h2
  have h5 : N * 2 ^ (e + 1074).toNat = n.natAbs * 1 * 2 ^ j := by
    rw [Nat.mul_one, ← h4]; unfold inUnits; rw [qmin_b64, show (e - -1074).toNat = (e + 1074).toNat by omega]
  obtain ⟨c, q, h6, h7⟩ := own_rr_exact (s := sg) (A := N) (B := 1) (e := e) (by decide) hs hj h5 (by omega)
  have h8 : val64 z = .fin sg c q := hv.trans h6
  refine ⟨⟨sg, c, q, h8⟩, ?_⟩
  rw [h8]
  show signed sg (inUnits c q b64.qmin) = _
  rw [h7, ← h4]; exact h3
theorem own_add {x y : UInt64} {n m : Int} {j : Nat} (hx : own_Rep x n j) (hy : own_Rep y m j) (hs : (n + m).natAbs < 2 ^ 53) (hj : j ≤ 2045) : own_Rep (dadd x y) (n + m) j := by
  obtain ⟨⟨s, c, q, ex⟩, zx⟩ := hx
  obtain ⟨⟨t, d, r, ey⟩, zy⟩ := hy
  have fx := val64_fits x; have fy := val64_fits y
  rw [ex] at fx zx; rw [ey] at fy zy
  obtain ⟨sg, N, e, h1, h2, h3⟩ := sum_units fx fy
  have hv : val64 (dadd x y) = round b64 (.fin sg N e) := by rw [val64_dadd, ex, ey, h1]
  rw [zx, zy, ← Int.add_mul] at h3
  exact own_round hv h2 hs hj h3
theorem own_sub {x y : UInt64} {n m : Int} {j : Nat} (hx : own_Rep x n j) (hy : own_Rep y m j) (hs : (n - m).natAbs < 2 ^ 53) (hj : j ≤ 2045) : own_Rep (dsub x y) (n - m) j := by
  obtain ⟨⟨s, c, q, ex⟩, zx⟩ := hx
  obtain ⟨⟨t, d, r, ey⟩, zy⟩ := hy
  have fx := val64_fits x; have fy := negate_fits (val64_fits y)
  have zy2 := zval_negate b64 (val64 y)
  rw [ex] at fx zx; rw [ey] at fy zy zy2
  rw [zy] at zy2
  obtain ⟨sg, N, e, h1, h2, h3⟩ := sum_units fx fy
  have hv : val64 (dsub x y) = round b64 (.fin sg N e) := by rw [val64_dsub, ex, ey]; exact congrArg (round b64) h1
  rw [zx, show zval b64 (.fin (!t) d r) = -(m * ((2 ^ j : Nat) : Int)) from zy2, ← Int.sub_eq_add_neg, ← Int.sub_mul] at h3
  exact own_round hv h2 hs hj h3
theorem own_zmag {x : UInt64} {n : Int} {j : Nat} (hx : own_Rep x n j) : zmag b64 (val64 x) = n.natAbs * 2 ^ j := by
  have := congrArg Int.natAbs hx.2
  rwa [zval, natAbs_signed, own_natAbs_pow] at this
theorem own_sgn {x : UInt64} {n : Int} {j : Nat} (hx : own_Rep x n j) (hn : n ≠ 0) : sgn (val64 x) = decide (n < 0) := by
  have h := hx.2
  have h0 := own_zmag hx
  unfold zval at h
  rw [h0] at h
  have hp : (0 : Int) < ((2 ^ j : Nat) : Int) := by exact_mod_cast Nat.two_pow_pos j
  have hq : 0 < n.natAbs * 2 ^ j := Nat.mul_pos (by omega) (Nat.two_pow_pos j)
  cases hS : sgn (val64 x)
  · rw [hS] at h
    simp only [signed, Bool.false_eq_true, if_false] at h
    have : ¬ n < 0 := fun q => by have := Int.mul_neg_of_neg_of_pos q hp; omega
    simp [this]
  · rw [hS] at h
    simp only [signed, if_true] at h
    have : n < 0 := by
      rcases (by omega : n < 0 ∨ 0 ≤ n) with q | q
      · exact q
      · have := Int.mul_nonneg q (Int.le_of_lt hp); omega
    simp [this]
theorem own_mul {x y : UInt64} {n m : Int} {j i k : Nat} (hx : own_Rep x n j) (hy : own_Rep y m i) (hk : k + 1074 = j + i) (hs : (n * m).natAbs < 2 ^ 53) (hk2 : k ≤ 2045) : own_Rep (dmul x y) (n * m) k := by
  have zx := own_zmag hx; have zy := own_zmag hy
  have sx := @own_sgn x n j hx; have sy := @own_sgn y m i hy
  obtain ⟨⟨s, c, q, ex⟩, -⟩ := hx
  obtain ⟨⟨t, d, r, ey⟩, -⟩ := hy
  have fx := val64_fits x; have fy := val64_fits y
  rw [ex] at fx zx sx; rw [ey] at fy zy sy
  obtain ⟨h1, h2, h3⟩ := product_units fx fy
  rw [zx, zy, qmin_b64] at h3
  rw [qmin_b64] at h2
  have hv : val64 (dmul x y) = roundRatio b64 (s != t) (c * d) 1 (q + r) := by rw [val64_dmul, ex, ey, h1]; rfl
  have h5 : c * d * 2 ^ (q + r + 2148).toNat = (n * m).natAbs * 1 * 2 ^ (j + i) := by
    have : inUnits (c * d) (q + r) (2 * -1074) = c * d * 2 ^ (q + r + 2148).toNat := by unfold inUnits; rw [show (q + r - 2 * -1074).toNat = (q + r + 2148).toNat by omega]
    rw [← this, h3, Int.natAbs_mul, Nat.pow_add]; ac_rfl
  obtain ⟨c', q', h6, h7⟩ := own_rr_exact (s := s != t) (B := 1) (e := q + r) (by decide) hs hk2 h5 (by omega)
  have h8 : val64 (dmul x y) = .fin (s != t) c' q' := hv.trans h6
  refine ⟨⟨_, _, _, h8⟩, ?_⟩
  rw [h8]
  show signed (s != t) (inUnits c' q' b64.qmin) = _
  rw [h7]
  by_cases hn : n = 0
  · subst hn; simp [signed]
  by_cases hm : m = 0
  · subst hm; simp [signed]
  have sx' : s = decide (n < 0) := sx hn
  have sy' : t = decide (m < 0) := sy hm
  subst sx' sy'
  rw [signed_mul]
  congr 1
  rcases Int.lt_or_gt_of_ne hn with a | a <;> rcases Int.lt_or_gt_of_ne hm with b | b
  · have := Int.mul_pos_of_neg_of_neg a b; simp only [a, b, decide_true, bne_self_eq_false, signed, Bool.false_eq_true, if_false]; omega
  · have := Int.mul_neg_of_neg_of_pos a b; have b' : ¬ m < 0 := by omega
    simp only [a, b', decide_true, decide_false, signed]; simp; omega
  · have := Int.mul_neg_of_pos_of_neg a b; have a' : ¬ n < 0 := by omega
    simp only [a', b, decide_true, decide_false, signed]; simp; omega
  · have := Int.mul_pos a b; have a' : ¬ n < 0 := by omega
    have b' : ¬ m < 0 := by omega
    simp only [a', b', decide_false, bne_self_eq_false, signed, Bool.false_eq_true, if_false]; omega
/-- the quotient, rounded once -/
theorem own_div_val {x y : UInt64} {n m : Int} {j i : Nat} (hx : own_Rep x n j) (hy : own_Rep y m i) (hm : m ≠ 0) :
    ∃ sg, val64 (ddiv x y) = roundRatio b64 sg n.natAbs m.natAbs ((j : Int) - i) ∧ (n ≠ 0 → sg = (decide (n < 0) != decide (m < 0))) := by
  have zx := own_zmag hx; have zy := own_zmag hy
  have sx := @own_sgn x n j hx; have sy := @own_sgn y m i hy
  obtain ⟨⟨s, c, q, ex⟩, -⟩ := hx
  obtain ⟨⟨t, d, r, ey⟩, -⟩ := hy
  have fx := val64_fits x; have fy := val64_fits y
  rw [ex] at fx zx sx; rw [ey] at fy zy sy
  have f1 : b64.qmin ≤ q := fx.2.1
  have f2 : b64.qmin ≤ r := fy.2.1
  rw [qmin_b64] at f1 f2
  have zx' : c * 2 ^ (q + 1074).toNat = n.natAbs * 2 ^ j := by rw [← zx]; show _ = inUnits c q b64.qmin; unfold inUnits; rw [qmin_b64, show (q - -1074).toNat = (q + 1074).toNat by omega]
  have zy' : d * 2 ^ (r + 1074).toNat = m.natAbs * 2 ^ i := by rw [← zy]; show _ = inUnits d r b64.qmin; unfold inUnits; rw [qmin_b64, show (r - -1074).toNat = (r + 1074).toNat by omega]
  have hd : d ≠ 0 := by
    rintro rfl
    rw [Nat.zero_mul] at zy'
    have := Nat.mul_pos (show 0 < m.natAbs by omega) (Nat.two_pow_pos i)
    omega
  refine ⟨s != t, ?_, fun hn => ?_⟩
  · rw [val64_ddiv, ex, ey]
    show (if d = 0 then _ else roundRatio b64 (s != t) c d (q - r)) = _
    rw [if_neg hd]
    have h1 : c * m.natAbs * 2 ^ ((q + 1074).toNat + i) = n.natAbs * d * 2 ^ ((r + 1074).toNat + j) := by
      rw [Nat.pow_add, Nat.pow_add]
      calc c * m.natAbs * (2 ^ (q + 1074).toNat * 2 ^ i) = (c * 2 ^ (q + 1074).toNat) * (m.natAbs * 2 ^ i) := by ac_rfl
        _ = (n.natAbs * 2 ^ j) * (d * 2 ^ (r + 1074).toNat) := by rw [zx', zy']
        _ = _ := by ac_rfl
    have h2 := own_cancel h1
    refine roundRatio_congr (Nat.pos_of_ne_zero hd) (by omega) ?_
    rw [show (q - r - ((j : Int) - i)).toNat = (q + 1074).toNat + i - ((r + 1074).toNat + j) by omega, show (((j : Int) - i) - (q - r)).toNat = (r + 1074).toNat + j - ((q + 1074).toNat + i) by omega]
    exact h2
  · rw [← show s = decide (n < 0) from sx hn, ← show t = decide (m < 0) from sy hm]
theorem own_signed_bne {n m : Int} (hn : n ≠ 0) (hm : m ≠ 0) {a : Int} (h : n = a * m) : signed (decide (n < 0) != decide (m < 0)) a.natAbs = a := by
  rcases Int.lt_or_gt_of_ne hn with p | p <;> rcases Int.lt_or_gt_of_ne hm with b | b
  · have : 0 ≤ a := by rcases (by omega : a < 0 ∨ 0 ≤ a) with q | q; (have := Int.mul_pos_of_neg_of_neg q b; omega); exact q
    simp only [p, b, decide_true, bne_self_eq_false, signed, Bool.false_eq_true, if_false]; omega
  · have : a < 0 := by rcases (by omega : a < 0 ∨ 0 ≤ a) with q | q; exact q; (have := Int.mul_nonneg q (Int.le_of_lt b); omega)
    have b' : ¬ m < 0 := by omega
    simp only [p, b', decide_true, decide_false, signed]; simp; omega
  · have : a < 0 := by rcases (by omega : a < 0 ∨ 0 ≤ a) with q | q; exact q; (have := Int.mul_nonpos_of_nonneg_of_nonpos q (Int.le_of_lt b); omega)
    have p' : ¬ n < 0 := by omega
    simp only [p', b, decide_true, decide_false, signed]; simp; omega
  · have : 0 ≤ a := by rcases (by omega : a < 0 ∨ 0 ≤ a) with q | q; (have := Int.mul_neg_of_neg_of_pos q b; omega); exact q
    have p' : ¬ n < 0 := by omega
    have b' : ¬ m < 0 := by omega
    simp only [p', b', decide_false, bne_self_eq_false, signed, Bool.false_eq_true, if_false]; omega
theorem own_div {x y : UInt64} {a m : Int} {j i k : Nat} (hx : own_Rep x (a * m) j) (hy : own_Rep y m i) (hm : m ≠ 0) (hk : k + i = j + 1074) (ha : a.natAbs < 2 ^ 53) (hk2 : k ≤ 2045) : own_Rep (ddiv x y) a k := by
  obtain ⟨sg, h1, h2⟩ := own_div_val hx hy hm
  have h3 : (a * m).natAbs * 2 ^ j = a.natAbs * m.natAbs * 2 ^ j := by rw [Int.natAbs_mul]
  obtain ⟨c, q, h4, h5⟩ := own_rr_exact (s := sg) (A := (a * m).natAbs) (B := m.natAbs) (e := (j : Int) - i) (M := a.natAbs) (j := k) (by omega) ha hk2 h3 (by omega)
  have h6 : val64 (ddiv x y) = .fin sg c q := h1.trans h4
  refine ⟨⟨_, _, _, h6⟩, ?_⟩
  rw [h6]
  show signed sg (inUnits c q b64.qmin) = _
  rw [h5, signed_mul]
  by_cases h0 : a = 0
  · subst h0; cases sg <;> simp [signed]
  · have hne : a * m ≠ 0 := Int.mul_ne_zero h0 hm
    rw [h2 hne, own_signed_bne hne hm rfl]
theorem own_ne_nan {x : UInt64} {n : Int} {j : Nat} (hx : own_Rep x n j) : val64 x ≠ .nan := hx.1.ne_nan
theorem own_cmp {x y : UInt64} {n m : Int} {j : Nat} (hx : own_Rep x n j) (hy : own_Rep y m j) : dcmp x y = some (compare n m) := by
  rw [dcmp_zval (own_ne_nan hx) (own_ne_nan hy), hx.2, hy.2]
  refine congrArg some ?_
  have hp : (0 : Int) < ((2 ^ j : Nat) : Int) := by exact_mod_cast Nat.two_pow_pos j
  exact compare_congr (Int.mul_lt_mul_right hp) (Int.mul_eq_mul_right_iff (by omega))
theorem own_cmp_eq {x y : UInt64} {n : Int} {j : Nat} {o : Jvm.ClassFile.CmpOp} (hx : own_Rep x n j) (hy : own_Rep y n j) : Jvm.Op.cmpValue (Jvm.FP.dcmp x y) o = (0 : Int32) := by
  rw [show Jvm.FP.dcmp x y = some .eq from (own_cmp hx hy).trans (by rw [(compare_eq_iff _ _).mpr rfl])]; rfl
theorem own_l2d {a : Int64} (h1 : -9007199254740992 < a.toInt) (h2 : a.toInt < 9007199254740992) : own_Rep (l2d a) a.toInt 1074 :=
  ⟨l2d_fin a, DInt_zval (l2d_whole ⟨h1, h2⟩)⟩
theorem own_i2d (a : Int32) : own_Rep (i2d a) a.toInt 1074 := by
  have h1 := a.le_toInt; have h2 := a.toInt_lt
  have := @own_l2d a.toInt64 (by rw [Int32.toInt_toInt64]; omega) (by rw [Int32.toInt_toInt64]; omega)
  rwa [← i2d_l2d, Int32.toInt_toInt64] at this
theorem own_shift {x : UInt64} {n : Int} {j i k : Nat} (hx : own_Rep x n j) (hk : k + i = j) : own_Rep x (n * ((2 ^ i : Nat) : Int)) k := by
  refine ⟨hx.1, ?_⟩
  rw [hx.2, ← hk, Nat.pow_add, Int.natCast_mul]; ac_rfl
theorem own_noNaN {x : UInt64} {n : Int} {j : Nat} (hx : own_Rep x n j) : Jvm.Free.Fl.NoNaN64 x := (Jvm.Free.Fl.fin64_core.mpr hx.1).noNaN
theorem own_fin {x : UInt64} {n : Int} {j : Nat} (hx : own_Rep x n j) : Jvm.Free.Fl.Fin64 x := Jvm.Free.Fl.fin64_core.mpr hx.1
/-- a rounded magnitude against a number of the format -/
theorem own_rr_ge {s : Bool} {A B v j E : Nat} {e : Int} (hB : 0 < B) (hv : v < 2 ^ 53) (hj : j ≤ 2045) (he : e + 1074 = (E : Int)) (h : v * 2 ^ j * B ≤ A * 2 ^ E) : v * 2 ^ j ≤ zmag b64 (roundRatio b64 s A B e) := by
  obtain ⟨c, q, h1, h2⟩ := own_rr_exact (s := false) (A := v) (B := 1) (M := v) (j := j) (u := 0) (v := 0) (e := (j : Int) - 1074) (by decide) hv hj (by simp) (by omega)
  have hf : Jvm.FP.Core.fits b64 (Datum.fin false c q) := h1 ▸ roundRatio_fits good_b64 false v (by decide) _
  have := zmag_roundRatio_ge good_b64 (s := s) (A := A) (B := B) (e := e) (e0 := b64.qmin) hB hf (Int.le_refl _) (by rw [qmin_b64]; omega) (by
    show inUnits c q b64.qmin * _ * B ≤ inUnits A e b64.qmin
    rw [h2, Int.sub_self]; unfold inUnits; rw [qmin_b64, show (e - -1074).toNat = E by omega]; simpa using h)
  exact h2 ▸ this
theorem own_rr_le {s : Bool} {A B v j E : Nat} {e : Int} (hB : 0 < B) (hv : v < 2 ^ 53) (hj : j ≤ 2045) (he : e + 1074 = (E : Int)) (h : A * 2 ^ E ≤ v * 2 ^ j * B) : zmag b64 (roundRatio b64 s A B e) ≤ v * 2 ^ j := by
  obtain ⟨c, q, h1, h2⟩ := own_rr_exact (s := false) (A := v) (B := 1) (M := v) (j := j) (u := 0) (v := 0) (e := (j : Int) - 1074) (by decide) hv hj (by simp) (by omega)
  have hf : Jvm.FP.Core.fits b64 (Datum.fin false c q) := h1 ▸ roundRatio_fits good_b64 false v (by decide) _
  have := zmag_roundRatio_le good_b64 (s := s) (A := A) (B := B) (e := e) (e0 := b64.qmin) hB hf Datum.noConfusion (Int.le_refl _) (by rw [qmin_b64]; omega) (by
    show inUnits A e b64.qmin ≤ inUnits c q b64.qmin * _ * B
    rw [h2, Int.sub_self]; unfold inUnits; rw [qmin_b64, show (e - -1074).toNat = E by omega]; simpa using h)
  exact h2 ▸ this
end OwnFloat
section OwnLaw
open Jvm.FP.Core Jvm.Op
theorem own_one : own_Rep 4607182418800017408 1 1074 := ⟨⟨false, 2 ^ 52, -52, val64_dconst1⟩, DInt_zval dint_one⟩
theorem own_zero : own_Rep 0 0 1074 := ⟨⟨false, 0, b64.qmin, val64_zero⟩, by rw [zval64_zero, Int.zero_mul]⟩
theorem own_unshift {x : UInt64} {n : Int} {j i : Nat} (hx : own_Rep x (n * ((2 ^ i : Nat) : Int)) j) : own_Rep x n (j + i) := by
  refine ⟨hx.1, ?_⟩
  rw [hx.2, Nat.pow_add, Int.natCast_mul]; ac_rfl
theorem own_shl1 (q : Int32) (h0 : 0 ≤ q.toInt) (h1 : q.toInt ≤ 20) : ((1 : Int64) <<< (q &&& 0x3f).toInt64).toInt = ((2 ^ q.toInt.toNat : Nat) : Int) ∧ ((1 : Int32) <<< (q &&& 31)).toInt = ((2 ^ q.toInt.toNat : Nat) : Int) := by
  have e : q.toBitVec.toNat = q.toInt.toNat := by
    have h2 : q.toInt = q.toBitVec.toInt := rfl
    rw [BitVec.toInt_eq_toNat_cond] at h2
    have h3 := q.toBitVec.isLt
    split at h2 <;> omega
  have a := Jvm.RoadKit.c_lshl 1 q q.toInt.toNat (by omega)
  have b := Jvm.RoadKit.c_ishl 1 q q.toInt.toNat (by omega)
  have c := Jvm.RoadKit.rng64 ((1 : Int64) <<< (q &&& 0x3f).toInt64)
  have d := Jvm.RoadKit.rng32 ((1 : Int32) <<< (q &&& 31))
  rw [show (1 : Int64).toInt = 1 by decide, Int.one_mul] at a
  rw [show (1 : Int32).toInt = 1 by decide, Int.one_mul] at b
  have f : 2 ^ q.toInt.toNat ≤ 2 ^ 20 := Nat.pow_le_pow_right (by decide) (by omega)
  have g := Nat.two_pow_pos q.toInt.toNat
  generalize 2 ^ q.toInt.toNat = P at *
  omega
theorem own_quot_nn {x y : UInt64} {n m : Int} {j i : Nat} (hx : own_Rep x n j) (hy : own_Rep y m i) (hm : 1 ≤ m) : Jvm.Free.Fl.NoNaN64 (Jvm.FP.ddiv x y) := by
  obtain ⟨sg, h1, -⟩ := own_div_val hx hy (by omega)
  rw [Jvm.Free.Fl.noNaN64_no]
  exact (notNaN_iff _).mpr (by rw [h1]; exact roundRatio_ne_nan _ _ _ _ _)
theorem own_quot_eq {x y x' y' : UInt64} {n m : Int} {j i J : Nat} (hx : own_Rep x n j) (hy : own_Rep y m i) (hji : j + J = i) (hi : i ≤ 1074) (hx' : own_Rep x' n 1074) (hy' : own_Rep y' (m * ((2 ^ J : Nat) : Int)) 1074) (hm : 1 ≤ m) :
    cmpValue (Jvm.FP.dcmp (Jvm.FP.ddiv x y) (Jvm.FP.ddiv x' y')) .l = (0 : Int32) ∧ Jvm.Free.Fl.NoNaN64 (Jvm.FP.ddiv x y) ∧ Jvm.Free.Fl.NoNaN64 (Jvm.FP.ddiv x' y') := by
  have hy2 := own_unshift hy'
  obtain ⟨s1, v1, w1⟩ := own_div_val hx hy (by omega)
  obtain ⟨s2, v2, w2⟩ := own_div_val hx' hy2 (by omega)
  have n1 : val64 (ddiv x y) ≠ .nan := by rw [v1]; exact roundRatio_ne_nan _ _ _ _ _
  have n2 : val64 (ddiv x' y') ≠ .nan := by rw [v2]; exact roundRatio_ne_nan _ _ _ _ _
  refine ⟨?_, by rw [Jvm.Free.Fl.noNaN64_no]; exact (notNaN_iff _).mpr n1, by rw [Jvm.Free.Fl.noNaN64_no]; exact (notNaN_iff _).mpr n2⟩
  by_cases h0 : n = 0
  · subst h0
    have a := own_div (a := 0) (m := m) (k := 1074 - J) (by rw [Int.zero_mul]; exact hx) hy (by omega) (by omega) (by decide) (by omega)
    have b := own_div (a := 0) (m := m) (k := 1074 - J) (by rw [Int.zero_mul]; exact hx') hy2 (by omega) (by omega) (by decide) (by omega)
    exact own_cmp_eq a b
  · have e1 : val64 (ddiv x y) = val64 (ddiv x' y') := by
      rw [v1, v2, w1 h0, w2 h0, show (j : Int) - (i : Int) = ((1074 : Nat) : Int) - ((1074 + J : Nat) : Int) by omega]
    rw [show Jvm.FP.dcmp (Jvm.FP.ddiv x y) (Jvm.FP.ddiv x' y') = some .eq from by
      show dcmp (ddiv x y) (ddiv x' y') = _
      rw [dcmp_zval n1 n2, e1, (compare_eq_iff _ _).mpr rfl]]
    rfl
theorem own_nn1 {p3 jj : Int32} {bB : Int64} (hbB : bB = ((p3 &&& (1048575 : Int32)).toInt64)) (hjj : jj = (((p3.toUInt32 >>> ((20 : Int32) &&& 31).toUInt32).toInt32) &&& (15 : Int32))) : Jvm.Free.Fl.NoNaN64 (Jvm.FP.ddiv (Jvm.FP.l2d bB) (Jvm.FP.l2d ((1 : Int64) <<< (jj &&& 0x3f).toInt64))) := by
  have mb := Jvm.RoadKit.c_mask p3 1048575 20 (by decide) (by decide)
  have BB : 0 ≤ bB.toInt ∧ bB.toInt ≤ 1048575 := by rw [hbB, Int32.toInt_toInt64]; omega
  have mj := Jvm.RoadKit.c_mask ((p3.toUInt32 >>> ((20 : Int32) &&& 31).toUInt32).toInt32) 15 4 (by decide) (by decide)
  rw [← hjj] at mj
  have hJ := (own_shl1 jj (by omega) (by omega)).1
  have Jb : jj.toInt.toNat ≤ 15 := by omega
  have pJ : 2 ^ jj.toInt.toNat ≤ 2 ^ 15 := Nat.pow_le_pow_right (by decide) Jb
  have qJ := Nat.two_pow_pos jj.toInt.toNat
  exact own_quot_nn (own_l2d (by omega) (by omega)) (own_l2d (by omega) (by omega)) (by omega)
theorem own_nn2 {p4 ee : Int32} {tt : Int64} (htt : tt = (((1 : Int32) + (p4 &&& (1048575 : Int32))).toInt64)) (hee : ee = (((p4.toUInt32 >>> ((20 : Int32) &&& 31).toUInt32).toInt32) &&& (3 : Int32))) : Jvm.Free.Fl.NoNaN64 (Jvm.FP.ddiv (Jvm.FP.l2d tt) (Jvm.FP.l2d ((1 : Int64) <<< (ee &&& 0x3f).toInt64))) := by
  have me := Jvm.RoadKit.c_mask ((p4.toUInt32 >>> ((20 : Int32) &&& 31).toUInt32).toInt32) 3 2 (by decide) (by decide)
  rw [← hee] at me
  have hJ := (own_shl1 ee (by omega) (by omega)).1
  have Jb : ee.toInt.toNat ≤ 15 := by omega
  have pJ : 2 ^ ee.toInt.toNat ≤ 2 ^ 15 := Nat.pow_le_pow_right (by decide) Jb
  have qJ := Nat.two_pow_pos ee.toInt.toNat
  have t2 := Jvm.RoadKit.rng32 ((1 : Int32) + (p4 &&& (1048575 : Int32)))
  have TT : -2147483648 ≤ tt.toInt ∧ tt.toInt ≤ 2147483647 := by rw [htt, Int32.toInt_toInt64]; omega
  exact own_quot_nn (own_l2d (by omega) (by omega)) (own_l2d (by omega) (by omega)) (by omega)
set_option maxHeartbeats 8000000 in
theorem own_dir {p1 p2 p3 p4 lg jj ee : Int32} {bB tt : Int64} {y mu : UInt64} (hlg : lg = (p2 &&& (2147483647 : Int32))) (hbB : bB = ((p3 &&& (1048575 : Int32)).toInt64)) (hjj : jj = (((p3.toUInt32 >>> ((20 : Int32) &&& 31).toUInt32).toInt32) &&& (15 : Int32)))
    (htt : tt = (((1 : Int32) + (p4 &&& (1048575 : Int32))).toInt64)) (hee : ee = (((p4.toUInt32 >>> ((20 : Int32) &&& 31).toUInt32).toInt32) &&& (3 : Int32)))
    (hy : y = (Jvm.FP.ddiv (Jvm.FP.l2d bB) (Jvm.FP.l2d ((1 : Int64) <<< (jj &&& 0x3f).toInt64)))) (hmu : mu = (Jvm.FP.ddiv (Jvm.FP.l2d tt) (Jvm.FP.l2d ((1 : Int64) <<< (ee &&& 0x3f).toInt64)))) :
    (0 : Int32) < (cmpValue (Jvm.FP.dcmp mu (0 : UInt64)) .l) ∧ (cmpValue (Jvm.FP.dcmp mu (9218868437227405312 : UInt64)) .g) < (0 : Int32) ∧ Jvm.FP.ddiv (Jvm.FP.l2d tt) (Jvm.FP.i2d ((1 : Int32) <<< (ee &&& 31))) = mu ∧ Jvm.Free.Fl.NoNaN64 mu ∧
      Jvm.Free.Fl.NoNaN64 (Jvm.FP.dmul mu y) ∧ Jvm.Free.Fl.NoNaN64 (Jvm.FP.dadd (Jvm.FP.i2d p1) (Jvm.FP.dmul mu y)) ∧ Jvm.Free.Fl.NoNaN64 (Jvm.FP.dadd (Jvm.FP.i2d lg) mu) ∧ Jvm.Free.Fl.NoNaN64 (Jvm.FP.ddiv (Jvm.FP.dadd (Jvm.FP.i2d p1) (Jvm.FP.dmul mu y)) (Jvm.FP.dadd (Jvm.FP.i2d lg) mu)) ∧
      Jvm.Free.Fl.NoNaN64 (Jvm.FP.ddiv (Jvm.FP.l2d (((p1.toInt64) * ((1 : Int64) <<< ((jj + ee) &&& 0x3f).toInt64)) + (tt * bB))) (Jvm.FP.l2d ((((lg.toInt64) * ((1 : Int64) <<< (ee &&& 0x3f).toInt64)) + tt) * ((1 : Int64) <<< (jj &&& 0x3f).toInt64)))) ∧
      (cmpValue (Jvm.FP.dcmp (Jvm.FP.ddiv (Jvm.FP.dadd (Jvm.FP.i2d p1) (Jvm.FP.dmul mu y)) (Jvm.FP.dadd (Jvm.FP.i2d lg) mu)) (Jvm.FP.ddiv (Jvm.FP.l2d (((p1.toInt64) * ((1 : Int64) <<< ((jj + ee) &&& 0x3f).toInt64)) + (tt * bB))) (Jvm.FP.l2d ((((lg.toInt64) * ((1 : Int64) <<< (ee &&& 0x3f).toInt64)) + tt) * ((1 : Int64) <<< (jj &&& 0x3f).toInt64))))) .l) = (0 : Int32) := by
  have o1 : (1 : Int32).toInt = 1 := by decide
  have ml := Jvm.RoadKit.c_mask p2 2147483647 31 (by decide) (by decide)
  rw [← hlg] at ml
  have LG : 0 ≤ lg.toInt ∧ lg.toInt < 2147483648 := by omega
  have mb := Jvm.RoadKit.c_mask p3 1048575 20 (by decide) (by decide)
  have BB : 0 ≤ bB.toInt ∧ bB.toInt ≤ 1048575 := by rw [hbB, Int32.toInt_toInt64]; omega
  have mj := Jvm.RoadKit.c_mask ((p3.toUInt32 >>> ((20 : Int32) &&& 31).toUInt32).toInt32) 15 4 (by decide) (by decide)
  rw [← hjj] at mj
  have JJ : 0 ≤ jj.toInt ∧ jj.toInt ≤ 15 := by omega
  have me := Jvm.RoadKit.c_mask ((p4.toUInt32 >>> ((20 : Int32) &&& 31).toUInt32).toInt32) 3 2 (by decide) (by decide)
  rw [← hee] at me
  have EE : 0 ≤ ee.toInt ∧ ee.toInt ≤ 3 := by omega
  have mt := Jvm.RoadKit.c_mask p4 1048575 20 (by decide) (by decide)
  have t1 := Jvm.RoadKit.c_iadd 1 (p4 &&& (1048575 : Int32))
  rw [o1, mt] at t1
  have t2 := Jvm.RoadKit.rng32 ((1 : Int32) + (p4 &&& (1048575 : Int32)))
  have TT : 1 ≤ tt.toInt ∧ tt.toInt ≤ 1048576 := by rw [htt, Int32.toInt_toInt64]; omega
  have s1 := Jvm.RoadKit.c_iadd jj ee
  have s2 := Jvm.RoadKit.rng32 (jj + ee)
  have SS : (jj + ee).toInt = jj.toInt + ee.toInt := by omega
  have PR := Jvm.RoadKit.rng32 p1
  clear hlg hbB hjj htt hee ml mb mj me mt t1 t2 s1 s2
  have hJ := (own_shl1 jj JJ.1 (by omega)).1
  obtain ⟨hE, hE2⟩ := own_shl1 ee EE.1 (by omega)
  have hS := (own_shl1 (jj + ee) (by omega) (by omega)).1
  have eN : (jj + ee).toInt.toNat = jj.toInt.toNat + ee.toInt.toNat := by omega
  rw [eN] at hS
  have Jb : jj.toInt.toNat ≤ 15 := by omega
  have Eb : ee.toInt.toNat ≤ 3 := by omega
  generalize jj.toInt.toNat = J at *
  generalize ee.toInt.toNat = E at *
  have eI : Jvm.FP.i2d ((1 : Int32) <<< (ee &&& 31)) = Jvm.FP.l2d ((1 : Int64) <<< (ee &&& 0x3f).toInt64) := by
    have q : (((1 : Int32) <<< (ee &&& 31)).toInt64) = ((1 : Int64) <<< (ee &&& 0x3f).toInt64) := Int64.toInt_inj.mp (by rw [Int32.toInt_toInt64, hE2, hE])
    rw [← q]; exact i2d_l2d _
  generalize ((1 : Int64) <<< (jj &&& 0x3f).toInt64) = sJ at *
  generalize ((1 : Int64) <<< (ee &&& 0x3f).toInt64) = sE at *
  generalize ((1 : Int64) <<< ((jj + ee) &&& 0x3f).toInt64) = sS at *
  have pJ : 2 ^ J ≤ 2 ^ 15 := Nat.pow_le_pow_right (by decide) Jb
  have pE : 2 ^ E ≤ 2 ^ 3 := Nat.pow_le_pow_right (by decide) Eb
  have pS : 2 ^ (J + E) ≤ 2 ^ 18 := Nat.pow_le_pow_right (by decide) (by omega)
  have qJ := Nat.two_pow_pos J
  have qE := Nat.two_pow_pos E
  have qS := Nat.two_pow_pos (J + E)
  have RsJ : own_Rep (l2d sJ) 1 (1074 + J) := own_unshift (by rw [Int.one_mul, ← hJ]; exact own_l2d (by omega) (by omega))
  have RsE : own_Rep (l2d sE) 1 (1074 + E) := own_unshift (by rw [Int.one_mul, ← hE]; exact own_l2d (by omega) (by omega))
  have RB := @own_l2d bB (by omega) (by omega)
  have RT := @own_l2d tt (by omega) (by omega)
  have RY : own_Rep y bB.toInt (1074 - J) := hy ▸ own_div (a := bB.toInt) (m := 1) (by rw [Int.mul_one]; exact RB) RsJ (by decide) (by omega) (by omega) (by omega)
  have RM : own_Rep mu tt.toInt (1074 - E) := hmu ▸ own_div (a := tt.toInt) (m := 1) (by rw [Int.mul_one]; exact RT) RsE (by decide) (by omega) (by omega) (by omega)
  have m1 := Jvm.RoadKit.mc (a := tt.toInt) (b := bB.toInt) (l1 := 1) (h1 := 1048576) (l2 := 0) (h2 := 1048575) TT.1 TT.2 BB.1 BB.2
  have m2 := Jvm.RoadKit.mc (a := p1.toInt) (b := ((2 ^ (J + E) : Nat) : Int)) (l1 := -2147483648) (h1 := 2147483647) (l2 := 1) (h2 := 262144) (by omega) (by omega) (by omega) (by omega)
  have m3 := Jvm.RoadKit.mc (a := lg.toInt) (b := ((2 ^ E : Nat) : Int)) (l1 := 0) (h1 := 2147483647) (l2 := 1) (h2 := 8) (by omega) (by omega) (by omega) (by omega)
  -- the longs
  have e1 := Jvm.RoadKit.c_lmul p1.toInt64 sS
  rw [Int32.toInt_toInt64, hS] at e1
  have e2 := Jvm.RoadKit.rng64 (p1.toInt64 * sS)
  have e3 := Jvm.RoadKit.c_lmul tt bB
  have e4 := Jvm.RoadKit.rng64 (tt * bB)
  have e5 := Jvm.RoadKit.c_ladd (p1.toInt64 * sS) (tt * bB)
  have e6 := Jvm.RoadKit.rng64 (p1.toInt64 * sS + tt * bB)
  have f1 := Jvm.RoadKit.c_lmul lg.toInt64 sE
  rw [Int32.toInt_toInt64, hE] at f1
  have f2 := Jvm.RoadKit.rng64 (lg.toInt64 * sE)
  have f3 := Jvm.RoadKit.c_ladd (lg.toInt64 * sE) tt
  have f4 := Jvm.RoadKit.rng64 (lg.toInt64 * sE + tt)
  have RP := own_shift (own_i2d p1) (i := J + E) (k := 1074 - (J + E)) (by omega)
  have RG := own_shift (own_i2d lg) (i := E) (k := 1074 - E) (by omega)
  generalize hTB : tt.toInt * bB.toInt = TB at *
  generalize hPS : p1.toInt * ((2 ^ (J + E) : Nat) : Int) = PS at *
  generalize hLE : lg.toInt * ((2 ^ E : Nat) : Int) = LE at *
  have g1 : (p1.toInt64 * sS).toInt = PS := by omega
  have g2 : (tt * bB).toInt = TB := by omega
  have g3 : (p1.toInt64 * sS + tt * bB).toInt = PS + TB := by omega
  have g4 : (lg.toInt64 * sE).toInt = LE := by omega
  have g5 : (lg.toInt64 * sE + tt).toInt = LE + tt.toInt := by omega
  have f5 := Jvm.RoadKit.c_lmul (lg.toInt64 * sE + tt) sJ
  rw [g5, hJ] at f5
  have f6 := Jvm.RoadKit.rng64 ((lg.toInt64 * sE + tt) * sJ)
  have m4 := Jvm.RoadKit.mc (a := LE + tt.toInt) (b := ((2 ^ J : Nat) : Int)) (l1 := 1) (h1 := 17180917760) (l2 := 1) (h2 := 32768) (by omega) (by omega) (by omega) (by omega)
  have RTB : own_Rep (dmul mu y) TB (1074 - (J + E)) := hTB ▸ own_mul RM RY (by omega) (by rw [hTB]; omega) (by omega)
  have RN : own_Rep (dadd (i2d p1) (dmul mu y)) (PS + TB) (1074 - (J + E)) := own_add RP RTB (by omega) (by omega)
  have RD : own_Rep (dadd (i2d lg) mu) (LE + tt.toInt) (1074 - E) := own_add RG RM (by omega) (by omega)
  have RX : own_Rep (l2d (p1.toInt64 * sS + tt * bB)) (PS + TB) 1074 := g3 ▸ own_l2d (by omega) (by omega)
  have RZ : own_Rep (l2d ((lg.toInt64 * sE + tt) * sJ)) ((LE + tt.toInt) * ((2 ^ J : Nat) : Int)) 1074 := by
    generalize (LE + tt.toInt) * ((2 ^ J : Nat) : Int) = W at *
    have g6 : ((lg.toInt64 * sE + tt) * sJ).toInt = W := by omega
    rw [← g6]; exact own_l2d (by omega) (by omega)
  obtain ⟨q1, q2, q3⟩ := own_quot_eq RN RD (J := J) (by omega) (by omega) RX RZ (by omega)
  have C0 := own_cmp RM (own_shift own_zero (i := E) (k := 1074 - E) (by omega))
  refine ⟨?_, ?_, ?_, own_noNaN RM, own_noNaN RTB, own_noNaN RN, own_noNaN RD, q2, q3, q1⟩
  · rw [show Jvm.FP.dcmp mu (0 : UInt64) = some .gt from C0.trans (by rw [(compare_gt_iff _ _).mpr (by rw [Int.zero_mul]; omega)])]; decide
  · have hz := RM.2
    have c1 : dcmp mu 9218868437227405312 = some (compare (zval b64 (val64 mu)) (zval b64 (val64 9218868437227405312))) := dcmp_zval (own_ne_nan RM) (by decide +kernel)
    have hb : (2 ^ (1074 - E) : Nat) ≤ 2 ^ 1074 := Nat.pow_le_pow_right (by decide) (by omega)
    have hlt : zval b64 (val64 mu) < zval b64 (val64 9218868437227405312) := by
      rw [hz]
      have h1 : tt.toInt * ((2 ^ (1074 - E) : Nat) : Int) ≤ 1048576 * ((2 ^ 1074 : Nat) : Int) := Int.mul_le_mul TT.2 (by exact_mod_cast hb) (by exact_mod_cast Nat.zero_le _) (by decide)
      exact Int.lt_of_le_of_lt h1 (by decide +kernel)
    rw [show Jvm.FP.dcmp mu (9218868437227405312 : UInt64) = some .lt from c1.trans (by rw [(compare_lt_iff _ _).mpr hlt])]; decide
  · rw [eI, hmu]
end OwnLaw
end Jvm.Pilot.@@N@@
namespace Jvm.Pilot.@@N@@
open Jvm Jvm.ClassFile Sem Op Lib Jvm.Free Jvm.Stand Jvm.LawKit Jvm.RoadKit Bundle Jvm.Pilot.@@N@@.Jvm.D
theorem own_wS {Z : State} {a0 : Array Value} (hw : ∀ d ∈ tables_1, d.before a0 Z = true) : ∀ a ∈ Bundle.stringAtoms, a.before a0 Z = true := fun d hd => by
  simp only [Bundle.stringAtoms, List.mem_cons, List.not_mem_nil, or_false] at hd
  rcases hd with rfl | rfl | rfl | rfl | rfl | rfl | rfl
  · exact (hw _ (List.mem_of_getElem? (i := 50) rfl))
  · exact (hw _ (List.mem_of_getElem? (i := 51) rfl))
  · exact (hw _ (List.mem_of_getElem? (i := 52) rfl))
  · exact (hw _ (List.mem_of_getElem? (i := 53) rfl))
  · exact (hw _ (List.mem_of_getElem? (i := 54) rfl))
  · exact (hw _ (List.mem_of_getElem? (i := 55) rfl))
  · exact (hw _ (List.mem_of_getElem? (i := 56) rfl))
theorem d_jdk_30_1_0 : decode jdk_30_method_1_code 0 = .ok (.aload_n 0, 1) := by decide +kernel
theorem d_jdk_30_1_1 : decode jdk_30_method_1_code 1 = .ok (.invokespecial 1, 3) := by decide +kernel
theorem d_jdk_30_1_4 : decode jdk_30_method_1_code 4 = .ok (.return_, 1) := by decide +kernel
theorem pn_0 : plainName "java/lang/Record" = true := by first | (simp [plainName, overriddenIn]; done) | decide +kernel
theorem d_prog_58_1_0 : decode prog_58_method_1_code 0 = .ok (.aload_n 0, 1) := by decide +kernel
theorem d_prog_58_1_1 : decode prog_58_method_1_code 1 = .ok (.invokespecial 1, 3) := by decide +kernel
theorem d_prog_58_1_4 : decode prog_58_method_1_code 4 = .ok (.return_, 1) := by decide +kernel
theorem pn_1 : plainName "com/example/mopret/mopret/model/QueryLikelihood" = true := by first | (simp [plainName, overriddenIn]; done) | decide +kernel
theorem d_prog_19_1_0 : decode prog_19_method_1_code 0 = .ok (.aload_n 0, 1) := by decide +kernel
theorem d_prog_19_1_1 : decode prog_19_method_1_code 1 = .ok (.invokespecial 1, 3) := by decide +kernel
theorem pd_0 : parseMethodDescriptor "()V" = some ⟨[], none⟩ := by decide +kernel
theorem d_prog_19_1_4 : decode prog_19_method_1_code 4 = .ok (.aload_n 0, 1) := by decide +kernel
theorem d_prog_19_1_5 : decode prog_19_method_1_code 5 = .ok (.iload_n 1, 1) := by decide +kernel
theorem d_prog_19_1_6 : decode prog_19_method_1_code 6 = .ok (.putfield 7, 3) := by decide +kernel
theorem d_prog_19_1_9 : decode prog_19_method_1_code 9 = .ok (.aload_n 0, 1) := by decide +kernel
theorem d_prog_19_1_10 : decode prog_19_method_1_code 10 = .ok (.lload_n 2, 1) := by decide +kernel
theorem d_prog_19_1_11 : decode prog_19_method_1_code 11 = .ok (.putfield 13, 3) := by decide +kernel
theorem d_prog_19_1_14 : decode prog_19_method_1_code 14 = .ok (.aload_n 0, 1) := by decide +kernel
theorem d_prog_19_1_15 : decode prog_19_method_1_code 15 = .ok (.iload 4, 2) := by decide +kernel
theorem d_prog_19_1_17 : decode prog_19_method_1_code 17 = .ok (.putfield 17, 3) := by decide +kernel
theorem d_prog_19_1_20 : decode prog_19_method_1_code 20 = .ok (.return_, 1) := by decide +kernel
theorem pn_2 : plainName "com/example/mopret/mopret/index/CollectionStatistics" = true := by first | (simp [plainName, overriddenIn]; done) | decide +kernel
theorem d_prog_51_1_0 : decode prog_51_method_1_code 0 = .ok (.aload_n 0, 1) := by decide +kernel
theorem d_prog_51_1_1 : decode prog_51_method_1_code 1 = .ok (.invokespecial 1, 3) := by decide +kernel
theorem d_prog_51_1_4 : decode prog_51_method_1_code 4 = .ok (.aload_n 0, 1) := by decide +kernel
theorem d_prog_51_1_5 : decode prog_51_method_1_code 5 = .ok (.dconst 0, 1) := by decide +kernel
theorem d_prog_51_1_6 : decode prog_51_method_1_code 6 = .ok (.putfield 7, 3) := by decide +kernel
theorem d_prog_51_1_9 : decode prog_51_method_1_code 9 = .ok (.return_, 1) := by decide +kernel
theorem pn_3 : plainName "com/example/mopret/mopret/model/Dirichlet" = true := by first | (simp [plainName, overriddenIn]; done) | decide +kernel
theorem d_prog_57_2_0 : decode prog_57_method_2_code 0 = .ok (.dload_n 1, 1) := by decide +kernel
theorem d_prog_57_2_1 : decode prog_57_method_2_code 1 = .ok (.dconst 0, 1) := by decide +kernel
theorem d_prog_57_2_2 : decode prog_57_method_2_code 2 = .ok (.dcmp .l, 1) := by decide +kernel
theorem d_prog_57_2_3 : decode prog_57_method_2_code 3 = .ok (.ifCond .le 11, 3) := by decide +kernel
theorem d_prog_57_2_6 : decode prog_57_method_2_code 6 = .ok (.dload_n 1, 1) := by decide +kernel
theorem d_prog_57_2_7 : decode prog_57_method_2_code 7 = .ok (.ldc2_w 9, 3) := by decide +kernel
theorem d_prog_57_2_10 : decode prog_57_method_2_code 10 = .ok (.dcmp .g, 1) := by decide +kernel
theorem d_prog_57_2_11 : decode prog_57_method_2_code 11 = .ok (.ifCond .lt 18, 3) := by decide +kernel
theorem d_prog_57_2_29 : decode prog_57_method_2_code 29 = .ok (.dload_n 1, 1) := by decide +kernel
theorem d_prog_57_2_30 : decode prog_57_method_2_code 30 = .ok (.dreturn, 1) := by decide +kernel
theorem pn_4 : plainName "com/example/mopret/mopret/model/Parameters" = true := by first | (simp [plainName, overriddenIn]; done) | decide +kernel
theorem d_prog_51_2_0 : decode prog_51_method_2_code 0 = .ok (.aload_n 0, 1) := by decide +kernel
theorem d_prog_51_2_1 : decode prog_51_method_2_code 1 = .ok (.invokespecial 1, 3) := by decide +kernel
theorem d_prog_51_2_4 : decode prog_51_method_2_code 4 = .ok (.aload_n 0, 1) := by decide +kernel
theorem d_prog_51_2_5 : decode prog_51_method_2_code 5 = .ok (.ldc 13, 2) := by decide +kernel
theorem d_prog_51_2_7 : decode prog_51_method_2_code 7 = .ok (.dload_n 1, 1) := by decide +kernel
theorem d_prog_51_2_8 : decode prog_51_method_2_code 8 = .ok (.invokestatic 14, 3) := by decide +kernel
theorem pd_1 : parseMethodDescriptor "(Ljava/lang/String;D)D" = some ⟨[(.object "java/lang/String"), .double], some .double⟩ := by decide +kernel
theorem d_prog_51_2_11 : decode prog_51_method_2_code 11 = .ok (.putfield 7, 3) := by decide +kernel
theorem d_prog_51_2_14 : decode prog_51_method_2_code 14 = .ok (.return_, 1) := by decide +kernel
theorem d_prog_19_2_0 : decode prog_19_method_2_code 0 = .ok (.aload_n 0, 1) := by decide +kernel
theorem d_prog_19_2_1 : decode prog_19_method_2_code 1 = .ok (.getfield 13, 3) := by decide +kernel
theorem d_prog_19_2_4 : decode prog_19_method_2_code 4 = .ok (.l2d, 1) := by decide +kernel
theorem d_prog_19_2_5 : decode prog_19_method_2_code 5 = .ok (.aload_n 0, 1) := by decide +kernel
theorem d_prog_19_2_6 : decode prog_19_method_2_code 6 = .ok (.getfield 7, 3) := by decide +kernel
theorem d_prog_19_2_9 : decode prog_19_method_2_code 9 = .ok (.i2d, 1) := by decide +kernel
theorem d_prog_19_2_10 : decode prog_19_method_2_code 10 = .ok (.ddiv, 1) := by decide +kernel
theorem d_prog_19_2_11 : decode prog_19_method_2_code 11 = .ok (.dreturn, 1) := by decide +kernel
theorem d_prog_51_3_0 : decode prog_51_method_3_code 0 = .ok (.aload_n 0, 1) := by decide +kernel
theorem d_prog_51_3_1 : decode prog_51_method_3_code 1 = .ok (.getfield 7, 3) := by decide +kernel
theorem d_prog_51_3_4 : decode prog_51_method_3_code 4 = .ok (.dconst 0, 1) := by decide +kernel
theorem d_prog_51_3_5 : decode prog_51_method_3_code 5 = .ok (.dcmp .l, 1) := by decide +kernel
theorem d_prog_51_3_6 : decode prog_51_method_3_code 6 = .ok (.ifCond .le 10, 3) := by decide +kernel
theorem d_prog_51_3_9 : decode prog_51_method_3_code 9 = .ok (.aload_n 0, 1) := by decide +kernel
theorem d_prog_51_3_10 : decode prog_51_method_3_code 10 = .ok (.getfield 7, 3) := by decide +kernel
theorem d_prog_51_3_13 : decode prog_51_method_3_code 13 = .ok (.goto 8, 3) := by decide +kernel
theorem d_prog_51_3_21 : decode prog_51_method_3_code 21 = .ok (.dstore 7, 2) := by decide +kernel
theorem d_prog_51_3_23 : decode prog_51_method_3_code 23 = .ok (.iload_n 1, 1) := by decide +kernel
theorem d_prog_51_3_24 : decode prog_51_method_3_code 24 = .ok (.i2d, 1) := by decide +kernel
theorem d_prog_51_3_25 : decode prog_51_method_3_code 25 = .ok (.dload 7, 2) := by decide +kernel
theorem d_prog_51_3_27 : decode prog_51_method_3_code 27 = .ok (.dload 4, 2) := by decide +kernel
theorem d_prog_51_3_29 : decode prog_51_method_3_code 29 = .ok (.dmul, 1) := by decide +kernel
theorem d_prog_51_3_30 : decode prog_51_method_3_code 30 = .ok (.dadd, 1) := by decide +kernel
theorem d_prog_51_3_31 : decode prog_51_method_3_code 31 = .ok (.dload_n 2, 1) := by decide +kernel
theorem d_prog_51_3_32 : decode prog_51_method_3_code 32 = .ok (.dload 7, 2) := by decide +kernel
theorem d_prog_51_3_34 : decode prog_51_method_3_code 34 = .ok (.dadd, 1) := by decide +kernel
theorem d_prog_51_3_35 : decode prog_51_method_3_code 35 = .ok (.ddiv, 1) := by decide +kernel
theorem d_prog_51_3_36 : decode prog_51_method_3_code 36 = .ok (.dreturn, 1) := by decide +kernel
theorem d_prog_51_3_16 : decode prog_51_method_3_code 16 = .ok (.aload 6, 2) := by decide +kernel
theorem d_prog_51_3_18 : decode prog_51_method_3_code 18 = .ok (.invokevirtual 20, 3) := by decide +kernel
theorem pd_2 : parseMethodDescriptor "()D" = some ⟨[], some .double⟩ := by decide +kernel
theorem pd_3 : parseMethodDescriptor "(IJI)V" = some ⟨[.int, .long, .int], none⟩ := by decide +kernel
theorem pd_4 : parseMethodDescriptor "(IDDLcom/example/mopret/mopret/index/CollectionStatistics;)D" = some ⟨[.int, .double, .double, (.object "com/example/mopret/mopret/index/CollectionStatistics")], some .double⟩ := by decide +kernel
theorem pd_5 : parseMethodDescriptor "(D)V" = some ⟨[.double], none⟩ := by decide +kernel
theorem pn_5 : plainName "com/example/mopret/mopret/model/DirichletProbabilityPinLaw" = true := by first | (simp [plainName, overriddenIn]; done) | decide +kernel
theorem ef_2 (m : MethodId) (x0 : Addr) : entryFrame m #[(.ref x0)] 1 = mkF m 0 #[.val (.ref x0)] [] := by first | (simp [entryFrame, mkF, argsToLocals, Value.category]; done) | rfl
def Q2 (Z : State) (a1 : Addr) (h0 : Heap) (n0 : Nat) (v : Option Value) (h : Heap) (L : List Loc) : Prop := v = none ∧ Fr n0 L ∧ h = h0
set_option maxRecDepth 65536 in
set_option maxHeartbeats 40000000 in
theorem rm2 (l : Launch) (Z : State) (a0 : Array Value) (hw : ∀ d ∈ tables_1, d.before a0 Z = true) (ws : List Jvm.Cond) (a1 : Addr) (h0 : Heap) (n0 : Nat) (Z0 : n0 ≤ h0.size) :
    MetFree l (⟨"java/lang/Record", "<init>", "()V"⟩ : MethodName) (head1 (Jvm.Cond.code (⟨"java/lang/Record", "<init>", "()V"⟩ : MethodName) jdk_30_method_1_code 1 none :: ws) ({ frames := 1, cells := 0, slots := 0, locals := 12 } : Room)) (fun a U => a = #[(.ref a1)] ∧ Z.Warmed39 U.vm ∧ U.heap = h0) (fun _ _ _ _ _ => True) (fun _ U o U' => ∃ v L, o = .returned v ∧ Q2 Z a1 h0 n0 v U'.heap L ∧ FrameEnd U o U' L ({ frames := 1, cells := 0, slots := 0, locals := 12 } : Room).cells ({ frames := 1, cells := 0, slots := 0, locals := 12 } : Room).slots) := by
  refine MetFree.of_bodySF (plainFor_of_name pn_0) hisR ?_
  intro p e s m args below meth c s₁ Bd hml0 hP hK
  obtain ⟨rfl, hZ, hh⟩ := hP
  have hlk : meth.locks = false := BodyLoose.notSynchronized Bd
  have hx := Bd.exec
  have hby := Bd.bytes
  have hml : c.maxLocals = 1 := hml0
  have hown : s.vm.findClass "java/lang/Record" = some m.cls := findClass_of_methodNamed Bd.named
  have hnm := (name_of_methodNamed Bd.named Bd.method).1
  have X0 : Stand p l e ({ frames := 1, cells := 0, slots := 0, locals := 12 } : Room) s m #[(.ref a1)] below meth c s₁ [] 0 0 := Stand.of_body Bd
  have e0 : s₁.heap = h0 := by rw [← hh, Bd.state]; rfl
  have N0 := Fr.nil n0
  obtain ⟨A, hA⟩ : ∃ A, A = s₁.setTop (mkF m 0 #[.val (.ref a1)] []) := ⟨_, rfl⟩
  have hA0 : ∀ t, Steps p.tables e below A t → Steps p.tables e below (s₁.setTop (entryFrame m #[(.ref a1)] 1)) t := fun t k => castTop (ef_2 m a1) (hA ▸ k)
  have k0 : ∀ t, Steps p.tables e below (s₁.setTop (mkF m 0 #[.val (.ref a1)] [])) t → Steps p.tables e below A t := fun t k => hA ▸ k
  obtain ⟨T1, X1, e1, st1⟩ := initO X0 hx hZ hown (hw _ (List.mem_of_getElem? (i := 29) rfl)) (hw _ (List.mem_of_getElem? (i := 14) rfl)) (hw _ (List.mem_of_getElem? (i := 15) rfl)) e0 (g := (mkF m 1 #[.val (.ref a1)] [(.ref a1)])) rfl (by rw [hml]; rfl) rfl (hb hby d_jdk_30_1_1) (by decide) (W := 0) (by show 2 * 0 + _ ≤ _; exact Nat.le_of_eq rfl) (by decide)
  obtain ⟨fs, hr, hrun, hended, hW, hsame⟩ := X1.leave (v := none) (fun _ => rfl) hlk
  refine ⟨_, _, ?_, hrun, hended, _, _, rfl, ?_, ⟨_, rfl⟩, hW, hsame.mono (by decide) (by decide)⟩
  · refine hA0 _ ?_
    refine k0 _ ?_
    refine own_f_aloadN X0.here hx (hb hby d_jdk_30_1_0) rfl rfl (rfl : _ = 1) ?_
    refine st1 _ ?_
    show Steps p.tables e below (T1.setTop (mkF m 4 #[.val (.ref a1)] [])) _
    exact X1.returnOut hx Bd.returns (hb hby d_jdk_30_1_4) hr
  · show Q2 Z a1 h0 n0 _ T1.heap _
    rw [e1]
    exact ⟨rfl, N0, rfl⟩
theorem ef_3 (m : MethodId) (x0 : Addr) : entryFrame m #[(.ref x0)] 1 = mkF m 0 #[.val (.ref x0)] [] := by first | (simp [entryFrame, mkF, argsToLocals, Value.category]; done) | rfl
def Q3 (Z : State) (a1 : Addr) (h0 : Heap) (n0 : Nat) (v : Option Value) (h : Heap) (L : List Loc) : Prop := v = none ∧ Fr n0 L ∧ h = h0
set_option maxRecDepth 65536 in
set_option maxHeartbeats 40000000 in
theorem rm3 (l : Launch) (Z : State) (a0 : Array Value) (hw : ∀ d ∈ tables_1, d.before a0 Z = true) (ws : List Jvm.Cond) (a1 : Addr) (h0 : Heap) (n0 : Nat) (Z0 : n0 ≤ h0.size) :
    MetFree l (⟨"com/example/mopret/mopret/model/QueryLikelihood", "<init>", "()V"⟩ : MethodName) (head1 (Jvm.Cond.code (⟨"com/example/mopret/mopret/model/QueryLikelihood", "<init>", "()V"⟩ : MethodName) prog_58_method_1_code 1 none :: ws) ({ frames := 1, cells := 0, slots := 0, locals := 12 } : Room)) (fun a U => a = #[(.ref a1)] ∧ Z.Warmed39 U.vm ∧ U.heap = h0) (fun _ _ _ _ _ => True) (fun _ U o U' => ∃ v L, o = .returned v ∧ Q3 Z a1 h0 n0 v U'.heap L ∧ FrameEnd U o U' L ({ frames := 1, cells := 0, slots := 0, locals := 12 } : Room).cells ({ frames := 1, cells := 0, slots := 0, locals := 12 } : Room).slots) := by
  refine MetFree.of_bodySF (plainFor_of_name pn_1) hisR ?_
  intro p e s m args below meth c s₁ Bd hml0 hP hK
  obtain ⟨rfl, hZ, hh⟩ := hP
  have hlk : meth.locks = false := BodyLoose.notSynchronized Bd
  have hx := Bd.exec
  have hby := Bd.bytes
  have hml : c.maxLocals = 1 := hml0
  have hown : s.vm.findClass "com/example/mopret/mopret/model/QueryLikelihood" = some m.cls := findClass_of_methodNamed Bd.named
  have hnm := (name_of_methodNamed Bd.named Bd.method).1
  have X0 : Stand p l e ({ frames := 1, cells := 0, slots := 0, locals := 12 } : Room) s m #[(.ref a1)] below meth c s₁ [] 0 0 := Stand.of_body Bd
  have e0 : s₁.heap = h0 := by rw [← hh, Bd.state]; rfl
  have N0 := Fr.nil n0
  obtain ⟨A, hA⟩ : ∃ A, A = s₁.setTop (mkF m 0 #[.val (.ref a1)] []) := ⟨_, rfl⟩
  have hA0 : ∀ t, Steps p.tables e below A t → Steps p.tables e below (s₁.setTop (entryFrame m #[(.ref a1)] 1)) t := fun t k => castTop (ef_3 m a1) (hA ▸ k)
  have k0 : ∀ t, Steps p.tables e below (s₁.setTop (mkF m 0 #[.val (.ref a1)] [])) t → Steps p.tables e below A t := fun t k => hA ▸ k
  obtain ⟨T1, X1, e1, st1⟩ := initO X0 hx hZ hown (hw _ (List.mem_of_getElem? (i := 13) rfl)) (hw _ (List.mem_of_getElem? (i := 14) rfl)) (hw _ (List.mem_of_getElem? (i := 15) rfl)) e0 (g := (mkF m 1 #[.val (.ref a1)] [(.ref a1)])) rfl (by rw [hml]; rfl) rfl (hb hby d_prog_58_1_1) (by decide) (W := 0) (by show 2 * 0 + _ ≤ _; exact Nat.le_of_eq rfl) (by decide)
  obtain ⟨fs, hr, hrun, hended, hW, hsame⟩ := X1.leave (v := none) (fun _ => rfl) hlk
  refine ⟨_, _, ?_, hrun, hended, _, _, rfl, ?_, ⟨_, rfl⟩, hW, hsame.mono (by decide) (by decide)⟩
  · refine hA0 _ ?_
    refine k0 _ ?_
    refine own_f_aloadN X0.here hx (hb hby d_prog_58_1_0) rfl rfl (rfl : _ = 1) ?_
    refine st1 _ ?_
    show Steps p.tables e below (T1.setTop (mkF m 4 #[.val (.ref a1)] [])) _
    exact X1.returnOut hx Bd.returns (hb hby d_prog_58_1_4) hr
  · show Q3 Z a1 h0 n0 _ T1.heap _
    rw [e1]
    exact ⟨rfl, N0, rfl⟩
theorem ef_1 (m : MethodId) (x0 : Addr) (x1 : Int32) (x2 : Int64) (x3 : Int32) : entryFrame m #[(.ref x0), (.int x1), (.long x2), (.int x3)] 5 = mkF m 0 #[.val (.ref x0), .val (.int x1), .val (.long x2), .second, .val (.int x3)] [] := by first | (simp [entryFrame, mkF, argsToLocals, Value.category]; done) | rfl
def Q1 (Z : State) (a1 : Addr) (p2 : Int32) (q3 : Int64) (p4 : Int32) (u1 : Value) (u2 : Value) (u3 : Value) (h0 : Heap) (n0 : Nat) (v : Option Value) (h : Heap) (L : List Loc) : Prop := v = none ∧ Fr n0 L ∧ Keep h0 h [a1] ∧ Fld Z h a1 "com/example/mopret/mopret/index/CollectionStatistics" "documents" "I" (.int p2) ∧ Fld Z h a1 "com/example/mopret/mopret/index/CollectionStatistics" "tokens" "J" (.long q3)
set_option maxRecDepth 65536 in
set_option maxHeartbeats 40000000 in
theorem rm1 (l : Launch) (Z : State) (a0 : Array Value) (hw : ∀ d ∈ tables_1, d.before a0 Z = true) (ws : List Jvm.Cond) (a1 : Addr) (p2 : Int32) (q3 : Int64) (p4 : Int32) (u1 : Value) (u2 : Value) (u3 : Value) (h0 : Heap) (n0 : Nat) (Z0 : n0 ≤ h0.size) (Ea : Exa Z h0 a1 "com/example/mopret/mopret/index/CollectionStatistics") (F_documents : Fld Z h0 a1 "com/example/mopret/mopret/index/CollectionStatistics" "documents" "I" u1) (F_tokens : Fld Z h0 a1 "com/example/mopret/mopret/index/CollectionStatistics" "tokens" "J" u2) (F_terms : Fld Z h0 a1 "com/example/mopret/mopret/index/CollectionStatistics" "terms" "I" u3) (g_a1 : n0 ≤ a1) :
    MetFree l (⟨"com/example/mopret/mopret/index/CollectionStatistics", "<init>", "(IJI)V"⟩ : MethodName) (head1 (Jvm.Cond.code (⟨"com/example/mopret/mopret/index/CollectionStatistics", "<init>", "(IJI)V"⟩ : MethodName) prog_19_method_1_code 5 none :: ws) ({ frames := 2, cells := 0, slots := 0, locals := 24 } : Room)) (fun a U => a = #[(.ref a1), (.int p2), (.long q3), (.int p4)] ∧ Z.Warmed39 U.vm ∧ U.heap = h0) (fun _ _ _ _ _ => True) (fun _ U o U' => ∃ v L, o = .returned v ∧ Q1 Z a1 p2 q3 p4 u1 u2 u3 h0 n0 v U'.heap L ∧ FrameEnd U o U' L ({ frames := 2, cells := 0, slots := 0, locals := 24 } : Room).cells ({ frames := 2, cells := 0, slots := 0, locals := 24 } : Room).slots) := by
  refine MetFree.of_bodySF (plainFor_of_name pn_2) hisR ?_
  intro p e s m args below meth c s₁ Bd hml0 hP hK
  obtain ⟨rfl, hZ, hh⟩ := hP
  have hlk : meth.locks = false := BodyLoose.notSynchronized Bd
  have hx := Bd.exec
  have hby := Bd.bytes
  have hml : c.maxLocals = 5 := hml0
  have hown : s.vm.findClass "com/example/mopret/mopret/index/CollectionStatistics" = some m.cls := findClass_of_methodNamed Bd.named
  have hnm := (name_of_methodNamed Bd.named Bd.method).1
  have X0 : Stand p l e ({ frames := 2, cells := 0, slots := 0, locals := 24 } : Room) s m #[(.ref a1), (.int p2), (.long q3), (.int p4)] below meth c s₁ [] 0 0 := Stand.of_body Bd
  have e0 : s₁.heap = h0 := by rw [← hh, Bd.state]; rfl
  have N0 := Fr.nil n0
  obtain ⟨A, hA⟩ : ∃ A, A = s₁.setTop (mkF m 0 #[.val (.ref a1), .val (.int p2), .val (.long q3), .second, .val (.int p4)] []) := ⟨_, rfl⟩
  have hA0 : ∀ t, Steps p.tables e below A t → Steps p.tables e below (s₁.setTop (entryFrame m #[(.ref a1), (.int p2), (.long q3), (.int p4)] 5)) t := fun t k => castTop (ef_1 m a1 p2 q3 p4) (hA ▸ k)
  have k0 : ∀ t, Steps p.tables e below (s₁.setTop (mkF m 0 #[.val (.ref a1), .val (.int p2), .val (.long q3), .second, .val (.int p4)] [])) t → Steps p.tables e below A t := fun t k => hA ▸ k
  have KK : Keep h0 h0 [a1] := Keep.refl h0 [a1]
  obtain ⟨_, _, ⟨T1, L1, k1_, n1⟩, -, X1, ⟨Lc1, hQ1, l1, y1, z1⟩, st1⟩ := X0.specialBack hx (y := (⟨"java/lang/Record", "<init>", "()V"⟩ : MethodName)) rfl hown (mvT hZ (hw _ (List.mem_of_getElem? (i := 24) rfl))) (mvT hZ (hw _ (List.mem_of_getElem? (i := 25) rfl))) (mvT hZ (hw _ (List.mem_of_getElem? (i := 28) rfl))) (by decide) (backOf (W := 0) (rm2 l Z a0 hw [] a1  h0 n0 Z0) hZ (hw _ (List.mem_of_getElem? (i := 28) rfl)) (hw _ (List.mem_of_getElem? (i := 27) rfl)) (by decide) (by decide)) (g := (mkF m 1 #[.val (.ref a1), .val (.int p2), .val (.long q3), .second, .val (.int p4)] [(.ref a1)])) rfl (by rw [hml]; rfl) (Steps.refl _) (a := a1) (argsL := []) (rest := []) (lenOf pd_0 rfl) rfl (by show 2 * 0 + _ ≤ _; exact Nat.le_of_eq rfl) (hb hby d_prog_19_1_1) (fun _ _ => ⟨rfl, e0, (by decide : 0 + 0 ≤ _), (by decide : 0 + 0 ≤ _)⟩)
  dsimp only [Pt.U, Pt.locs, Pt.cells, Pt.slots] at X1 l1 y1 z1 st1 hQ1
  subst l1 y1 z1
  obtain ⟨rfl, Nq1, e1⟩ := hQ1
  have N1 := Fr.app N0 Nq1
  obtain ⟨T2, h2, X2, e2, W2, st2⟩ := putF X1 hx hZ hown (host := "") (Or.inl (hw _ (List.mem_of_getElem? (i := 30) rfl))) Via.refl e1 F_documents Ea (Or.inr ⟨(hw _ (List.mem_of_getElem? (i := 31) rfl)), rfl, hnm⟩) (hw _ (List.mem_of_getElem? (i := 19) rfl)) (ty := .int) (by decide) rfl rfl (g := (mkF m 6 #[.val (.ref a1), .val (.int p2), .val (.long q3), .second, .val (.int p4)] [(.int p2), (.ref a1)])) rfl rfl (hb hby d_prog_19_1_6)
  replace Ea := Ea.wr W2
  replace F_tokens := F_tokens.other W2 (Or.inr (slot_ne (Or.inr (hw _ (List.mem_of_getElem? (i := 33) rfl))) (Or.inr (hw _ (List.mem_of_getElem? (i := 31) rfl))) (by decide) (t := .long) (t' := .int) (by decide) (by decide)))
  replace F_terms := F_terms.other W2 (Or.inr (slot_ne (Or.inr (hw _ (List.mem_of_getElem? (i := 35) rfl))) (Or.inr (hw _ (List.mem_of_getElem? (i := 31) rfl))) (by decide) (t := .int) (t' := .int) (by decide) (by decide)))
  have Zs2 := Nat.le_trans Z0 (Keep.of_wr W2).1
  replace KK := KK.wr W2 (Or.inl (by simp))
  replace F_documents := F_documents.same W2
  have N2 := Fr.snoc X2 N1 g_a1
  obtain ⟨T3, h3, X3, e3, W3, st3⟩ := putF X2 hx hZ hown (host := "") (Or.inl (hw _ (List.mem_of_getElem? (i := 32) rfl))) Via.refl e2 F_tokens Ea (Or.inr ⟨(hw _ (List.mem_of_getElem? (i := 33) rfl)), rfl, hnm⟩) (hw _ (List.mem_of_getElem? (i := 19) rfl)) (ty := .long) (by decide) rfl rfl (g := (mkF m 11 #[.val (.ref a1), .val (.int p2), .val (.long q3), .second, .val (.int p4)] [(.long q3), (.ref a1)])) rfl rfl (hb hby d_prog_19_1_11)
  replace Ea := Ea.wr W3
  replace F_documents := F_documents.other W3 (Or.inr (slot_ne (Or.inr (hw _ (List.mem_of_getElem? (i := 31) rfl))) (Or.inr (hw _ (List.mem_of_getElem? (i := 33) rfl))) (by decide) (t := .int) (t' := .long) (by decide) (by decide)))
  replace F_terms := F_terms.other W3 (Or.inr (slot_ne (Or.inr (hw _ (List.mem_of_getElem? (i := 35) rfl))) (Or.inr (hw _ (List.mem_of_getElem? (i := 33) rfl))) (by decide) (t := .int) (t' := .long) (by decide) (by decide)))
  have Zs3 := Nat.le_trans Zs2 (Keep.of_wr W3).1
  replace KK := KK.wr W3 (Or.inl (by simp))
  replace F_tokens := F_tokens.same W3
  have N3 := Fr.snoc X3 N2 g_a1
  obtain ⟨T4, h4, X4, e4, W4, st4⟩ := putF X3 hx hZ hown (host := "") (Or.inl (hw _ (List.mem_of_getElem? (i := 34) rfl))) Via.refl e3 F_terms Ea (Or.inr ⟨(hw _ (List.mem_of_getElem? (i := 35) rfl)), rfl, hnm⟩) (hw _ (List.mem_of_getElem? (i := 19) rfl)) (ty := .int) (by decide) rfl rfl (g := (mkF m 17 #[.val (.ref a1), .val (.int p2), .val (.long q3), .second, .val (.int p4)] [(.int p4), (.ref a1)])) rfl rfl (hb hby d_prog_19_1_17)
  replace Ea := Ea.wr W4
  replace F_documents := F_documents.other W4 (Or.inr (slot_ne (Or.inr (hw _ (List.mem_of_getElem? (i := 31) rfl))) (Or.inr (hw _ (List.mem_of_getElem? (i := 35) rfl))) (by decide) (t := .int) (t' := .int) (by decide) (by decide)))
  replace F_tokens := F_tokens.other W4 (Or.inr (slot_ne (Or.inr (hw _ (List.mem_of_getElem? (i := 33) rfl))) (Or.inr (hw _ (List.mem_of_getElem? (i := 35) rfl))) (by decide) (t := .long) (t' := .int) (by decide) (by decide)))
  have Zs4 := Nat.le_trans Zs3 (Keep.of_wr W4).1
  replace KK := KK.wr W4 (Or.inl (by simp))
  replace F_terms := F_terms.same W4
  have N4 := Fr.snoc X4 N3 g_a1
  obtain ⟨fs, hr, hrun, hended, hW, hsame⟩ := X4.leave (v := none) (fun _ => rfl) hlk
  refine ⟨_, _, ?_, hrun, hended, _, _, rfl, ?_, ⟨_, rfl⟩, hW, hsame.mono (by decide) (by decide)⟩
  · refine hA0 _ ?_
    refine k0 _ ?_
    refine own_f_aloadN X0.here hx (hb hby d_prog_19_1_0) rfl rfl (rfl : _ = 1) ?_
    refine st1.trans ?_
    show Steps p.tables e below (T1.setTop (mkF m 4 #[.val (.ref a1), .val (.int p2), .val (.long q3), .second, .val (.int p4)] [])) _
    refine own_f_aloadN X1.here hx (hb hby d_prog_19_1_4) rfl rfl (rfl : _ = 5) ?_
    refine own_f_iloadN X1.here hx (hb hby d_prog_19_1_5) rfl (rfl : _ = 6) ?_
    refine st2 _ ?_
    show Steps p.tables e below (T2.setTop (mkF m 9 #[.val (.ref a1), .val (.int p2), .val (.long q3), .second, .val (.int p4)] [])) _
    refine own_f_aloadN X2.here hx (hb hby d_prog_19_1_9) rfl rfl (rfl : _ = 10) ?_
    refine own_f_lloadN X2.here hx (hb hby d_prog_19_1_10) rfl (rfl : _ = 11) ?_
    refine st3 _ ?_
    show Steps p.tables e below (T3.setTop (mkF m 14 #[.val (.ref a1), .val (.int p2), .val (.long q3), .second, .val (.int p4)] [])) _
    refine own_f_aloadN X3.here hx (hb hby d_prog_19_1_14) rfl rfl (rfl : _ = 15) ?_
    refine own_f_iload X3.here hx (hb hby d_prog_19_1_15) rfl (rfl : _ = 17) ?_
    refine st4 _ ?_
    show Steps p.tables e below (T4.setTop (mkF m 20 #[.val (.ref a1), .val (.int p2), .val (.long q3), .second, .val (.int p4)] [])) _
    exact X4.returnOut hx Bd.returns (hb hby d_prog_19_1_20) hr
  · show Q1 Z a1 p2 q3 p4 u1 u2 u3 h0 n0 _ T4.heap _
    rw [e4]
    exact ⟨rfl, N4, KK, F_documents, F_tokens⟩
theorem ef_4 (m : MethodId) (x0 : Addr) : entryFrame m #[(.ref x0)] 1 = mkF m 0 #[.val (.ref x0)] [] := by first | (simp [entryFrame, mkF, argsToLocals, Value.category]; done) | rfl
def Q4 (Z : State) (a1 : Addr) (u1 : Value) (h0 : Heap) (n0 : Nat) (v : Option Value) (h : Heap) (L : List Loc) : Prop := v = none ∧ Fr n0 L ∧ Keep h0 h [a1] ∧ Fld Z h a1 "com/example/mopret/mopret/model/Dirichlet" "mu" "D" (.double 0)
set_option maxRecDepth 65536 in
set_option maxHeartbeats 40000000 in
theorem rm4 (l : Launch) (Z : State) (a0 : Array Value) (hw : ∀ d ∈ tables_1, d.before a0 Z = true) (ws : List Jvm.Cond) (a1 : Addr) (u1 : Value) (h0 : Heap) (n0 : Nat) (Z0 : n0 ≤ h0.size) (Ea : Exa Z h0 a1 "com/example/mopret/mopret/model/Dirichlet") (F_l : Fld Z h0 a1 "com/example/mopret/mopret/model/Dirichlet" "mu" "D" u1) (g_a1 : n0 ≤ a1) :
    MetFree l (⟨"com/example/mopret/mopret/model/Dirichlet", "<init>", "()V"⟩ : MethodName) (head1 (Jvm.Cond.code (⟨"com/example/mopret/mopret/model/Dirichlet", "<init>", "()V"⟩ : MethodName) prog_51_method_1_code 1 none :: ws) ({ frames := 2, cells := 0, slots := 0, locals := 24 } : Room)) (fun a U => a = #[(.ref a1)] ∧ Z.Warmed39 U.vm ∧ U.heap = h0) (fun _ _ _ _ _ => True) (fun _ U o U' => ∃ v L, o = .returned v ∧ Q4 Z a1 u1 h0 n0 v U'.heap L ∧ FrameEnd U o U' L ({ frames := 2, cells := 0, slots := 0, locals := 24 } : Room).cells ({ frames := 2, cells := 0, slots := 0, locals := 24 } : Room).slots) := by
  refine MetFree.of_bodySF (plainFor_of_name pn_3) hisR ?_
  intro p e s m args below meth c s₁ Bd hml0 hP hK
  obtain ⟨rfl, hZ, hh⟩ := hP
  have hlk : meth.locks = false := BodyLoose.notSynchronized Bd
  have hx := Bd.exec
  have hby := Bd.bytes
  have hml : c.maxLocals = 1 := hml0
  have hown : s.vm.findClass "com/example/mopret/mopret/model/Dirichlet" = some m.cls := findClass_of_methodNamed Bd.named
  have hnm := (name_of_methodNamed Bd.named Bd.method).1
  have X0 : Stand p l e ({ frames := 2, cells := 0, slots := 0, locals := 24 } : Room) s m #[(.ref a1)] below meth c s₁ [] 0 0 := Stand.of_body Bd
  have e0 : s₁.heap = h0 := by rw [← hh, Bd.state]; rfl
  have N0 := Fr.nil n0
  obtain ⟨A, hA⟩ : ∃ A, A = s₁.setTop (mkF m 0 #[.val (.ref a1)] []) := ⟨_, rfl⟩
  have hA0 : ∀ t, Steps p.tables e below A t → Steps p.tables e below (s₁.setTop (entryFrame m #[(.ref a1)] 1)) t := fun t k => castTop (ef_4 m a1) (hA ▸ k)
  have k0 : ∀ t, Steps p.tables e below (s₁.setTop (mkF m 0 #[.val (.ref a1)] [])) t → Steps p.tables e below A t := fun t k => hA ▸ k
  have KK : Keep h0 h0 [a1] := Keep.refl h0 [a1]
  obtain ⟨_, _, ⟨T1, L1, k1_, n1⟩, -, X1, ⟨Lc1, hQ1, l1, y1, z1⟩, st1⟩ := X0.specialBack hx (y := (⟨"com/example/mopret/mopret/model/QueryLikelihood", "<init>", "()V"⟩ : MethodName)) rfl hown (mvT hZ (hw _ (List.mem_of_getElem? (i := 8) rfl))) (mvT hZ (hw _ (List.mem_of_getElem? (i := 9) rfl))) (mvT hZ (hw _ (List.mem_of_getElem? (i := 12) rfl))) (by decide) (backOf (W := 0) (rm3 l Z a0 hw [] a1  h0 n0 Z0) hZ (hw _ (List.mem_of_getElem? (i := 12) rfl)) (hw _ (List.mem_of_getElem? (i := 11) rfl)) (by decide) (by decide)) (g := (mkF m 1 #[.val (.ref a1)] [(.ref a1)])) rfl (by rw [hml]; rfl) (Steps.refl _) (a := a1) (argsL := []) (rest := []) (lenOf pd_0 rfl) rfl (by show 2 * 0 + _ ≤ _; exact Nat.le_of_eq rfl) (hb hby d_prog_51_1_1) (fun _ _ => ⟨rfl, e0, (by decide : 0 + 0 ≤ _), (by decide : 0 + 0 ≤ _)⟩)
  dsimp only [Pt.U, Pt.locs, Pt.cells, Pt.slots] at X1 l1 y1 z1 st1 hQ1
  subst l1 y1 z1
  obtain ⟨rfl, Nq1, e1⟩ := hQ1
  have N1 := Fr.app N0 Nq1
  obtain ⟨T2, h2, X2, e2, W2, st2⟩ := putF X1 hx hZ hown (host := "") (Or.inl (hw _ (List.mem_of_getElem? (i := 16) rfl))) Via.refl e1 F_l Ea (Or.inr ⟨(hw _ (List.mem_of_getElem? (i := 17) rfl)), rfl, hnm⟩) (hw _ (List.mem_of_getElem? (i := 3) rfl)) (ty := .double) (by decide) rfl rfl (g := (mkF m 6 #[.val (.ref a1)] [(.double (0 : UInt64)), (.ref a1)])) rfl rfl (hb hby d_prog_51_1_6)
  replace Ea := Ea.wr W2
  have Zs2 := Nat.le_trans Z0 (Keep.of_wr W2).1
  replace KK := KK.wr W2 (Or.inl (by simp))
  replace F_l := F_l.same W2
  have N2 := Fr.snoc X2 N1 g_a1
  obtain ⟨fs, hr, hrun, hended, hW, hsame⟩ := X2.leave (v := none) (fun _ => rfl) hlk
  refine ⟨_, _, ?_, hrun, hended, _, _, rfl, ?_, ⟨_, rfl⟩, hW, hsame.mono (by decide) (by decide)⟩
  · refine hA0 _ ?_
    refine k0 _ ?_
    refine own_f_aloadN X0.here hx (hb hby d_prog_51_1_0) rfl rfl (rfl : _ = 1) ?_
    refine st1.trans ?_
    show Steps p.tables e below (T1.setTop (mkF m 4 #[.val (.ref a1)] [])) _
    refine own_f_aloadN X1.here hx (hb hby d_prog_51_1_4) rfl rfl (rfl : _ = 5) ?_
    refine own_f_dconst0 X1.here hx (hb hby d_prog_51_1_5) (rfl : _ = (0 : UInt64)) (rfl : _ = 6) ?_
    refine st2 _ ?_
    show Steps p.tables e below (T2.setTop (mkF m 9 #[.val (.ref a1)] [])) _
    exact X2.returnOut hx Bd.returns (hb hby d_prog_51_1_9) hr
  · show Q4 Z a1 u1 h0 n0 _ T2.heap _
    rw [e2]
    exact ⟨rfl, N2, KK, F_l⟩
theorem ef_6 (m : MethodId) (x0 : Addr) (x1 : UInt64) : entryFrame m #[(.ref x0), (.double x1)] 3 = mkF m 0 #[.val (.ref x0), .val (.double x1), .second] [] := by first | (simp [entryFrame, mkF, argsToLocals, Value.category]; done) | rfl
def Q6 (Z : State) (a1 : Addr) (q : UInt64) (h0 : Heap) (n0 : Nat) (v : Option Value) (h : Heap) (L : List Loc) : Prop := v = some (.double q) ∧ Fr n0 L ∧ h = h0
set_option maxRecDepth 65536 in
set_option maxHeartbeats 40000000 in
theorem rm6 (l : Launch) (Z : State) (a0 : Array Value) (hw : ∀ d ∈ tables_1, d.before a0 Z = true) (ws : List Jvm.Cond) (a1 : Addr) (q : UInt64) (h0 : Heap) (n0 : Nat) (Z0 : n0 ≤ h0.size) (hq1 : (0 : Int32) < (cmpValue (FP.dcmp q (0 : UInt64)) .l)) (hq2 : (cmpValue (FP.dcmp q (9218868437227405312 : UInt64)) .g) < (0 : Int32)) :
    MetFree l (⟨"com/example/mopret/mopret/model/Parameters", "finitePositive", "(Ljava/lang/String;D)D"⟩ : MethodName) (head1 (Jvm.Cond.code (⟨"com/example/mopret/mopret/model/Parameters", "finitePositive", "(Ljava/lang/String;D)D"⟩ : MethodName) prog_57_method_2_code 3 (some .double) :: ws) ({ frames := 0, cells := 0, slots := 0, locals := 0 } : Room)) (fun a U => a = #[(.ref a1), (.double q)] ∧ Z.Warmed39 U.vm ∧ U.heap = h0) (fun _ _ _ _ _ => True) (fun _ U o U' => ∃ v L, o = .returned v ∧ Q6 Z a1 q h0 n0 v U'.heap L ∧ FrameEnd U o U' L ({ frames := 0, cells := 0, slots := 0, locals := 0 } : Room).cells ({ frames := 0, cells := 0, slots := 0, locals := 0 } : Room).slots) := by
  refine MetFree.of_bodySF (plainFor_of_name pn_4) hisR ?_
  intro p e s m args below meth c s₁ Bd hml0 hP hK
  obtain ⟨rfl, hZ, hh⟩ := hP
  have hlk : meth.locks = false := BodyLoose.notSynchronized Bd
  have hx := Bd.exec
  have hby := Bd.bytes
  have hml : c.maxLocals = 3 := hml0
  have hown : s.vm.findClass "com/example/mopret/mopret/model/Parameters" = some m.cls := findClass_of_methodNamed Bd.named
  have hnm := (name_of_methodNamed Bd.named Bd.method).1
  have X0 : Stand p l e ({ frames := 0, cells := 0, slots := 0, locals := 0 } : Room) s m #[(.ref a1), (.double q)] below meth c s₁ [] 0 0 := Stand.of_body Bd
  have e0 : s₁.heap = h0 := by rw [← hh, Bd.state]; rfl
  have N0 := Fr.nil n0
  obtain ⟨A, hA⟩ : ∃ A, A = s₁.setTop (mkF m 0 #[.val (.ref a1), .val (.double q), .second] []) := ⟨_, rfl⟩
  have hA0 : ∀ t, Steps p.tables e below A t → Steps p.tables e below (s₁.setTop (entryFrame m #[(.ref a1), (.double q)] 3)) t := fun t k => castTop (ef_6 m a1 q) (hA ▸ k)
  have k0 : ∀ t, Steps p.tables e below (s₁.setTop (mkF m 0 #[.val (.ref a1), .val (.double q), .second] [])) t → Steps p.tables e below A t := fun t k => hA ▸ k
  obtain ⟨fs, hr, hrun, hended, hW, hsame⟩ := X0.leave (v := some (.double q)) (fun h => by rw [Bd.returns] at h; cases h) hlk
  refine ⟨_, _, ?_, hrun, hended, _, _, rfl, ?_, ⟨_, rfl⟩, hW, hsame.mono (by decide) (by decide)⟩
  · refine hA0 _ ?_
    refine k0 _ ?_
    refine own_f_dloadN X0.here hx (hb hby d_prog_57_2_0) rfl (rfl : _ = 1) ?_
    refine own_f_dconst0 X0.here hx (hb hby d_prog_57_2_1) (rfl : _ = (0 : UInt64)) (rfl : _ = 2) ?_
    refine own_f_dcmp X0.here hx (hb hby d_prog_57_2_2) rfl (rfl : _ = 3) ?_
    refine own_f_ifNo X0.here hx (hb hby d_prog_57_2_3) ((if0 _ _).trans (tlt (hq1)).2.2.2) (rfl : _ = 6) ?_
    refine own_f_dloadN X0.here hx (hb hby d_prog_57_2_6) rfl (rfl : _ = 7) ?_
    refine own_f_ldc2DoubleC X0 hx hown (mvT hZ (hw _ (List.mem_of_getElem? (i := 61) rfl))) (hb hby d_prog_57_2_7) (rfl : _ = 10) ?_
    refine own_f_dcmp X0.here hx (hb hby d_prog_57_2_10) rfl (rfl : _ = 11) ?_
    refine own_f_ifYes X0.here hx (hb hby d_prog_57_2_11) ((if0 _ _).trans (tlt (hq2)).1) (by decide) (by decide : _ = 29) ?_
    refine own_f_dloadN X0.here hx (hb hby d_prog_57_2_29) rfl (rfl : _ = 30) ?_
    exact retD X0 hx Bd.returns (hb hby d_prog_57_2_30) hr
  · show Q6 Z a1 q h0 n0 _ s₁.heap _
    rw [e0]
    exact ⟨rfl, N0, rfl⟩
theorem ef_7 (m : MethodId) (x0 : Addr) (x1 : UInt64) : entryFrame m #[(.ref x0), (.double x1)] 3 = mkF m 0 #[.val (.ref x0), .val (.double x1), .second] [] := by first | (simp [entryFrame, mkF, argsToLocals, Value.category]; done) | rfl
def Q7 (Z : State) (a1 : Addr) (q : UInt64) (u1 : Value) (h0 : Heap) (n0 : Nat) (v : Option Value) (h : Heap) (L : List Loc) : Prop := v = none ∧ Fr n0 L ∧ Keep h0 h [a1] ∧ Fld Z h a1 "com/example/mopret/mopret/model/Dirichlet" "mu" "D" (.double q)
set_option maxRecDepth 65536 in
set_option maxHeartbeats 40000000 in
theorem rm7 (l : Launch) (Z : State) (a0 : Array Value) (hw : ∀ d ∈ tables_1, d.before a0 Z = true) (ws : List Jvm.Cond) (a1 : Addr) (q : UInt64) (u1 : Value) (h0 : Heap) (n0 : Nat) (Z0 : n0 ≤ h0.size) (Ea : Exa Z h0 a1 "com/example/mopret/mopret/model/Dirichlet") (F_l : Fld Z h0 a1 "com/example/mopret/mopret/model/Dirichlet" "mu" "D" u1) (g_a1 : n0 ≤ a1) (hq1 : (0 : Int32) < (cmpValue (FP.dcmp q (0 : UInt64)) .l)) (hq2 : (cmpValue (FP.dcmp q (9218868437227405312 : UInt64)) .g) < (0 : Int32)) :
    MetFree l (⟨"com/example/mopret/mopret/model/Dirichlet", "<init>", "(D)V"⟩ : MethodName) (head1 (Jvm.Cond.code (⟨"com/example/mopret/mopret/model/Dirichlet", "<init>", "(D)V"⟩ : MethodName) prog_51_method_2_code 3 none :: ws) ({ frames := 2, cells := 2, slots := 12, locals := 24 } : Room)) (fun a U => a = #[(.ref a1), (.double q)] ∧ Z.Warmed39 U.vm ∧ U.heap = h0) (fun _ _ _ _ _ => True) (fun _ U o U' => ∃ v L, o = .returned v ∧ Q7 Z a1 q u1 h0 n0 v U'.heap L ∧ ReturnedEndW U o U' L ({ frames := 2, cells := 2, slots := 12, locals := 24 } : Room).cells ({ frames := 2, cells := 2, slots := 12, locals := 24 } : Room).slots) := by
  refine MetFree.of_bodySF (plainFor_of_name pn_3) hisR ?_
  intro p e s m args below meth c s₁ Bd hml0 hP hK
  obtain ⟨rfl, hZ, hh⟩ := hP
  have hlk : meth.locks = false := BodyLoose.notSynchronized Bd
  have hx := Bd.exec
  have hby := Bd.bytes
  have hml : c.maxLocals = 3 := hml0
  have hown : s.vm.findClass "com/example/mopret/mopret/model/Dirichlet" = some m.cls := findClass_of_methodNamed Bd.named
  have hnm := (name_of_methodNamed Bd.named Bd.method).1
  have X0 : Stand p l e ({ frames := 2, cells := 2, slots := 12, locals := 24 } : Room) s m #[(.ref a1), (.double q)] below meth c s₁ [] 0 0 := Stand.of_body Bd
  have e0 : s₁.heap = h0 := by rw [← hh, Bd.state]; rfl
  have N0 := Fr.nil n0
  obtain ⟨A, hA⟩ : ∃ A, A = s₁.setTop (mkF m 0 #[.val (.ref a1), .val (.double q), .second] []) := ⟨_, rfl⟩
  have hA0 : ∀ t, Steps p.tables e below A t → Steps p.tables e below (s₁.setTop (entryFrame m #[(.ref a1), (.double q)] 3)) t := fun t k => castTop (ef_7 m a1 q) (hA ▸ k)
  have k0 : ∀ t, Steps p.tables e below (s₁.setTop (mkF m 0 #[.val (.ref a1), .val (.double q), .second] [])) t → Steps p.tables e below A t := fun t k => hA ▸ k
  have hS0 : s.Since s.vm 0 := (Jvm.State.WarmedH.refl s).since 0
  have Sk0 : 0 ≤ h0.size := Nat.zero_le _
  have KK : Keep h0 h0 [a1] := Keep.refl h0 [a1]
  obtain ⟨_, _, ⟨T1, L1, k1_, n1⟩, -, X1, ⟨Lc1, hQ1, l1, y1, z1⟩, st1⟩ := X0.specialBack hx (y := (⟨"com/example/mopret/mopret/model/QueryLikelihood", "<init>", "()V"⟩ : MethodName)) rfl hown (mvT hZ (hw _ (List.mem_of_getElem? (i := 8) rfl))) (mvT hZ (hw _ (List.mem_of_getElem? (i := 9) rfl))) (mvT hZ (hw _ (List.mem_of_getElem? (i := 12) rfl))) (by decide) (backOf (W := 0) (rm3 l Z a0 hw [] a1  h0 n0 Z0) hZ (hw _ (List.mem_of_getElem? (i := 12) rfl)) (hw _ (List.mem_of_getElem? (i := 11) rfl)) (by decide) (by decide)) (g := (mkF m 1 #[.val (.ref a1), .val (.double q), .second] [(.ref a1)])) rfl (by rw [hml]; rfl) (Steps.refl _) (a := a1) (argsL := []) (rest := []) (lenOf pd_0 rfl) rfl (by show 2 * 0 + _ ≤ _; exact Nat.le_of_eq rfl) (hb hby d_prog_51_2_1) (fun _ _ => ⟨rfl, e0, (by decide : 0 + 0 ≤ _), (by decide : 0 + 0 ≤ _)⟩)
  dsimp only [Pt.U, Pt.locs, Pt.cells, Pt.slots] at X1 l1 y1 z1 st1 hQ1
  subst l1 y1 z1
  obtain ⟨rfl, Nq1, e1⟩ := hQ1
  have N1 := Fr.app N0 Nq1
  obtain ⟨a2, T2, h2, k12, X2, e2, E2, hS2, hk2, hZ, hown, -, -, st2⟩ := ldcOH (EL := []) (s := s) (vm0 := s.vm) X1 hx hZ hown (hw _ (List.mem_of_getElem? (i := 49) rfl)) (own_wS hw) e1 hS0 Sk0 EW.nil (fun _ hp_ => by cases hp_) (g := (mkF m 5 #[.val (.ref a1), .val (.double q), .second] [(.ref a1)])) rfl (hb hby d_prog_51_2_5) (n := 8) (by decide) (by decide) (by decide) (by decide)
  replace Ea := Ea.ext E2
  replace F_l := F_l.ext E2
  have Zs2 := Nat.le_trans Z0 E2.1
  have Sk2 := Nat.le_trans Sk0 E2.1
  replace KK := KK.ext E2
  obtain ⟨_, _, ⟨T3, L3, k3_, n3⟩, -, X3, ⟨Lc3, hQ3, l3, y3, z3⟩, st3⟩ := Jvm.LawKit.callS X2 hx (y := (⟨"com/example/mopret/mopret/model/Parameters", "finitePositive", "(Ljava/lang/String;D)D"⟩ : MethodName)) hown (mvT hZ (hw _ (List.mem_of_getElem? (i := 57) rfl))) (mvT hZ (hw _ (List.mem_of_getElem? (i := 58) rfl))) (mvT hZ (hw _ (List.mem_of_getElem? (i := 59) rfl))) (mvT hZ (hw _ (List.mem_of_getElem? (i := 60) rfl))) (by decide) (backOf (W := 1) (rm6 l Z a0 hw [] a2 q  h2 n0 Zs2 hq1 hq2) hZ (hw _ (List.mem_of_getElem? (i := 60) rfl)) (hw _ (List.mem_of_getElem? (i := 59) rfl)) (by decide) (by decide)) (g := (mkF m 8 #[.val (.ref a1), .val (.double q), .second] [(.double q), (.ref a2), (.ref a1)])) rfl (by rw [hml]; rfl) (argsL := [(.ref a2), (.double q)]) (rest := [(.ref a1)]) (lenOf pd_1 rfl) rfl (by show 2 * 0 + _ ≤ _; exact Nat.le_of_eq rfl) (hb hby d_prog_51_2_8) (fun _ _ => ⟨rfl, e2, (by decide : 2 + 0 ≤ _), (by decide : 12 + 0 ≤ _)⟩)
  dsimp only [Pt.U, Pt.locs, Pt.cells, Pt.slots] at X3 l3 y3 z3 st3 hQ3
  subst l3 y3 z3
  obtain ⟨rfl, Nq3, e3⟩ := hQ3
  have N3 := Fr.app N1 Nq3
  obtain ⟨T4, h4, X4, e4, W4, st4⟩ := putF X3 hx hZ hown (host := "") (Or.inl (hw _ (List.mem_of_getElem? (i := 16) rfl))) Via.refl e3 F_l Ea (Or.inr ⟨(hw _ (List.mem_of_getElem? (i := 17) rfl)), rfl, hnm⟩) (hw _ (List.mem_of_getElem? (i := 3) rfl)) (ty := .double) (by decide) rfl rfl (g := (mkF m 11 #[.val (.ref a1), .val (.double q), .second] [(.double q), (.ref a1)])) rfl rfl (hb hby d_prog_51_2_11)
  replace Ea := Ea.wr W4
  have Zs4 := Nat.le_trans Zs2 (Keep.of_wr W4).1
  have Sk4 := Nat.le_trans hk2 (Keep.of_wr W4).1
  replace KK := KK.wr W4 (Or.inl (by simp))
  replace F_l := F_l.same W4
  have N4 := Fr.snoc X4 N3 g_a1
  obtain ⟨fs, hr, hrun, hended, hW⟩ := Stand.leaveW (s := s) (vm₁ := T2.vm) X4 hS2 (by rw [e4]; exact Sk4) (v := none) (fun _ => rfl) hlk
  refine ⟨_, _, ?_, hrun, hended, _, _, rfl, ?_, hW.1, hW.2.1, hW.2.2.1, hW.2.2.2.mono (by decide) (by decide)⟩
  · refine hA0 _ ?_
    refine k0 _ ?_
    refine own_f_aloadN X0.here hx (hb hby d_prog_51_2_0) rfl rfl (rfl : _ = 1) ?_
    refine st1.trans ?_
    show Steps p.tables e below (T1.setTop (mkF m 4 #[.val (.ref a1), .val (.double q), .second] [])) _
    refine own_f_aloadN X1.here hx (hb hby d_prog_51_2_4) rfl rfl (rfl : _ = 5) ?_
    refine st2 _ ?_
    show Steps p.tables e below (T2.setTop (mkF m 7 #[.val (.ref a1), .val (.double q), .second] [(.ref a2), (.ref a1)])) _
    refine own_f_dloadN X2.here hx (hb hby d_prog_51_2_7) rfl (rfl : _ = 8) ?_
    refine st3 _ ?_
    show Steps p.tables e below (T3.setTop (mkF m 11 #[.val (.ref a1), .val (.double q), .second] [(.double q), (.ref a1)])) _
    refine st4 _ ?_
    show Steps p.tables e below (T4.setTop (mkF m 14 #[.val (.ref a1), .val (.double q), .second] [])) _
    exact X4.returnOut hx Bd.returns (hb hby d_prog_51_2_14) hr
  · show Q7 Z a1 q u1 h0 n0 _ T4.heap _
    rw [e4]
    exact ⟨rfl, N4, KK, F_l⟩
theorem ef_8 (m : MethodId) (x0 : Addr) : entryFrame m #[(.ref x0)] 1 = mkF m 0 #[.val (.ref x0)] [] := by first | (simp [entryFrame, mkF, argsToLocals, Value.category]; done) | rfl
def Q8 (Z : State) (a1 : Addr) (d1 : Int32) (d2 : Int64) (h0 : Heap) (n0 : Nat) (v : Option Value) (h : Heap) (L : List Loc) : Prop := v = some (.double (FP.ddiv (FP.l2d d2) (FP.i2d d1))) ∧ Fr n0 L ∧ h = h0
set_option maxRecDepth 65536 in
set_option maxHeartbeats 40000000 in
theorem rm8 (l : Launch) (Z : State) (a0 : Array Value) (hw : ∀ d ∈ tables_1, d.before a0 Z = true) (ws : List Jvm.Cond) (a1 : Addr) (d1 : Int32) (d2 : Int64) (h0 : Heap) (n0 : Nat) (Z0 : n0 ≤ h0.size) (F_d : Fld Z h0 a1 "com/example/mopret/mopret/index/CollectionStatistics" "documents" "I" (.int d1)) (F_t : Fld Z h0 a1 "com/example/mopret/mopret/index/CollectionStatistics" "tokens" "J" (.long d2)) (n1 : Jvm.Free.Fl.NoNaN64 (FP.ddiv (FP.l2d d2) (FP.i2d d1))) :
    MetFree l (⟨"com/example/mopret/mopret/index/CollectionStatistics", "meanLength", "()D"⟩ : MethodName) (head1 (Jvm.Cond.code (⟨"com/example/mopret/mopret/index/CollectionStatistics", "meanLength", "()D"⟩ : MethodName) prog_19_method_2_code 1 (some .double) :: ws) ({ frames := 0, cells := 0, slots := 0, locals := 0 } : Room)) (fun a U => a = #[(.ref a1)] ∧ Z.Warmed39 U.vm ∧ U.heap = h0) (fun _ _ _ _ _ => True) (fun _ U o U' => ∃ v L, o = .returned v ∧ Q8 Z a1 d1 d2 h0 n0 v U'.heap L ∧ FrameEnd U o U' L ({ frames := 0, cells := 0, slots := 0, locals := 0 } : Room).cells ({ frames := 0, cells := 0, slots := 0, locals := 0 } : Room).slots) := by
  refine MetFree.of_bodySF (plainFor_of_name pn_2) hisR ?_
  intro p e s m args below meth c s₁ Bd hml0 hP hK
  obtain ⟨rfl, hZ, hh⟩ := hP
  have hlk : meth.locks = false := BodyLoose.notSynchronized Bd
  have hx := Bd.exec
  have hby := Bd.bytes
  have hml : c.maxLocals = 1 := hml0
  have hown : s.vm.findClass "com/example/mopret/mopret/index/CollectionStatistics" = some m.cls := findClass_of_methodNamed Bd.named
  have hnm := (name_of_methodNamed Bd.named Bd.method).1
  have X0 : Stand p l e ({ frames := 0, cells := 0, slots := 0, locals := 0 } : Room) s m #[(.ref a1)] below meth c s₁ [] 0 0 := Stand.of_body Bd
  have e0 : s₁.heap = h0 := by rw [← hh, Bd.state]; rfl
  have N0 := Fr.nil n0
  obtain ⟨A, hA⟩ : ∃ A, A = s₁.setTop (mkF m 0 #[.val (.ref a1)] []) := ⟨_, rfl⟩
  have hA0 : ∀ t, Steps p.tables e below A t → Steps p.tables e below (s₁.setTop (entryFrame m #[(.ref a1)] 1)) t := fun t k => castTop (ef_8 m a1) (hA ▸ k)
  have k0 : ∀ t, Steps p.tables e below (s₁.setTop (mkF m 0 #[.val (.ref a1)] [])) t → Steps p.tables e below A t := fun t k => hA ▸ k
  obtain ⟨T1, X1, e1, st1⟩ := getF X0 hx hZ hown (host := "") (Or.inl (hw _ (List.mem_of_getElem? (i := 32) rfl))) Via.refl e0 F_t (g := (mkF m 1 #[.val (.ref a1)] [(.ref a1)])) rfl rfl (hb hby d_prog_19_2_1)
  obtain ⟨T2, X2, e2, st2⟩ := getF X1 hx hZ hown (host := "") (Or.inl (hw _ (List.mem_of_getElem? (i := 30) rfl))) Via.refl e1 F_d (g := (mkF m 6 #[.val (.ref a1)] [(.ref a1), (.double (FP.l2d d2))])) rfl rfl (hb hby d_prog_19_2_6)
  obtain ⟨fs, hr, hrun, hended, hW, hsame⟩ := X2.leave (v := some (.double (FP.ddiv (FP.l2d d2) (FP.i2d d1)))) (fun h => by rw [Bd.returns] at h; cases h) hlk
  refine ⟨_, _, ?_, hrun, hended, _, _, rfl, ?_, ⟨_, rfl⟩, hW, hsame.mono (by decide) (by decide)⟩
  · refine hA0 _ ?_
    refine k0 _ ?_
    refine own_f_aloadN X0.here hx (hb hby d_prog_19_2_0) rfl rfl (rfl : _ = 1) ?_
    refine st1 _ ?_
    show Steps p.tables e below (T1.setTop (mkF m 4 #[.val (.ref a1)] [(.long d2)])) _
    refine own_f_l2d X1.here hx (hb hby d_prog_19_2_4) rfl (rfl : _ = 5) ?_
    refine own_f_aloadN X1.here hx (hb hby d_prog_19_2_5) rfl rfl (rfl : _ = 6) ?_
    refine st2 _ ?_
    show Steps p.tables e below (T2.setTop (mkF m 9 #[.val (.ref a1)] [(.int d1), (.double (FP.l2d d2))])) _
    refine own_f_i2d X2.here hx (hb hby d_prog_19_2_9) rfl (rfl : _ = 10) ?_
    refine own_f_ddiv X2.here hx (hb hby d_prog_19_2_10) (n1) rfl (rfl : _ = 11) ?_
    exact retD X2 hx Bd.returns (hb hby d_prog_19_2_11) hr
  · show Q8 Z a1 d1 d2 h0 n0 _ T2.heap _
    rw [e2]
    exact ⟨rfl, N0, rfl⟩
theorem ef_5 (m : MethodId) (x0 : Addr) (x1 : Int32) (x2 : UInt64) (x3 : UInt64) (x4 : Addr) : entryFrame m #[(.ref x0), (.int x1), (.double x2), (.double x3), (.ref x4)] 9 = mkF m 0 #[.val (.ref x0), .val (.int x1), .val (.double x2), .second, .val (.double x3), .second, .val (.ref x4), .unset, .unset] [] := by first | (simp [entryFrame, mkF, argsToLocals, Value.category]; done) | rfl
def Q5 (Z : State) (a1 : Addr) (p2 : Int32) (x9 : UInt64) (y : UInt64) (a2 : Addr) (mu : UInt64) (h0 : Heap) (n0 : Nat) (v : Option Value) (h : Heap) (L : List Loc) : Prop := v = some (.double (FP.ddiv (FP.dadd (FP.i2d p2) (FP.dmul mu y)) (FP.dadd x9 mu))) ∧ Fr n0 L ∧ h = h0
set_option maxRecDepth 65536 in
set_option maxHeartbeats 40000000 in
theorem rm5 (l : Launch) (Z : State) (a0 : Array Value) (hw : ∀ d ∈ tables_1, d.before a0 Z = true) (ws : List Jvm.Cond) (a1 : Addr) (p2 : Int32) (x9 : UInt64) (y : UInt64) (a2 : Addr) (mu : UInt64) (h0 : Heap) (n0 : Nat) (Z0 : n0 ≤ h0.size) (F_l : Fld Z h0 a1 "com/example/mopret/mopret/model/Dirichlet" "mu" "D" (.double mu)) (hq1 : (0 : Int32) < (cmpValue (FP.dcmp mu (0 : UInt64)) .l)) (n1 : Jvm.Free.Fl.NoNaN64 (FP.dmul mu y)) (n2 : Jvm.Free.Fl.NoNaN64 (FP.dadd (FP.i2d p2) (FP.dmul mu y))) (n3 : Jvm.Free.Fl.NoNaN64 (FP.dadd x9 mu)) (n4 : Jvm.Free.Fl.NoNaN64 (FP.ddiv (FP.dadd (FP.i2d p2) (FP.dmul mu y)) (FP.dadd x9 mu))) :
    MetFree l (⟨"com/example/mopret/mopret/model/Dirichlet", "probability", "(IDDLcom/example/mopret/mopret/index/CollectionStatistics;)D"⟩ : MethodName) (head1 (Jvm.Cond.code (⟨"com/example/mopret/mopret/model/Dirichlet", "probability", "(IDDLcom/example/mopret/mopret/index/CollectionStatistics;)D"⟩ : MethodName) prog_51_method_3_code 9 (some .double) :: ws) ({ frames := 0, cells := 0, slots := 0, locals := 0 } : Room)) (fun a U => a = #[(.ref a1), (.int p2), (.double x9), (.double y), (.ref a2)] ∧ Z.Warmed39 U.vm ∧ U.heap = h0) (fun _ _ _ _ _ => True) (fun _ U o U' => ∃ v L, o = .returned v ∧ Q5 Z a1 p2 x9 y a2 mu h0 n0 v U'.heap L ∧ FrameEnd U o U' L ({ frames := 0, cells := 0, slots := 0, locals := 0 } : Room).cells ({ frames := 0, cells := 0, slots := 0, locals := 0 } : Room).slots) := by
  refine MetFree.of_bodySF (plainFor_of_name pn_3) hisR ?_
  intro p e s m args below meth c s₁ Bd hml0 hP hK
  obtain ⟨rfl, hZ, hh⟩ := hP
  have hlk : meth.locks = false := BodyLoose.notSynchronized Bd
  have hx := Bd.exec
  have hby := Bd.bytes
  have hml : c.maxLocals = 9 := hml0
  have hown : s.vm.findClass "com/example/mopret/mopret/model/Dirichlet" = some m.cls := findClass_of_methodNamed Bd.named
  have hnm := (name_of_methodNamed Bd.named Bd.method).1
  have X0 : Stand p l e ({ frames := 0, cells := 0, slots := 0, locals := 0 } : Room) s m #[(.ref a1), (.int p2), (.double x9), (.double y), (.ref a2)] below meth c s₁ [] 0 0 := Stand.of_body Bd
  have e0 : s₁.heap = h0 := by rw [← hh, Bd.state]; rfl
  have N0 := Fr.nil n0
  obtain ⟨A, hA⟩ : ∃ A, A = s₁.setTop (mkF m 0 #[.val (.ref a1), .val (.int p2), .val (.double x9), .second, .val (.double y), .second, .val (.ref a2), .unset, .unset] []) := ⟨_, rfl⟩
  have hA0 : ∀ t, Steps p.tables e below A t → Steps p.tables e below (s₁.setTop (entryFrame m #[(.ref a1), (.int p2), (.double x9), (.double y), (.ref a2)] 9)) t := fun t k => castTop (ef_5 m a1 p2 x9 y a2) (hA ▸ k)
  have k0 : ∀ t, Steps p.tables e below (s₁.setTop (mkF m 0 #[.val (.ref a1), .val (.int p2), .val (.double x9), .second, .val (.double y), .second, .val (.ref a2), .unset, .unset] [])) t → Steps p.tables e below A t := fun t k => hA ▸ k
  obtain ⟨T1, X1, e1, st1⟩ := getF X0 hx hZ hown (host := "") (Or.inl (hw _ (List.mem_of_getElem? (i := 16) rfl))) Via.refl e0 F_l (g := (mkF m 1 #[.val (.ref a1), .val (.int p2), .val (.double x9), .second, .val (.double y), .second, .val (.ref a2), .unset, .unset] [(.ref a1)])) rfl rfl (hb hby d_prog_51_3_1)
  obtain ⟨T2, X2, e2, st2⟩ := getF X1 hx hZ hown (host := "") (Or.inl (hw _ (List.mem_of_getElem? (i := 16) rfl))) Via.refl e1 F_l (g := (mkF m 10 #[.val (.ref a1), .val (.int p2), .val (.double x9), .second, .val (.double y), .second, .val (.ref a2), .unset, .unset] [(.ref a1)])) rfl rfl (hb hby d_prog_51_3_10)
  obtain ⟨fs, hr, hrun, hended, hW, hsame⟩ := X2.leave (v := some (.double (FP.ddiv (FP.dadd (FP.i2d p2) (FP.dmul mu y)) (FP.dadd x9 mu)))) (fun h => by rw [Bd.returns] at h; cases h) hlk
  refine ⟨_, _, ?_, hrun, hended, _, _, rfl, ?_, ⟨_, rfl⟩, hW, hsame.mono (by decide) (by decide)⟩
  · refine hA0 _ ?_
    refine k0 _ ?_
    refine own_f_aloadN X0.here hx (hb hby d_prog_51_3_0) rfl rfl (rfl : _ = 1) ?_
    refine st1 _ ?_
    show Steps p.tables e below (T1.setTop (mkF m 4 #[.val (.ref a1), .val (.int p2), .val (.double x9), .second, .val (.double y), .second, .val (.ref a2), .unset, .unset] [(.double mu)])) _
    refine own_f_dconst0 X1.here hx (hb hby d_prog_51_3_4) (rfl : _ = (0 : UInt64)) (rfl : _ = 5) ?_
    refine own_f_dcmp X1.here hx (hb hby d_prog_51_3_5) rfl (rfl : _ = 6) ?_
    refine own_f_ifNo X1.here hx (hb hby d_prog_51_3_6) ((if0 _ _).trans (tlt (hq1)).2.2.2) (rfl : _ = 9) ?_
    refine own_f_aloadN X1.here hx (hb hby d_prog_51_3_9) rfl rfl (rfl : _ = 10) ?_
    refine st2 _ ?_
    show Steps p.tables e below (T2.setTop (mkF m 13 #[.val (.ref a1), .val (.int p2), .val (.double x9), .second, .val (.double y), .second, .val (.ref a2), .unset, .unset] [(.double mu)])) _
    refine own_f_goto X2.here hx (hb hby d_prog_51_3_13) (by decide) (by decide : _ = 21) ?_
    refine own_f_dstore X2.here hx (hb hby d_prog_51_3_21) (rfl : storeLocals _ _ _ = some #[.val (.ref a1), .val (.int p2), .val (.double x9), .second, .val (.double y), .second, .val (.ref a2), .val (.double mu), .second]) (rfl : _ = 23) ?_
    refine own_f_iloadN X2.here hx (hb hby d_prog_51_3_23) rfl (rfl : _ = 24) ?_
    refine own_f_i2d X2.here hx (hb hby d_prog_51_3_24) rfl (rfl : _ = 25) ?_
    refine own_f_dload X2.here hx (hb hby d_prog_51_3_25) rfl (rfl : _ = 27) ?_
    refine own_f_dload X2.here hx (hb hby d_prog_51_3_27) rfl (rfl : _ = 29) ?_
    refine own_f_dmul X2.here hx (hb hby d_prog_51_3_29) (n1) rfl (rfl : _ = 30) ?_
    refine own_f_dadd X2.here hx (hb hby d_prog_51_3_30) (n2) rfl (rfl : _ = 31) ?_
    refine own_f_dloadN X2.here hx (hb hby d_prog_51_3_31) rfl (rfl : _ = 32) ?_
    refine own_f_dload X2.here hx (hb hby d_prog_51_3_32) rfl (rfl : _ = 34) ?_
    refine own_f_dadd X2.here hx (hb hby d_prog_51_3_34) (n3) rfl (rfl : _ = 35) ?_
    refine own_f_ddiv X2.here hx (hb hby d_prog_51_3_35) (n4) rfl (rfl : _ = 36) ?_
    exact retD X2 hx Bd.returns (hb hby d_prog_51_3_36) hr
  · show Q5 Z a1 p2 x9 y a2 mu h0 n0 _ T2.heap _
    rw [e2]
    exact ⟨rfl, N0, rfl⟩
theorem ef_9 (m : MethodId) (x0 : Addr) (x1 : Int32) (x2 : UInt64) (x3 : UInt64) (x4 : Addr) : entryFrame m #[(.ref x0), (.int x1), (.double x2), (.double x3), (.ref x4)] 9 = mkF m 0 #[.val (.ref x0), .val (.int x1), .val (.double x2), .second, .val (.double x3), .second, .val (.ref x4), .unset, .unset] [] := by first | (simp [entryFrame, mkF, argsToLocals, Value.category]; done) | rfl
def Q9 (Z : State) (a1 : Addr) (p2 : Int32) (x9 : UInt64) (y : UInt64) (a2 : Addr) (mu : UInt64) (d1 : Int32) (d2 : Int64) (h0 : Heap) (n0 : Nat) (v : Option Value) (h : Heap) (L : List Loc) : Prop := v = some (.double (FP.ddiv (FP.dadd (FP.i2d p2) (FP.dmul mu y)) (FP.dadd x9 mu))) ∧ Fr n0 L ∧ h = h0
set_option maxRecDepth 65536 in
set_option maxHeartbeats 40000000 in
theorem rm9 (l : Launch) (Z : State) (a0 : Array Value) (hw : ∀ d ∈ tables_1, d.before a0 Z = true) (ws : List Jvm.Cond) (a1 : Addr) (p2 : Int32) (x9 : UInt64) (y : UInt64) (a2 : Addr) (mu : UInt64) (d1 : Int32) (d2 : Int64) (h0 : Heap) (n0 : Nat) (Z0 : n0 ≤ h0.size) (F_l : Fld Z h0 a1 "com/example/mopret/mopret/model/Dirichlet" "mu" "D" (.double 0)) (Ea2 : Exa Z h0 a2 "com/example/mopret/mopret/index/CollectionStatistics") (F_d : Fld Z h0 a2 "com/example/mopret/mopret/index/CollectionStatistics" "documents" "I" (.int d1)) (F_t : Fld Z h0 a2 "com/example/mopret/mopret/index/CollectionStatistics" "tokens" "J" (.long d2)) (n0_ : Jvm.Free.Fl.NoNaN64 (FP.ddiv (FP.l2d d2) (FP.i2d d1))) (hmu : FP.ddiv (FP.l2d d2) (FP.i2d d1) = mu) (n1 : Jvm.Free.Fl.NoNaN64 (FP.dmul mu y)) (n2 : Jvm.Free.Fl.NoNaN64 (FP.dadd (FP.i2d p2) (FP.dmul mu y))) (n3 : Jvm.Free.Fl.NoNaN64 (FP.dadd x9 mu)) (n4 : Jvm.Free.Fl.NoNaN64 (FP.ddiv (FP.dadd (FP.i2d p2) (FP.dmul mu y)) (FP.dadd x9 mu))) :
    MetFree l (⟨"com/example/mopret/mopret/model/Dirichlet", "probability", "(IDDLcom/example/mopret/mopret/index/CollectionStatistics;)D"⟩ : MethodName) (head1 (Jvm.Cond.code (⟨"com/example/mopret/mopret/model/Dirichlet", "probability", "(IDDLcom/example/mopret/mopret/index/CollectionStatistics;)D"⟩ : MethodName) prog_51_method_3_code 9 (some .double) :: ws) ({ frames := 1, cells := 0, slots := 0, locals := 12 } : Room)) (fun a U => a = #[(.ref a1), (.int p2), (.double x9), (.double y), (.ref a2)] ∧ Z.Warmed39 U.vm ∧ U.heap = h0) (fun _ _ _ _ _ => True) (fun _ U o U' => ∃ v L, o = .returned v ∧ Q9 Z a1 p2 x9 y a2 mu d1 d2 h0 n0 v U'.heap L ∧ FrameEnd U o U' L ({ frames := 1, cells := 0, slots := 0, locals := 12 } : Room).cells ({ frames := 1, cells := 0, slots := 0, locals := 12 } : Room).slots) := by
  refine MetFree.of_bodySF (plainFor_of_name pn_3) hisR ?_
  intro p e s m args below meth c s₁ Bd hml0 hP hK
  obtain ⟨rfl, hZ, hh⟩ := hP
  have hlk : meth.locks = false := BodyLoose.notSynchronized Bd
  have hx := Bd.exec
  have hby := Bd.bytes
  have hml : c.maxLocals = 9 := hml0
  have hown : s.vm.findClass "com/example/mopret/mopret/model/Dirichlet" = some m.cls := findClass_of_methodNamed Bd.named
  have hnm := (name_of_methodNamed Bd.named Bd.method).1
  have X0 : Stand p l e ({ frames := 1, cells := 0, slots := 0, locals := 12 } : Room) s m #[(.ref a1), (.int p2), (.double x9), (.double y), (.ref a2)] below meth c s₁ [] 0 0 := Stand.of_body Bd
  have e0 : s₁.heap = h0 := by rw [← hh, Bd.state]; rfl
  have N0 := Fr.nil n0
  obtain ⟨A, hA⟩ : ∃ A, A = s₁.setTop (mkF m 0 #[.val (.ref a1), .val (.int p2), .val (.double x9), .second, .val (.double y), .second, .val (.ref a2), .unset, .unset] []) := ⟨_, rfl⟩
  have hA0 : ∀ t, Steps p.tables e below A t → Steps p.tables e below (s₁.setTop (entryFrame m #[(.ref a1), (.int p2), (.double x9), (.double y), (.ref a2)] 9)) t := fun t k => castTop (ef_9 m a1 p2 x9 y a2) (hA ▸ k)
  have k0 : ∀ t, Steps p.tables e below (s₁.setTop (mkF m 0 #[.val (.ref a1), .val (.int p2), .val (.double x9), .second, .val (.double y), .second, .val (.ref a2), .unset, .unset] [])) t → Steps p.tables e below A t := fun t k => hA ▸ k
  obtain ⟨T1, X1, e1, st1⟩ := getF X0 hx hZ hown (host := "") (Or.inl (hw _ (List.mem_of_getElem? (i := 16) rfl))) Via.refl e0 F_l (g := (mkF m 1 #[.val (.ref a1), .val (.int p2), .val (.double x9), .second, .val (.double y), .second, .val (.ref a2), .unset, .unset] [(.ref a1)])) rfl rfl (hb hby d_prog_51_3_1)
  obtain ⟨cq2, kq2, q2a, q2b, q2c⟩ := isOf hZ e1 Ea2
  obtain ⟨_, _, ⟨T2, L2, k2_, n2⟩, -, X2, ⟨Lc2, hQ2, l2, y2, z2⟩, st2⟩ := X1.virtualBack hx (y := (⟨"com/example/mopret/mopret/index/CollectionStatistics", "meanLength", "()D"⟩ : MethodName)) (z := (⟨"com/example/mopret/mopret/index/CollectionStatistics", "meanLength", "()D"⟩ : MethodName)) hown (mvT hZ (hw _ (List.mem_of_getElem? (i := 41) rfl))) (mvT hZ (hw _ (List.mem_of_getElem? (i := 42) rfl))) (notFace_of_selects (args := #[]) (mvT hZ (hw _ (List.mem_of_getElem? (i := 44) rfl)))) (mvT hZ (hw _ (List.mem_of_getElem? (i := 44) rfl))) (mvT hZ (hw _ (List.mem_of_getElem? (i := 43) rfl))) (by decide) (backOf (W := 0) (rm8 l Z a0 hw [] a2 d1 d2 h0 n0 Z0 F_d F_t n0_) hZ (hw _ (List.mem_of_getElem? (i := 45) rfl)) (hw _ (List.mem_of_getElem? (i := 20) rfl)) (by decide) (by decide)) q2a q2c (g := (mkF m 18 #[.val (.ref a1), .val (.int p2), .val (.double x9), .second, .val (.double y), .second, .val (.ref a2), .unset, .unset] [(.ref a2)])) rfl (by rw [hml]; rfl) (Steps.refl _) (argsL := []) (rest := []) (lenOf pd_2 rfl) rfl (by show 2 * 0 + _ ≤ _; exact Nat.le_of_eq rfl) (hb hby d_prog_51_3_18) (fun _ _ => ⟨rfl, e1, (by decide : 0 + 0 ≤ _), (by decide : 0 + 0 ≤ _)⟩)
  dsimp only [Pt.U, Pt.locs, Pt.cells, Pt.slots] at X2 l2 y2 z2 st2 hQ2
  subst l2 y2 z2
  obtain ⟨rfl, Nq2, e2⟩ := hQ2
  have N2 := Fr.app N0 Nq2
  have k3 : ∀ t_, Steps p.tables e below (T2.setTop (mkF m 21 #[.val (.ref a1), .val (.int p2), .val (.double x9), .second, .val (.double y), .second, .val (.ref a2), .unset, .unset] [(.double (FP.ddiv (FP.l2d d2) (FP.i2d d1)))])) t_ → Steps p.tables e below A t_ := by
    intro t_ ht_
    refine k0 t_ ?_
    refine own_f_aloadN X0.here hx (hb hby d_prog_51_3_0) rfl rfl (rfl : _ = 1) ?_
    refine st1 _ ?_
    show Steps p.tables e below (T1.setTop (mkF m 4 #[.val (.ref a1), .val (.int p2), .val (.double x9), .second, .val (.double y), .second, .val (.ref a2), .unset, .unset] [(.double (0 : UInt64))])) t_
    refine own_f_dconst0 X1.here hx (hb hby d_prog_51_3_4) (rfl : _ = (0 : UInt64)) (rfl : _ = 5) ?_
    refine own_f_dcmp X1.here hx (hb hby d_prog_51_3_5) rfl (rfl : _ = 6) ?_
    refine own_f_ifYes X1.here hx (hb hby d_prog_51_3_6) ((if0 _ _).trans (flt (by decide +kernel)).2.2.2) (by decide) (by decide : _ = 16) ?_
    refine own_f_aload X1.here hx (hb hby d_prog_51_3_16) rfl rfl (rfl : _ = 18) ?_
    refine st2.trans ?_
    show Steps p.tables e below (T2.setTop (mkF m 21 #[.val (.ref a1), .val (.int p2), .val (.double x9), .second, .val (.double y), .second, .val (.ref a2), .unset, .unset] [(.double (FP.ddiv (FP.l2d d2) (FP.i2d d1)))])) t_
    exact ht_
  rw [hmu] at k3
  obtain ⟨fs, hr, hrun, hended, hW, hsame⟩ := X2.leave (v := some (.double (FP.ddiv (FP.dadd (FP.i2d p2) (FP.dmul mu y)) (FP.dadd x9 mu)))) (fun h => by rw [Bd.returns] at h; cases h) hlk
  refine ⟨_, _, ?_, hrun, hended, _, _, rfl, ?_, ⟨_, rfl⟩, hW, hsame.mono (by decide) (by decide)⟩
  · refine hA0 _ ?_
    refine k3 _ ?_
    refine own_f_dstore X2.here hx (hb hby d_prog_51_3_21) (rfl : storeLocals _ _ _ = some #[.val (.ref a1), .val (.int p2), .val (.double x9), .second, .val (.double y), .second, .val (.ref a2), .val (.double mu), .second]) (rfl : _ = 23) ?_
    refine own_f_iloadN X2.here hx (hb hby d_prog_51_3_23) rfl (rfl : _ = 24) ?_
    refine own_f_i2d X2.here hx (hb hby d_prog_51_3_24) rfl (rfl : _ = 25) ?_
    refine own_f_dload X2.here hx (hb hby d_prog_51_3_25) rfl (rfl : _ = 27) ?_
    refine own_f_dload X2.here hx (hb hby d_prog_51_3_27) rfl (rfl : _ = 29) ?_
    refine own_f_dmul X2.here hx (hb hby d_prog_51_3_29) (n1) rfl (rfl : _ = 30) ?_
    refine own_f_dadd X2.here hx (hb hby d_prog_51_3_30) (n2) rfl (rfl : _ = 31) ?_
    refine own_f_dloadN X2.here hx (hb hby d_prog_51_3_31) rfl (rfl : _ = 32) ?_
    refine own_f_dload X2.here hx (hb hby d_prog_51_3_32) rfl (rfl : _ = 34) ?_
    refine own_f_dadd X2.here hx (hb hby d_prog_51_3_34) (n3) rfl (rfl : _ = 35) ?_
    refine own_f_ddiv X2.here hx (hb hby d_prog_51_3_35) (n4) rfl (rfl : _ = 36) ?_
    exact retD X2 hx Bd.returns (hb hby d_prog_51_3_36) hr
  · show Q9 Z a1 p2 x9 y a2 mu d1 d2 h0 n0 _ T2.heap _
    rw [e2]
    exact ⟨rfl, N2, rfl⟩
theorem ef_0 (m : MethodId) (x0 : Int32) (x1 : Int32) (x2 : Int32) (x3 : Int32) : entryFrame m #[(.int x0), (.int x1), (.int x2), (.int x3)] maxLocals = mkF m 0 #[.val (.int x0), .val (.int x1), .val (.int x2), .val (.int x3), .unset, .unset, .unset, .unset, .unset, .unset, .unset, .unset, .unset, .unset, .unset, .unset, .unset, .unset, .unset, .unset, .unset, .unset, .unset, .unset, .unset, .unset] [] := by first | (simp [entryFrame, mkF, argsToLocals, Value.category, maxLocals]; done) | rfl
def Q0 (Z : State) (p1 : Int32) (p2 : Int32) (p3 : Int32) (p4 : Int32) (h0 : Heap) (n0 : Nat) (v : Option Value) (h : Heap) (L : List Loc) : Prop := v = some (.int (1 : Int32)) ∧ Fr n0 L
set_option maxRecDepth 65536 in
set_option maxHeartbeats 40000000 in
theorem rm0 (l : Launch) (Z : State) (a0 : Array Value) (hw : ∀ d ∈ tables_1, d.before a0 Z = true) (ws : List Jvm.Cond) (p1 : Int32) (p2 : Int32) (p3 : Int32) (p4 : Int32) (h0 : Heap) (n0 : Nat) (Z0 : n0 ≤ h0.size) :
    MetFree l x (head1 (Jvm.Cond.code x code maxLocals ret :: ws) room_1) (fun a U => a = #[(.int p1), (.int p2), (.int p3), (.int p4)] ∧ Z.Warmed39 U.vm ∧ U.heap = h0) (fun _ _ _ _ _ => True) (fun _ U o U' => ∃ v L, o = .returned v ∧ Q0 Z p1 p2 p3 p4 h0 n0 v U'.heap L ∧ ReturnedEndW U o U' L room_1.cells room_1.slots) := by
  refine MetFree.of_bodySF (plainFor_of_name pn_5) hisR ?_
  intro p e s m args below meth c s₁ Bd hml0 hP hK
  obtain ⟨rfl, hZ, hh⟩ := hP
  have hlk : meth.locks = false := BodyLoose.notSynchronized Bd
  have hx := Bd.exec
  have hby := Bd.bytes
  have hml : c.maxLocals = 26 := hml0
  have hown : s.vm.findClass "com/example/mopret/mopret/model/DirichletProbabilityPinLaw" = some m.cls := findClass_of_methodNamed Bd.named
  have hnm := (name_of_methodNamed Bd.named Bd.method).1
  have X0 : Stand p l e room_1 s m #[(.int p1), (.int p2), (.int p3), (.int p4)] below meth c s₁ [] 0 0 := Stand.of_body Bd
  have e0 : s₁.heap = h0 := by rw [← hh, Bd.state]; rfl
  have N0 := Fr.nil n0
  obtain ⟨A, hA⟩ : ∃ A, A = s₁.setTop (mkF m 0 #[.val (.int p1), .val (.int p2), .val (.int p3), .val (.int p4), .unset, .unset, .unset, .unset, .unset, .unset, .unset, .unset, .unset, .unset, .unset, .unset, .unset, .unset, .unset, .unset, .unset, .unset, .unset, .unset, .unset, .unset] []) := ⟨_, rfl⟩
  have hA0 : ∀ t, Steps p.tables e below A t → Steps p.tables e below (s₁.setTop (entryFrame m #[(.int p1), (.int p2), (.int p3), (.int p4)] maxLocals)) t := fun t k => castTop (ef_0 m p1 p2 p3 p4) (hA ▸ k)
  have k0 : ∀ t, Steps p.tables e below (s₁.setTop (mkF m 0 #[.val (.int p1), .val (.int p2), .val (.int p3), .val (.int p4), .unset, .unset, .unset, .unset, .unset, .unset, .unset, .unset, .unset, .unset, .unset, .unset, .unset, .unset, .unset, .unset, .unset, .unset, .unset, .unset, .unset, .unset] [])) t → Steps p.tables e below A t := fun t k => hA ▸ k
  have hS0 : s.Since s.vm 0 := (Jvm.State.WarmedH.refl s).since 0
  have Sk0 : 0 ≤ h0.size := Nat.zero_le _
  have k1 : ∀ t_, Steps p.tables e below (s₁.setTop (mkF m 6 #[.val (.int p1), .val (.int p2), .val (.int p3), .val (.int p4), .val (.int (p2 &&& (2147483647 : Int32))), .unset, .unset, .unset, .unset, .unset, .unset, .unset, .unset, .unset, .unset, .unset, .unset, .unset, .unset, .unset, .unset, .unset, .unset, .unset, .unset, .unset] [])) t_ → Steps p.tables e below A t_ := by
    intro t_ ht_
    refine k0 t_ ?_
    refine own_f_iloadN X0.here hx (hb hby at_0) rfl (rfl : _ = 1) ?_
    refine own_f_ldcInt X0 hx hown (mvT hZ (hw _ (List.mem_of_getElem? (i := 0) rfl))) (hb hby at_1) (rfl : _ = 3) ?_
    refine own_f_iand X0.here hx (hb hby at_3) rfl (rfl : _ = 4) ?_
    refine own_f_istore X0.here hx (hb hby at_4) (rfl : storeLocals _ _ _ = some #[.val (.int p1), .val (.int p2), .val (.int p3), .val (.int p4), .val (.int (p2 &&& (2147483647 : Int32))), .unset, .unset, .unset, .unset, .unset, .unset, .unset, .unset, .unset, .unset, .unset, .unset, .unset, .unset, .unset, .unset, .unset, .unset, .unset, .unset, .unset]) (rfl : _ = 6) ?_
    exact ht_
  obtain ⟨lg, hlg⟩ : ∃ z : Int32, z = (p2 &&& (2147483647 : Int32)) := ⟨_, rfl⟩
  rw [← hlg] at k1
  have k2 : ∀ t_, Steps p.tables e below (s₁.setTop (mkF m 13 #[.val (.int p1), .val (.int p2), .val (.int p3), .val (.int p4), .val (.int lg), .val (.long ((p3 &&& (1048575 : Int32)).toInt64)), .second, .unset, .unset, .unset, .unset, .unset, .unset, .unset, .unset, .unset, .unset, .unset, .unset, .unset, .unset, .unset, .unset, .unset, .unset, .unset] [])) t_ → Steps p.tables e below A t_ := by
    intro t_ ht_
    refine k1 t_ ?_
    refine own_f_iloadN X0.here hx (hb hby at_6) rfl (rfl : _ = 7) ?_
    refine own_f_ldcInt X0 hx hown (mvT hZ (hw _ (List.mem_of_getElem? (i := 1) rfl))) (hb hby at_7) (rfl : _ = 9) ?_
    refine own_f_iand X0.here hx (hb hby at_9) rfl (rfl : _ = 10) ?_
    refine own_f_i2l X0.here hx (hb hby at_10) (rfl : _ = 11) ?_
    refine own_f_lstore X0.here hx (hb hby at_11) (rfl : storeLocals _ _ _ = some #[.val (.int p1), .val (.int p2), .val (.int p3), .val (.int p4), .val (.int lg), .val (.long ((p3 &&& (1048575 : Int32)).toInt64)), .second, .unset, .unset, .unset, .unset, .unset, .unset, .unset, .unset, .unset, .unset, .unset, .unset, .unset, .unset, .unset, .unset, .unset, .unset, .unset]) (rfl : _ = 13) ?_
    exact ht_
  obtain ⟨bB, hbB⟩ : ∃ z : Int64, z = ((p3 &&& (1048575 : Int32)).toInt64) := ⟨_, rfl⟩
  rw [← hbB] at k2
  have k3 : ∀ t_, Steps p.tables e below (s₁.setTop (mkF m 22 #[.val (.int p1), .val (.int p2), .val (.int p3), .val (.int p4), .val (.int lg), .val (.long bB), .second, .val (.int (((p3.toUInt32 >>> ((20 : Int32) &&& 31).toUInt32).toInt32) &&& (15 : Int32))), .unset, .unset, .unset, .unset, .unset, .unset, .unset, .unset, .unset, .unset, .unset, .unset, .unset, .unset, .unset, .unset, .unset, .unset] [])) t_ → Steps p.tables e below A t_ := by
    intro t_ ht_
    refine k2 t_ ?_
    refine own_f_iloadN X0.here hx (hb hby at_13) rfl (rfl : _ = 14) ?_
    refine own_f_bipush X0.here hx (hb hby at_14) (rfl : _ = (20 : Int32)) (rfl : _ = 16) ?_
    refine own_f_iushr X0.here hx (hb hby at_16) (rfl : _ = 17) ?_
    refine own_f_bipush X0.here hx (hb hby at_17) (rfl : _ = (15 : Int32)) (rfl : _ = 19) ?_
    refine own_f_iand X0.here hx (hb hby at_19) rfl (rfl : _ = 20) ?_
    refine own_f_istore X0.here hx (hb hby at_20) (rfl : storeLocals _ _ _ = some #[.val (.int p1), .val (.int p2), .val (.int p3), .val (.int p4), .val (.int lg), .val (.long bB), .second, .val (.int (((p3.toUInt32 >>> ((20 : Int32) &&& 31).toUInt32).toInt32) &&& (15 : Int32))), .unset, .unset, .unset, .unset, .unset, .unset, .unset, .unset, .unset, .unset, .unset, .unset, .unset, .unset, .unset, .unset, .unset, .unset]) (rfl : _ = 22) ?_
    exact ht_
  obtain ⟨jj, hjj⟩ : ∃ z : Int32, z = (((p3.toUInt32 >>> ((20 : Int32) &&& 31).toUInt32).toInt32) &&& (15 : Int32)) := ⟨_, rfl⟩
  rw [← hjj] at k3
  have k4 : ∀ t_, Steps p.tables e below (s₁.setTop (mkF m 31 #[.val (.int p1), .val (.int p2), .val (.int p3), .val (.int p4), .val (.int lg), .val (.long bB), .second, .val (.int jj), .val (.long (((1 : Int32) + (p4 &&& (1048575 : Int32))).toInt64)), .second, .unset, .unset, .unset, .unset, .unset, .unset, .unset, .unset, .unset, .unset, .unset, .unset, .unset, .unset, .unset, .unset] [])) t_ → Steps p.tables e below A t_ := by
    intro t_ ht_
    refine k3 t_ ?_
    refine own_f_iconst X0.here hx (hb hby at_22) (rfl : _ = (1 : Int32)) (rfl : _ = 23) ?_
    refine own_f_iloadN X0.here hx (hb hby at_23) rfl (rfl : _ = 24) ?_
    refine own_f_ldcInt X0 hx hown (mvT hZ (hw _ (List.mem_of_getElem? (i := 1) rfl))) (hb hby at_24) (rfl : _ = 26) ?_
    refine own_f_iand X0.here hx (hb hby at_26) rfl (rfl : _ = 27) ?_
    refine own_f_iadd X0.here hx (hb hby at_27) rfl (rfl : _ = 28) ?_
    refine own_f_i2l X0.here hx (hb hby at_28) (rfl : _ = 29) ?_
    refine own_f_lstore X0.here hx (hb hby at_29) (rfl : storeLocals _ _ _ = some #[.val (.int p1), .val (.int p2), .val (.int p3), .val (.int p4), .val (.int lg), .val (.long bB), .second, .val (.int jj), .val (.long (((1 : Int32) + (p4 &&& (1048575 : Int32))).toInt64)), .second, .unset, .unset, .unset, .unset, .unset, .unset, .unset, .unset, .unset, .unset, .unset, .unset, .unset, .unset, .unset, .unset]) (rfl : _ = 31) ?_
    exact ht_
  obtain ⟨tt, htt⟩ : ∃ z : Int64, z = (((1 : Int32) + (p4 &&& (1048575 : Int32))).toInt64) := ⟨_, rfl⟩
  rw [← htt] at k4
  have k5 : ∀ t_, Steps p.tables e below (s₁.setTop (mkF m 39 #[.val (.int p1), .val (.int p2), .val (.int p3), .val (.int p4), .val (.int lg), .val (.long bB), .second, .val (.int jj), .val (.long tt), .second, .val (.int (((p4.toUInt32 >>> ((20 : Int32) &&& 31).toUInt32).toInt32) &&& (3 : Int32))), .unset, .unset, .unset, .unset, .unset, .unset, .unset, .unset, .unset, .unset, .unset, .unset, .unset, .unset, .unset] [])) t_ → Steps p.tables e below A t_ := by
    intro t_ ht_
    refine k4 t_ ?_
    refine own_f_iloadN X0.here hx (hb hby at_31) rfl (rfl : _ = 32) ?_
    refine own_f_bipush X0.here hx (hb hby at_32) (rfl : _ = (20 : Int32)) (rfl : _ = 34) ?_
    refine own_f_iushr X0.here hx (hb hby at_34) (rfl : _ = 35) ?_
    refine own_f_iconst X0.here hx (hb hby at_35) (rfl : _ = (3 : Int32)) (rfl : _ = 36) ?_
    refine own_f_iand X0.here hx (hb hby at_36) rfl (rfl : _ = 37) ?_
    refine own_f_istore X0.here hx (hb hby at_37) (rfl : storeLocals _ _ _ = some #[.val (.int p1), .val (.int p2), .val (.int p3), .val (.int p4), .val (.int lg), .val (.long bB), .second, .val (.int jj), .val (.long tt), .second, .val (.int (((p4.toUInt32 >>> ((20 : Int32) &&& 31).toUInt32).toInt32) &&& (3 : Int32))), .unset, .unset, .unset, .unset, .unset, .unset, .unset, .unset, .unset, .unset, .unset, .unset, .unset, .unset, .unset]) (rfl : _ = 39) ?_
    exact ht_
  obtain ⟨ee, hee⟩ : ∃ z : Int32, z = (((p4.toUInt32 >>> ((20 : Int32) &&& 31).toUInt32).toInt32) &&& (3 : Int32)) := ⟨_, rfl⟩
  rw [← hee] at k5
  have k6 : ∀ t_, Steps p.tables e below (s₁.setTop (mkF m 45 #[.val (.int p1), .val (.int p2), .val (.int p3), .val (.int p4), .val (.int lg), .val (.long bB), .second, .val (.int jj), .val (.long tt), .second, .val (.int ee), .unset, .unset, .unset, .unset, .unset, .unset, .unset, .unset, .unset, .unset, .unset, .unset, .unset, .unset, .unset] [(.int (((p4.toUInt32 >>> ((22 : Int32) &&& 31).toUInt32).toInt32) &&& (1 : Int32)))])) t_ → Steps p.tables e below A t_ := by
    intro t_ ht_
    refine k5 t_ ?_
    refine own_f_iloadN X0.here hx (hb hby at_39) rfl (rfl : _ = 40) ?_
    refine own_f_bipush X0.here hx (hb hby at_40) (rfl : _ = (22 : Int32)) (rfl : _ = 42) ?_
    refine own_f_iushr X0.here hx (hb hby at_42) (rfl : _ = 43) ?_
    refine own_f_iconst X0.here hx (hb hby at_43) (rfl : _ = (1 : Int32)) (rfl : _ = 44) ?_
    refine own_f_iand X0.here hx (hb hby at_44) rfl (rfl : _ = 45) ?_
    exact ht_
  obtain ⟨fm, hfm, k7⟩ : ∃ z : Int32, (((((p4.toUInt32 >>> ((22 : Int32) &&& 31).toUInt32).toInt32) &&& (1 : Int32)) = (0 : Int32)) ∧ z = (0 : Int32) ∨ ¬ ((((p4.toUInt32 >>> ((22 : Int32) &&& 31).toUInt32).toInt32) &&& (1 : Int32)) = (0 : Int32)) ∧ z = (1 : Int32)) ∧ ∀ t_, Steps p.tables e below (s₁.setTop (mkF m 53 #[.val (.int p1), .val (.int p2), .val (.int p3), .val (.int p4), .val (.int lg), .val (.long bB), .second, .val (.int jj), .val (.long tt), .second, .val (.int ee), .unset, .unset, .unset, .unset, .unset, .unset, .unset, .unset, .unset, .unset, .unset, .unset, .unset, .unset, .unset] [(.int z)])) t_ → Steps p.tables e below A t_ := by
    by_cases hfm : (((p4.toUInt32 >>> ((22 : Int32) &&& 31).toUInt32).toInt32) &&& (1 : Int32)) = (0 : Int32)
    · refine ⟨(0 : Int32), Or.inl ⟨hfm, rfl⟩, fun t_ ht_ => ?_⟩
      refine k6 t_ ?_
      refine own_f_ifYes X0.here hx (hb hby at_45) ((if0 _ _).trans (teq (hfm)).1) (by decide) (by decide : _ = 52) ?_
      refine own_f_iconst X0.here hx (hb hby at_52) (rfl : _ = (0 : Int32)) (rfl : _ = 53) ?_
      exact ht_
    · refine ⟨(1 : Int32), Or.inr ⟨hfm, rfl⟩, fun t_ ht_ => ?_⟩
      refine k6 t_ ?_
      refine own_f_ifNo X0.here hx (hb hby at_45) ((if0 _ _).trans (feq (hfm)).1) (rfl : _ = 48) ?_
      refine own_f_iconst X0.here hx (hb hby at_48) (rfl : _ = (1 : Int32)) (rfl : _ = 49) ?_
      refine own_f_goto X0.here hx (hb hby at_49) (by decide) (by decide : _ = 53) ?_
      exact ht_
  have k8 : ∀ t_, Steps p.tables e below (s₁.setTop (mkF m 66 #[.val (.int p1), .val (.int p2), .val (.int p3), .val (.int p4), .val (.int lg), .val (.long bB), .second, .val (.int jj), .val (.long tt), .second, .val (.int ee), .val (.int fm), .val (.double (FP.ddiv (FP.l2d bB) (FP.l2d ((1 : Int64) <<< (jj &&& 0x3f).toInt64)))), .second, .unset, .unset, .unset, .unset, .unset, .unset, .unset, .unset, .unset, .unset, .unset, .unset] [])) t_ → Steps p.tables e below A t_ := by
    intro t_ ht_
    refine k7 t_ ?_
    refine own_f_istore X0.here hx (hb hby at_53) (rfl : storeLocals _ _ _ = some #[.val (.int p1), .val (.int p2), .val (.int p3), .val (.int p4), .val (.int lg), .val (.long bB), .second, .val (.int jj), .val (.long tt), .second, .val (.int ee), .val (.int fm), .unset, .unset, .unset, .unset, .unset, .unset, .unset, .unset, .unset, .unset, .unset, .unset, .unset, .unset]) (rfl : _ = 55) ?_
    refine own_f_lload X0.here hx (hb hby at_55) rfl (rfl : _ = 57) ?_
    refine own_f_l2d X0.here hx (hb hby at_57) rfl (rfl : _ = 58) ?_
    refine own_f_lconst X0.here hx (hb hby at_58) (rfl : _ = (1 : Int64)) (rfl : _ = 59) ?_
    refine own_f_iload X0.here hx (hb hby at_59) rfl (rfl : _ = 61) ?_
    refine own_f_lshl X0.here hx (hb hby at_61) (rfl : _ = 62) ?_
    refine own_f_l2d X0.here hx (hb hby at_62) rfl (rfl : _ = 63) ?_
    refine own_f_ddiv X0.here hx (hb hby at_63) (own_nn1 hbB hjj) rfl (rfl : _ = 64) ?_
    refine own_f_dstore X0.here hx (hb hby at_64) (rfl : storeLocals _ _ _ = some #[.val (.int p1), .val (.int p2), .val (.int p3), .val (.int p4), .val (.int lg), .val (.long bB), .second, .val (.int jj), .val (.long tt), .second, .val (.int ee), .val (.int fm), .val (.double (FP.ddiv (FP.l2d bB) (FP.l2d ((1 : Int64) <<< (jj &&& 0x3f).toInt64)))), .second, .unset, .unset, .unset, .unset, .unset, .unset, .unset, .unset, .unset, .unset, .unset, .unset]) (rfl : _ = 66) ?_
    exact ht_
  obtain ⟨y, hy⟩ : ∃ z : UInt64, z = (FP.ddiv (FP.l2d bB) (FP.l2d ((1 : Int64) <<< (jj &&& 0x3f).toInt64))) := ⟨_, rfl⟩
  rw [← hy] at k8
  have k9 : ∀ t_, Steps p.tables e below (s₁.setTop (mkF m 77 #[.val (.int p1), .val (.int p2), .val (.int p3), .val (.int p4), .val (.int lg), .val (.long bB), .second, .val (.int jj), .val (.long tt), .second, .val (.int ee), .val (.int fm), .val (.double y), .second, .val (.double (FP.ddiv (FP.l2d tt) (FP.l2d ((1 : Int64) <<< (ee &&& 0x3f).toInt64)))), .second, .unset, .unset, .unset, .unset, .unset, .unset, .unset, .unset, .unset, .unset] [])) t_ → Steps p.tables e below A t_ := by
    intro t_ ht_
    refine k8 t_ ?_
    refine own_f_lload X0.here hx (hb hby at_66) rfl (rfl : _ = 68) ?_
    refine own_f_l2d X0.here hx (hb hby at_68) rfl (rfl : _ = 69) ?_
    refine own_f_lconst X0.here hx (hb hby at_69) (rfl : _ = (1 : Int64)) (rfl : _ = 70) ?_
    refine own_f_iload X0.here hx (hb hby at_70) rfl (rfl : _ = 72) ?_
    refine own_f_lshl X0.here hx (hb hby at_72) (rfl : _ = 73) ?_
    refine own_f_l2d X0.here hx (hb hby at_73) rfl (rfl : _ = 74) ?_
    refine own_f_ddiv X0.here hx (hb hby at_74) (own_nn2 htt hee) rfl (rfl : _ = 75) ?_
    refine own_f_dstore X0.here hx (hb hby at_75) (rfl : storeLocals _ _ _ = some #[.val (.int p1), .val (.int p2), .val (.int p3), .val (.int p4), .val (.int lg), .val (.long bB), .second, .val (.int jj), .val (.long tt), .second, .val (.int ee), .val (.int fm), .val (.double y), .second, .val (.double (FP.ddiv (FP.l2d tt) (FP.l2d ((1 : Int64) <<< (ee &&& 0x3f).toInt64)))), .second, .unset, .unset, .unset, .unset, .unset, .unset, .unset, .unset, .unset, .unset]) (rfl : _ = 77) ?_
    exact ht_
  obtain ⟨mu, hmu⟩ : ∃ z : UInt64, z = (FP.ddiv (FP.l2d tt) (FP.l2d ((1 : Int64) <<< (ee &&& 0x3f).toInt64))) := ⟨_, rfl⟩
  rw [← hmu] at k9
  obtain ⟨hq1, hq2, hmm, n0_, n1, n2, n3, n4, n9, hfin⟩ := own_dir (p1 := p1) hlg hbB hjj htt hee hy hmu
  have k10 : ∀ t_, Steps p.tables e below (s₁.setTop (mkF m 79 #[.val (.int p1), .val (.int p2), .val (.int p3), .val (.int p4), .val (.int lg), .val (.long bB), .second, .val (.int jj), .val (.long tt), .second, .val (.int ee), .val (.int fm), .val (.double y), .second, .val (.double mu), .second, .unset, .unset, .unset, .unset, .unset, .unset, .unset, .unset, .unset, .unset] [(.int fm)])) t_ → Steps p.tables e below A t_ := by
    intro t_ ht_
    refine k9 t_ ?_
    refine own_f_iload X0.here hx (hb hby at_77) rfl (rfl : _ = 79) ?_
    exact ht_
  by_cases hz : fm = (0 : Int32)
  · obtain ⟨T11, h11, X11, e11, E11, A11, D11, -, st11⟩ := newO X0 hx hZ hown (hw _ (List.mem_of_getElem? (i := 2) rfl)) (hw _ (List.mem_of_getElem? (i := 3) rfl)) (hw _ (List.mem_of_getElem? (i := 4) rfl)) e0 (g := (mkF m 94 #[.val (.int p1), .val (.int p2), .val (.int p3), .val (.int p4), .val (.int lg), .val (.long bB), .second, .val (.int jj), .val (.long tt), .second, .val (.int ee), .val (.int fm), .val (.double y), .second, .val (.double mu), .second, .unset, .unset, .unset, .unset, .unset, .unset, .unset, .unset, .unset, .unset] [])) rfl (hb hby at_94) (by decide) (by decide)
    obtain ⟨b11, g11⟩ : ∃ z, z = h0.size := ⟨_, rfl⟩
    rw [← g11] at A11 D11 st11
    have g_b11 : n0 ≤ b11 := Nat.le_trans Z0 (Nat.le_of_eq g11.symm)
    have Zs11 := Nat.le_trans Z0 E11.1
    have Sk11 := Nat.le_trans Sk0 E11.1
    have Ex_b11 := A11
    have F_mu_b11 : Fld Z h11 b11 "com/example/mopret/mopret/model/Dirichlet" "mu" "D" (.double (0 : UInt64)) := D11 (Or.inr (hw _ (List.mem_of_getElem? (i := 17) rfl))) (ty := .double) (by decide)
    obtain ⟨_, _, ⟨T12, L12, k12_, n12⟩, -, X12, ⟨Lc12, hQ12, l12, y12, z12⟩, st12⟩ := X11.specialBack hx (y := (⟨"com/example/mopret/mopret/model/Dirichlet", "<init>", "()V"⟩ : MethodName)) rfl hown (mvT hZ (hw _ (List.mem_of_getElem? (i := 5) rfl))) (mvT hZ (hw _ (List.mem_of_getElem? (i := 6) rfl))) (mvT hZ (hw _ (List.mem_of_getElem? (i := 7) rfl))) (by decide) (backOf (W := 1) (rm4 l Z a0 hw [] b11 _ h11 n0 Zs11 Ex_b11 F_mu_b11 g_b11) hZ (hw _ (List.mem_of_getElem? (i := 7) rfl)) (hw _ (List.mem_of_getElem? (i := 4) rfl)) (by decide) (by decide)) (g := (mkF m 98 #[.val (.int p1), .val (.int p2), .val (.int p3), .val (.int p4), .val (.int lg), .val (.long bB), .second, .val (.int jj), .val (.long tt), .second, .val (.int ee), .val (.int fm), .val (.double y), .second, .val (.double mu), .second, .unset, .unset, .unset, .unset, .unset, .unset, .unset, .unset, .unset, .unset] [(.ref b11), (.ref b11)])) rfl (by rw [hml]; rfl) (Steps.refl _) (a := b11) (argsL := []) (rest := [(.ref b11)]) (lenOf pd_0 rfl) rfl (by show 2 * 0 + _ ≤ _; exact Nat.le_of_eq rfl) (hb hby at_98) (fun _ _ => ⟨rfl, e11, (by decide : 1 + 0 ≤ _), (by decide : 1 + 0 ≤ _)⟩)
    dsimp only [Pt.U, Pt.locs, Pt.cells, Pt.slots] at X12 l12 y12 z12 st12 hQ12
    subst l12 y12 z12
    obtain ⟨rfl, Nq12, Kp, Fl⟩ := hQ12
    have N12 := Fr.app N0 Nq12
    replace Ex_b11 := Ex_b11.keep Kp
    have Zs12 := Nat.le_trans Zs11 Kp.1
    have Sk12 := Nat.le_trans Sk11 Kp.1
    obtain ⟨T13, h13, X13, e13, E13, A13, D13, -, st13⟩ := newO X12 hx hZ hown (hw _ (List.mem_of_getElem? (i := 18) rfl)) (hw _ (List.mem_of_getElem? (i := 19) rfl)) (hw _ (List.mem_of_getElem? (i := 20) rfl)) rfl (g := (mkF m 127 #[.val (.int p1), .val (.int p2), .val (.int p3), .val (.int p4), .val (.int lg), .val (.long bB), .second, .val (.int jj), .val (.long tt), .second, .val (.int ee), .val (.int fm), .val (.double y), .second, .val (.double mu), .second, .val (.ref b11), .unset, .unset, .unset, .unset, .unset, .unset, .unset, .unset, .unset] [])) rfl (hb hby at_127) (by decide) (by decide)
    obtain ⟨b13, g13⟩ : ∃ z, z = T12.heap.size := ⟨_, rfl⟩
    rw [← g13] at A13 D13 st13
    have ne_b11_b13 : b11 ≠ b13 := Nat.ne_of_lt (Nat.lt_of_lt_of_le Ex_b11.lt (Nat.le_of_eq g13.symm))
    have g_b13 : n0 ≤ b13 := Nat.le_trans Zs12 (Nat.le_of_eq g13.symm)
    replace Ex_b11 := Ex_b11.ext E13
    replace Fl := Fl.ext E13
    have Zs13 := Nat.le_trans Zs12 E13.1
    have Sk13 := Nat.le_trans Sk12 E13.1
    have Ex_b13 := A13
    have F_documents_b13 : Fld Z h13 b13 "com/example/mopret/mopret/index/CollectionStatistics" "documents" "I" (.int (0 : Int32)) := D13 (Or.inr (hw _ (List.mem_of_getElem? (i := 31) rfl))) (ty := .int) (by decide)
    have F_tokens_b13 : Fld Z h13 b13 "com/example/mopret/mopret/index/CollectionStatistics" "tokens" "J" (.long (0 : Int64)) := D13 (Or.inr (hw _ (List.mem_of_getElem? (i := 33) rfl))) (ty := .long) (by decide)
    have F_terms_b13 : Fld Z h13 b13 "com/example/mopret/mopret/index/CollectionStatistics" "terms" "I" (.int (0 : Int32)) := D13 (Or.inr (hw _ (List.mem_of_getElem? (i := 35) rfl))) (ty := .int) (by decide)
    obtain ⟨_, _, ⟨T14, L14, k14_, n14⟩, -, X14, ⟨Lc14, hQ14, l14, y14, z14⟩, st14⟩ := X13.specialBack hx (y := (⟨"com/example/mopret/mopret/index/CollectionStatistics", "<init>", "(IJI)V"⟩ : MethodName)) rfl hown (mvT hZ (hw _ (List.mem_of_getElem? (i := 21) rfl))) (mvT hZ (hw _ (List.mem_of_getElem? (i := 22) rfl))) (mvT hZ (hw _ (List.mem_of_getElem? (i := 23) rfl))) (by decide) (backOf (W := 1) (rm1 l Z a0 hw [] b13 ((1 : Int32) <<< (ee &&& 31)) tt (0 : Int32) _ _ _ h13 n0 Zs13 Ex_b13 F_documents_b13 F_tokens_b13 F_terms_b13 g_b13) hZ (hw _ (List.mem_of_getElem? (i := 23) rfl)) (hw _ (List.mem_of_getElem? (i := 20) rfl)) (by decide) (by decide)) (g := (mkF m 138 #[.val (.int p1), .val (.int p2), .val (.int p3), .val (.int p4), .val (.int lg), .val (.long bB), .second, .val (.int jj), .val (.long tt), .second, .val (.int ee), .val (.int fm), .val (.double y), .second, .val (.double mu), .second, .val (.ref b11), .unset, .unset, .unset, .unset, .unset, .unset, .unset, .unset, .unset] [(.int (0 : Int32)), (.long tt), (.int ((1 : Int32) <<< (ee &&& 31))), (.ref b13), (.ref b13)])) rfl (by rw [hml]; rfl) (Steps.refl _) (a := b13) (argsL := [(.int ((1 : Int32) <<< (ee &&& 31))), (.long tt), (.int (0 : Int32))]) (rest := [(.ref b13)]) (lenOf pd_3 rfl) rfl (by show 2 * 0 + _ ≤ _; exact Nat.le_of_eq rfl) (hb hby at_138) (fun _ _ => ⟨rfl, e13, (by decide : 2 + 0 ≤ _), (by decide : 4 + 0 ≤ _)⟩)
    dsimp only [Pt.U, Pt.locs, Pt.cells, Pt.slots] at X14 l14 y14 z14 st14 hQ14
    subst l14 y14 z14
    obtain ⟨rfl, Nq14, Kc, Fd, Ft⟩ := hQ14
    have N14 := Fr.app N12 Nq14
    replace Ex_b11 := Ex_b11.keep Kc
    replace Fl := Fl.keep Kc (by simpa using ne_b11_b13)
    replace Ex_b13 := Ex_b13.keep Kc
    have Zs14 := Nat.le_trans Zs13 Kc.1
    have Sk14 := Nat.le_trans Sk13 Kc.1
    obtain ⟨cq15, kq15, q15a, q15b, q15c⟩ := isOf hZ rfl Ex_b11
    obtain ⟨_, _, ⟨T15, L15, k15_, n15⟩, -, X15, ⟨Lc15, hQ15, l15, y15, z15⟩, st15⟩ := X14.virtualBack hx (y := (⟨"com/example/mopret/mopret/model/Dirichlet", "probability", "(IDDLcom/example/mopret/mopret/index/CollectionStatistics;)D"⟩ : MethodName)) (z := (⟨"com/example/mopret/mopret/model/Dirichlet", "probability", "(IDDLcom/example/mopret/mopret/index/CollectionStatistics;)D"⟩ : MethodName)) hown (mvT hZ (hw _ (List.mem_of_getElem? (i := 36) rfl))) (mvT hZ (hw _ (List.mem_of_getElem? (i := 37) rfl))) (notFace_of_selects (args := #[]) (mvT hZ (hw _ (List.mem_of_getElem? (i := 39) rfl)))) (mvT hZ (hw _ (List.mem_of_getElem? (i := 39) rfl))) (mvT hZ (hw _ (List.mem_of_getElem? (i := 38) rfl))) (by decide) (backOf (W := 0) (rm9 l Z a0 hw [] b11 p1 (FP.i2d lg) y b13 mu _ _ T14.heap n0 Zs14 Fl Ex_b13 Fd Ft (hmm.symm ▸ n0_) hmm n1 n2 n3 n4) hZ (hw _ (List.mem_of_getElem? (i := 40) rfl)) (hw _ (List.mem_of_getElem? (i := 4) rfl)) (by decide) (by decide)) q15a q15c (g := (mkF m 153 #[.val (.int p1), .val (.int p2), .val (.int p3), .val (.int p4), .val (.int lg), .val (.long bB), .second, .val (.int jj), .val (.long tt), .second, .val (.int ee), .val (.int fm), .val (.double y), .second, .val (.double mu), .second, .val (.ref b11), .val (.ref b13), .unset, .unset, .unset, .unset, .unset, .unset, .unset, .unset] [(.ref b13), (.double y), (.double (FP.i2d lg)), (.int p1), (.ref b11)])) rfl (by rw [hml]; rfl) (Steps.refl _) (argsL := [(.int p1), (.double (FP.i2d lg)), (.double y), (.ref b13)]) (rest := []) (lenOf pd_4 rfl) rfl (by show 2 * 0 + _ ≤ _; exact Nat.le_of_eq rfl) (hb hby at_153) (fun _ _ => ⟨rfl, rfl, (by decide : 2 + 0 ≤ _), (by decide : 4 + 0 ≤ _)⟩)
    dsimp only [Pt.U, Pt.locs, Pt.cells, Pt.slots] at X15 l15 y15 z15 st15 hQ15
    subst l15 y15 z15
    obtain ⟨rfl, Nq15, e15⟩ := hQ15
    have N15 := Fr.app N14 Nq15
    obtain ⟨fs, hr, hrun, hended, hW⟩ := Stand.leaveW (s := s) (vm₁ := s.vm) X15 hS0 (by rw [e15]; exact Sk14) (v := some (.int (1 : Int32))) (fun h => by rw [Bd.returns] at h; cases h) hlk
    refine ⟨_, _, ?_, hrun, hended, _, _, rfl, ?_, hW.1, hW.2.1, hW.2.2.1, hW.2.2.2.mono (by decide) (by decide)⟩
    · refine hA0 _ ?_
      refine k10 _ ?_
      refine own_f_ifYes X0.here hx (hb hby at_79) ((if0 _ _).trans (teq (hz)).1) (by decide) (by decide : _ = 94) ?_
      refine st11 _ ?_
      show Steps p.tables e below (T11.setTop (mkF m 97 #[.val (.int p1), .val (.int p2), .val (.int p3), .val (.int p4), .val (.int lg), .val (.long bB), .second, .val (.int jj), .val (.long tt), .second, .val (.int ee), .val (.int fm), .val (.double y), .second, .val (.double mu), .second, .unset, .unset, .unset, .unset, .unset, .unset, .unset, .unset, .unset, .unset] [(.ref b11)])) _
      refine own_f_dup X11.here hx (hb hby at_97) rfl (rfl : _ = 98) ?_
      refine st12.trans ?_
      show Steps p.tables e below (T12.setTop (mkF m 101 #[.val (.int p1), .val (.int p2), .val (.int p3), .val (.int p4), .val (.int lg), .val (.long bB), .second, .val (.int jj), .val (.long tt), .second, .val (.int ee), .val (.int fm), .val (.double y), .second, .val (.double mu), .second, .unset, .unset, .unset, .unset, .unset, .unset, .unset, .unset, .unset, .unset] [(.ref b11)])) _
      refine own_f_astore X12.here hx (hb hby at_101) rfl (rfl : storeLocals _ _ _ = some #[.val (.int p1), .val (.int p2), .val (.int p3), .val (.int p4), .val (.int lg), .val (.long bB), .second, .val (.int jj), .val (.long tt), .second, .val (.int ee), .val (.int fm), .val (.double y), .second, .val (.double mu), .second, .val (.ref b11), .unset, .unset, .unset, .unset, .unset, .unset, .unset, .unset, .unset]) (rfl : _ = 103) ?_
      refine own_f_iload X12.here hx (hb hby at_103) rfl (rfl : _ = 105) ?_
      refine own_f_ifYes X12.here hx (hb hby at_105) ((if0 _ _).trans (teq (hz)).1) (by decide) (by decide : _ = 127) ?_
      refine st13 _ ?_
      show Steps p.tables e below (T13.setTop (mkF m 130 #[.val (.int p1), .val (.int p2), .val (.int p3), .val (.int p4), .val (.int lg), .val (.long bB), .second, .val (.int jj), .val (.long tt), .second, .val (.int ee), .val (.int fm), .val (.double y), .second, .val (.double mu), .second, .val (.ref b11), .unset, .unset, .unset, .unset, .unset, .unset, .unset, .unset, .unset] [(.ref b13)])) _
      refine own_f_dup X13.here hx (hb hby at_130) rfl (rfl : _ = 131) ?_
      refine own_f_iconst X13.here hx (hb hby at_131) (rfl : _ = (1 : Int32)) (rfl : _ = 132) ?_
      refine own_f_iload X13.here hx (hb hby at_132) rfl (rfl : _ = 134) ?_
      refine own_f_ishl X13.here hx (hb hby at_134) (rfl : _ = 135) ?_
      refine own_f_lload X13.here hx (hb hby at_135) rfl (rfl : _ = 137) ?_
      refine own_f_iconst X13.here hx (hb hby at_137) (rfl : _ = (0 : Int32)) (rfl : _ = 138) ?_
      refine st14.trans ?_
      show Steps p.tables e below (T14.setTop (mkF m 141 #[.val (.int p1), .val (.int p2), .val (.int p3), .val (.int p4), .val (.int lg), .val (.long bB), .second, .val (.int jj), .val (.long tt), .second, .val (.int ee), .val (.int fm), .val (.double y), .second, .val (.double mu), .second, .val (.ref b11), .unset, .unset, .unset, .unset, .unset, .unset, .unset, .unset, .unset] [(.ref b13)])) _
      refine own_f_astore X14.here hx (hb hby at_141) rfl (rfl : storeLocals _ _ _ = some #[.val (.int p1), .val (.int p2), .val (.int p3), .val (.int p4), .val (.int lg), .val (.long bB), .second, .val (.int jj), .val (.long tt), .second, .val (.int ee), .val (.int fm), .val (.double y), .second, .val (.double mu), .second, .val (.ref b11), .val (.ref b13), .unset, .unset, .unset, .unset, .unset, .unset, .unset, .unset]) (rfl : _ = 143) ?_
      refine own_f_aload X14.here hx (hb hby at_143) rfl rfl (rfl : _ = 145) ?_
      refine own_f_iloadN X14.here hx (hb hby at_145) rfl (rfl : _ = 146) ?_
      refine own_f_iload X14.here hx (hb hby at_146) rfl (rfl : _ = 148) ?_
      refine own_f_i2d X14.here hx (hb hby at_148) rfl (rfl : _ = 149) ?_
      refine own_f_dload X14.here hx (hb hby at_149) rfl (rfl : _ = 151) ?_
      refine own_f_aload X14.here hx (hb hby at_151) rfl rfl (rfl : _ = 153) ?_
      refine st15.trans ?_
      show Steps p.tables e below (T15.setTop (mkF m 156 #[.val (.int p1), .val (.int p2), .val (.int p3), .val (.int p4), .val (.int lg), .val (.long bB), .second, .val (.int jj), .val (.long tt), .second, .val (.int ee), .val (.int fm), .val (.double y), .second, .val (.double mu), .second, .val (.ref b11), .val (.ref b13), .unset, .unset, .unset, .unset, .unset, .unset, .unset, .unset] [(.double (FP.ddiv (FP.dadd (FP.i2d p1) (FP.dmul mu y)) (FP.dadd (FP.i2d lg) mu)))])) _
      refine own_f_dstore X15.here hx (hb hby at_156) (rfl : storeLocals _ _ _ = some #[.val (.int p1), .val (.int p2), .val (.int p3), .val (.int p4), .val (.int lg), .val (.long bB), .second, .val (.int jj), .val (.long tt), .second, .val (.int ee), .val (.int fm), .val (.double y), .second, .val (.double mu), .second, .val (.ref b11), .val (.ref b13), .val (.double (FP.ddiv (FP.dadd (FP.i2d p1) (FP.dmul mu y)) (FP.dadd (FP.i2d lg) mu))), .second, .unset, .unset, .unset, .unset, .unset, .unset]) (rfl : _ = 158) ?_
      refine own_f_iloadN X15.here hx (hb hby at_158) rfl (rfl : _ = 159) ?_
      refine own_f_i2l X15.here hx (hb hby at_159) (rfl : _ = 160) ?_
      refine own_f_lconst X15.here hx (hb hby at_160) (rfl : _ = (1 : Int64)) (rfl : _ = 161) ?_
      refine own_f_iload X15.here hx (hb hby at_161) rfl (rfl : _ = 163) ?_
      refine own_f_iload X15.here hx (hb hby at_163) rfl (rfl : _ = 165) ?_
      refine own_f_iadd X15.here hx (hb hby at_165) rfl (rfl : _ = 166) ?_
      refine own_f_lshl X15.here hx (hb hby at_166) (rfl : _ = 167) ?_
      refine own_f_lmul X15.here hx (hb hby at_167) rfl (rfl : _ = 168) ?_
      refine own_f_lload X15.here hx (hb hby at_168) rfl (rfl : _ = 170) ?_
      refine own_f_lload X15.here hx (hb hby at_170) rfl (rfl : _ = 172) ?_
      refine own_f_lmul X15.here hx (hb hby at_172) rfl (rfl : _ = 173) ?_
      refine own_f_ladd X15.here hx (hb hby at_173) rfl (rfl : _ = 174) ?_
      refine own_f_lstore X15.here hx (hb hby at_174) (rfl : storeLocals _ _ _ = some #[.val (.int p1), .val (.int p2), .val (.int p3), .val (.int p4), .val (.int lg), .val (.long bB), .second, .val (.int jj), .val (.long tt), .second, .val (.int ee), .val (.int fm), .val (.double y), .second, .val (.double mu), .second, .val (.ref b11), .val (.ref b13), .val (.double (FP.ddiv (FP.dadd (FP.i2d p1) (FP.dmul mu y)) (FP.dadd (FP.i2d lg) mu))), .second, .val (.long (((p1.toInt64) * ((1 : Int64) <<< ((jj + ee) &&& 0x3f).toInt64)) + (tt * bB))), .second, .unset, .unset, .unset, .unset]) (rfl : _ = 176) ?_
      refine own_f_iload X15.here hx (hb hby at_176) rfl (rfl : _ = 178) ?_
      refine own_f_i2l X15.here hx (hb hby at_178) (rfl : _ = 179) ?_
      refine own_f_lconst X15.here hx (hb hby at_179) (rfl : _ = (1 : Int64)) (rfl : _ = 180) ?_
      refine own_f_iload X15.here hx (hb hby at_180) rfl (rfl : _ = 182) ?_
      refine own_f_lshl X15.here hx (hb hby at_182) (rfl : _ = 183) ?_
      refine own_f_lmul X15.here hx (hb hby at_183) rfl (rfl : _ = 184) ?_
      refine own_f_lload X15.here hx (hb hby at_184) rfl (rfl : _ = 186) ?_
      refine own_f_ladd X15.here hx (hb hby at_186) rfl (rfl : _ = 187) ?_
      refine own_f_lconst X15.here hx (hb hby at_187) (rfl : _ = (1 : Int64)) (rfl : _ = 188) ?_
      refine own_f_iload X15.here hx (hb hby at_188) rfl (rfl : _ = 190) ?_
      refine own_f_lshl X15.here hx (hb hby at_190) (rfl : _ = 191) ?_
      refine own_f_lmul X15.here hx (hb hby at_191) rfl (rfl : _ = 192) ?_
      refine own_f_lstore X15.here hx (hb hby at_192) (rfl : storeLocals _ _ _ = some #[.val (.int p1), .val (.int p2), .val (.int p3), .val (.int p4), .val (.int lg), .val (.long bB), .second, .val (.int jj), .val (.long tt), .second, .val (.int ee), .val (.int fm), .val (.double y), .second, .val (.double mu), .second, .val (.ref b11), .val (.ref b13), .val (.double (FP.ddiv (FP.dadd (FP.i2d p1) (FP.dmul mu y)) (FP.dadd (FP.i2d lg) mu))), .second, .val (.long (((p1.toInt64) * ((1 : Int64) <<< ((jj + ee) &&& 0x3f).toInt64)) + (tt * bB))), .second, .val (.long ((((lg.toInt64) * ((1 : Int64) <<< (ee &&& 0x3f).toInt64)) + tt) * ((1 : Int64) <<< (jj &&& 0x3f).toInt64))), .second, .unset, .unset]) (rfl : _ = 194) ?_
      refine own_f_lload X15.here hx (hb hby at_194) rfl (rfl : _ = 196) ?_
      refine own_f_l2d X15.here hx (hb hby at_196) rfl (rfl : _ = 197) ?_
      refine own_f_lload X15.here hx (hb hby at_197) rfl (rfl : _ = 199) ?_
      refine own_f_l2d X15.here hx (hb hby at_199) rfl (rfl : _ = 200) ?_
      refine own_f_ddiv X15.here hx (hb hby at_200) (n9) rfl (rfl : _ = 201) ?_
      refine own_f_dstore X15.here hx (hb hby at_201) (rfl : storeLocals _ _ _ = some #[.val (.int p1), .val (.int p2), .val (.int p3), .val (.int p4), .val (.int lg), .val (.long bB), .second, .val (.int jj), .val (.long tt), .second, .val (.int ee), .val (.int fm), .val (.double y), .second, .val (.double mu), .second, .val (.ref b11), .val (.ref b13), .val (.double (FP.ddiv (FP.dadd (FP.i2d p1) (FP.dmul mu y)) (FP.dadd (FP.i2d lg) mu))), .second, .val (.long (((p1.toInt64) * ((1 : Int64) <<< ((jj + ee) &&& 0x3f).toInt64)) + (tt * bB))), .second, .val (.long ((((lg.toInt64) * ((1 : Int64) <<< (ee &&& 0x3f).toInt64)) + tt) * ((1 : Int64) <<< (jj &&& 0x3f).toInt64))), .second, .val (.double (FP.ddiv (FP.l2d (((p1.toInt64) * ((1 : Int64) <<< ((jj + ee) &&& 0x3f).toInt64)) + (tt * bB))) (FP.l2d ((((lg.toInt64) * ((1 : Int64) <<< (ee &&& 0x3f).toInt64)) + tt) * ((1 : Int64) <<< (jj &&& 0x3f).toInt64))))), .second]) (rfl : _ = 203) ?_
      refine own_f_dload X15.here hx (hb hby at_203) rfl (rfl : _ = 205) ?_
      refine own_f_dload X15.here hx (hb hby at_205) rfl (rfl : _ = 207) ?_
      refine own_f_dcmp X15.here hx (hb hby at_207) rfl (rfl : _ = 208) ?_
      refine own_f_ifNo X15.here hx (hb hby at_208) ((if0 _ _).trans (teq (hfin)).2) (rfl : _ = 211) ?_
      refine own_f_iconst X15.here hx (hb hby at_211) (rfl : _ = (1 : Int32)) (rfl : _ = 212) ?_
      refine own_f_goto X15.here hx (hb hby at_212) (by decide) (by decide : _ = 216) ?_
      exact retN X15 hx (t := .boolean) Bd.returns (by simp) (hb hby at_216) hr
    · show Q0 Z p1 p2 p3 p4 h0 n0 _ T15.heap _
      rw [e15]
      exact ⟨rfl, N15⟩
  · obtain ⟨T16, h16, X16, e16, E16, A16, D16, -, st16⟩ := newO X0 hx hZ hown (hw _ (List.mem_of_getElem? (i := 2) rfl)) (hw _ (List.mem_of_getElem? (i := 3) rfl)) (hw _ (List.mem_of_getElem? (i := 4) rfl)) e0 (g := (mkF m 82 #[.val (.int p1), .val (.int p2), .val (.int p3), .val (.int p4), .val (.int lg), .val (.long bB), .second, .val (.int jj), .val (.long tt), .second, .val (.int ee), .val (.int fm), .val (.double y), .second, .val (.double mu), .second, .unset, .unset, .unset, .unset, .unset, .unset, .unset, .unset, .unset, .unset] [])) rfl (hb hby at_82) (by decide) (by decide)
    obtain ⟨b16, g16⟩ : ∃ z, z = h0.size := ⟨_, rfl⟩
    rw [← g16] at A16 D16 st16
    have g_b16 : n0 ≤ b16 := Nat.le_trans Z0 (Nat.le_of_eq g16.symm)
    have Zs16 := Nat.le_trans Z0 E16.1
    have Sk16 := Nat.le_trans Sk0 E16.1
    have Ex_b16 := A16
    have F_mu_b16 : Fld Z h16 b16 "com/example/mopret/mopret/model/Dirichlet" "mu" "D" (.double (0 : UInt64)) := D16 (Or.inr (hw _ (List.mem_of_getElem? (i := 17) rfl))) (ty := .double) (by decide)
    obtain ⟨_, _, ⟨T17, L17, k17_, n17⟩, -, X17, hs17, gs17, ⟨Lc17, hQ17, l17, y17, z17⟩, st17⟩ := X16.specialBackS hx (y := (⟨"com/example/mopret/mopret/model/Dirichlet", "<init>", "(D)V"⟩ : MethodName)) rfl hown (mvT hZ (hw _ (List.mem_of_getElem? (i := 46) rfl))) (mvT hZ (hw _ (List.mem_of_getElem? (i := 47) rfl))) (mvT hZ (hw _ (List.mem_of_getElem? (i := 48) rfl))) (by decide) (backOfS (W := 1) (rm7 l Z a0 hw [] b16 mu _ h16 n0 Zs16 Ex_b16 F_mu_b16 g_b16 hq1 hq2) hZ (hw _ (List.mem_of_getElem? (i := 48) rfl)) (hw _ (List.mem_of_getElem? (i := 4) rfl)) (by decide) (by decide)) (g := (mkF m 88 #[.val (.int p1), .val (.int p2), .val (.int p3), .val (.int p4), .val (.int lg), .val (.long bB), .second, .val (.int jj), .val (.long tt), .second, .val (.int ee), .val (.int fm), .val (.double y), .second, .val (.double mu), .second, .unset, .unset, .unset, .unset, .unset, .unset, .unset, .unset, .unset, .unset] [(.double mu), (.ref b16), (.ref b16)])) rfl (by rw [hml]; rfl) (Steps.refl _) (a := b16) (argsL := [(.double mu)]) (rest := [(.ref b16)]) (lenOf pd_5 rfl) rfl (by show 2 * 0 + _ ≤ _; exact Nat.le_of_eq rfl) (hb hby at_88) (fun _ _ => ⟨rfl, e16, (by decide : 1 + 2 ≤ _), (by decide : 1 + 12 ≤ _)⟩)
    dsimp only [Pt.U, Pt.locs, Pt.cells, Pt.slots] at X17 l17 y17 z17 st17 hQ17
    subst l17 y17 z17
    have hS17 : s.Since T17.vm T17.heap.size := foldS (s := s) (vm0 := s.vm) hS0 (by rw [e16]; exact Sk16) hs17 gs17
    replace X17 : Stand p l e _ (s.setVm T17.vm) m _ below meth c T17 _ _ _ := X17
    replace hZ : Z.Warmed39 (s.setVm T17.vm).vm := State.Warmed39.trans (t := s.setVm s.vm) hZ hs17.1
    replace hown : (s.setVm T17.vm).vm.findClass "com/example/mopret/mopret/model/DirichletProbabilityPinLaw" = some m.cls := by rw [show (s.setVm T17.vm).vm = T17.vm from rfl, hs17.1.alike.findClass]; exact hown
    obtain ⟨rfl, Nq17, Kp, Fl⟩ := hQ17
    have N17 := Fr.app N0 Nq17
    replace Ex_b16 := Ex_b16.keep Kp
    have Zs17 := Nat.le_trans Zs16 Kp.1
    obtain ⟨T18, h18, X18, e18, E18, A18, D18, -, st18⟩ := newO X17 hx hZ hown (hw _ (List.mem_of_getElem? (i := 18) rfl)) (hw _ (List.mem_of_getElem? (i := 19) rfl)) (hw _ (List.mem_of_getElem? (i := 20) rfl)) rfl (g := (mkF m 108 #[.val (.int p1), .val (.int p2), .val (.int p3), .val (.int p4), .val (.int lg), .val (.long bB), .second, .val (.int jj), .val (.long tt), .second, .val (.int ee), .val (.int fm), .val (.double y), .second, .val (.double mu), .second, .val (.ref b16), .unset, .unset, .unset, .unset, .unset, .unset, .unset, .unset, .unset] [])) rfl (hb hby at_108) (by decide) (by decide)
    obtain ⟨b18, g18⟩ : ∃ z, z = T17.heap.size := ⟨_, rfl⟩
    rw [← g18] at A18 D18 st18
    have ne_b16_b18 : b16 ≠ b18 := Nat.ne_of_lt (Nat.lt_of_lt_of_le Ex_b16.lt (Nat.le_of_eq g18.symm))
    have g_b18 : n0 ≤ b18 := Nat.le_trans Zs17 (Nat.le_of_eq g18.symm)
    replace Ex_b16 := Ex_b16.ext E18
    replace Fl := Fl.ext E18
    have Zs18 := Nat.le_trans Zs17 E18.1
    have Sk18 := Nat.le_trans (Nat.le_refl _) E18.1
    have Ex_b18 := A18
    have F_documents_b18 : Fld Z h18 b18 "com/example/mopret/mopret/index/CollectionStatistics" "documents" "I" (.int (0 : Int32)) := D18 (Or.inr (hw _ (List.mem_of_getElem? (i := 31) rfl))) (ty := .int) (by decide)
    have F_tokens_b18 : Fld Z h18 b18 "com/example/mopret/mopret/index/CollectionStatistics" "tokens" "J" (.long (0 : Int64)) := D18 (Or.inr (hw _ (List.mem_of_getElem? (i := 33) rfl))) (ty := .long) (by decide)
    have F_terms_b18 : Fld Z h18 b18 "com/example/mopret/mopret/index/CollectionStatistics" "terms" "I" (.int (0 : Int32)) := D18 (Or.inr (hw _ (List.mem_of_getElem? (i := 35) rfl))) (ty := .int) (by decide)
    obtain ⟨_, _, ⟨T19, L19, k19_, n19⟩, -, X19, ⟨Lc19, hQ19, l19, y19, z19⟩, st19⟩ := X18.specialBack hx (y := (⟨"com/example/mopret/mopret/index/CollectionStatistics", "<init>", "(IJI)V"⟩ : MethodName)) rfl hown (mvT hZ (hw _ (List.mem_of_getElem? (i := 21) rfl))) (mvT hZ (hw _ (List.mem_of_getElem? (i := 22) rfl))) (mvT hZ (hw _ (List.mem_of_getElem? (i := 23) rfl))) (by decide) (backOf (W := 1) (rm1 l Z a0 hw [] b18 ((1 : Int32) <<< (ee &&& 31)) (tt + (1 : Int64)) (0 : Int32) _ _ _ h18 n0 Zs18 Ex_b18 F_documents_b18 F_tokens_b18 F_terms_b18 g_b18) hZ (hw _ (List.mem_of_getElem? (i := 23) rfl)) (hw _ (List.mem_of_getElem? (i := 20) rfl)) (by decide) (by decide)) (g := (mkF m 121 #[.val (.int p1), .val (.int p2), .val (.int p3), .val (.int p4), .val (.int lg), .val (.long bB), .second, .val (.int jj), .val (.long tt), .second, .val (.int ee), .val (.int fm), .val (.double y), .second, .val (.double mu), .second, .val (.ref b16), .unset, .unset, .unset, .unset, .unset, .unset, .unset, .unset, .unset] [(.int (0 : Int32)), (.long (tt + (1 : Int64))), (.int ((1 : Int32) <<< (ee &&& 31))), (.ref b18), (.ref b18)])) rfl (by rw [hml]; rfl) (Steps.refl _) (a := b18) (argsL := [(.int ((1 : Int32) <<< (ee &&& 31))), (.long (tt + (1 : Int64))), (.int (0 : Int32))]) (rest := [(.ref b18)]) (lenOf pd_3 rfl) rfl (by show 2 * 0 + _ ≤ _; exact Nat.le_of_eq rfl) (hb hby at_121) (fun _ _ => ⟨rfl, e18, (by decide : 4 + 0 ≤ _), (by decide : 16 + 0 ≤ _)⟩)
    dsimp only [Pt.U, Pt.locs, Pt.cells, Pt.slots] at X19 l19 y19 z19 st19 hQ19
    subst l19 y19 z19
    obtain ⟨rfl, Nq19, Kc, Fd, Ft⟩ := hQ19
    have N19 := Fr.app N17 Nq19
    replace Ex_b16 := Ex_b16.keep Kc
    replace Fl := Fl.keep Kc (by simpa using ne_b16_b18)
    replace Ex_b18 := Ex_b18.keep Kc
    have Zs19 := Nat.le_trans Zs18 Kc.1
    have Sk19 := Nat.le_trans Sk18 Kc.1
    obtain ⟨cq20, kq20, q20a, q20b, q20c⟩ := isOf hZ rfl Ex_b16
    obtain ⟨_, _, ⟨T20, L20, k20_, n20⟩, -, X20, ⟨Lc20, hQ20, l20, y20, z20⟩, st20⟩ := X19.virtualBack hx (y := (⟨"com/example/mopret/mopret/model/Dirichlet", "probability", "(IDDLcom/example/mopret/mopret/index/CollectionStatistics;)D"⟩ : MethodName)) (z := (⟨"com/example/mopret/mopret/model/Dirichlet", "probability", "(IDDLcom/example/mopret/mopret/index/CollectionStatistics;)D"⟩ : MethodName)) hown (mvT hZ (hw _ (List.mem_of_getElem? (i := 36) rfl))) (mvT hZ (hw _ (List.mem_of_getElem? (i := 37) rfl))) (notFace_of_selects (args := #[]) (mvT hZ (hw _ (List.mem_of_getElem? (i := 39) rfl)))) (mvT hZ (hw _ (List.mem_of_getElem? (i := 39) rfl))) (mvT hZ (hw _ (List.mem_of_getElem? (i := 38) rfl))) (by decide) (backOf (W := 0) (rm5 l Z a0 hw [] b16 p1 (FP.i2d lg) y b18 mu T19.heap n0 Zs19 Fl hq1 n1 n2 n3 n4) hZ (hw _ (List.mem_of_getElem? (i := 40) rfl)) (hw _ (List.mem_of_getElem? (i := 4) rfl)) (by decide) (by decide)) q20a q20c (g := (mkF m 153 #[.val (.int p1), .val (.int p2), .val (.int p3), .val (.int p4), .val (.int lg), .val (.long bB), .second, .val (.int jj), .val (.long tt), .second, .val (.int ee), .val (.int fm), .val (.double y), .second, .val (.double mu), .second, .val (.ref b16), .val (.ref b18), .unset, .unset, .unset, .unset, .unset, .unset, .unset, .unset] [(.ref b18), (.double y), (.double (FP.i2d lg)), (.int p1), (.ref b16)])) rfl (by rw [hml]; rfl) (Steps.refl _) (argsL := [(.int p1), (.double (FP.i2d lg)), (.double y), (.ref b18)]) (rest := []) (lenOf pd_4 rfl) rfl (by show 2 * 0 + _ ≤ _; exact Nat.le_of_eq rfl) (hb hby at_153) (fun _ _ => ⟨rfl, rfl, (by decide : 4 + 0 ≤ _), (by decide : 16 + 0 ≤ _)⟩)
    dsimp only [Pt.U, Pt.locs, Pt.cells, Pt.slots] at X20 l20 y20 z20 st20 hQ20
    subst l20 y20 z20
    obtain ⟨rfl, Nq20, e20⟩ := hQ20
    have N20 := Fr.app N19 Nq20
    obtain ⟨fs, hr, hrun, hended, hW⟩ := Stand.leaveW (s := s) (vm₁ := T17.vm) X20 hS17 (by rw [e20]; exact Sk19) (v := some (.int (1 : Int32))) (fun h => by rw [Bd.returns] at h; cases h) hlk
    refine ⟨_, _, ?_, hrun, hended, _, _, rfl, ?_, hW.1, hW.2.1, hW.2.2.1, hW.2.2.2.mono (by decide) (by decide)⟩
    · refine hA0 _ ?_
      refine k10 _ ?_
      refine own_f_ifNo X0.here hx (hb hby at_79) ((if0 _ _).trans (feq (hz)).1) (rfl : _ = 82) ?_
      refine st16 _ ?_
      show Steps p.tables e below (T16.setTop (mkF m 85 #[.val (.int p1), .val (.int p2), .val (.int p3), .val (.int p4), .val (.int lg), .val (.long bB), .second, .val (.int jj), .val (.long tt), .second, .val (.int ee), .val (.int fm), .val (.double y), .second, .val (.double mu), .second, .unset, .unset, .unset, .unset, .unset, .unset, .unset, .unset, .unset, .unset] [(.ref b16)])) _
      refine own_f_dup X16.here hx (hb hby at_85) rfl (rfl : _ = 86) ?_
      refine own_f_dload X16.here hx (hb hby at_86) rfl (rfl : _ = 88) ?_
      refine st17.trans ?_
      show Steps p.tables e below (T17.setTop (mkF m 91 #[.val (.int p1), .val (.int p2), .val (.int p3), .val (.int p4), .val (.int lg), .val (.long bB), .second, .val (.int jj), .val (.long tt), .second, .val (.int ee), .val (.int fm), .val (.double y), .second, .val (.double mu), .second, .unset, .unset, .unset, .unset, .unset, .unset, .unset, .unset, .unset, .unset] [(.ref b16)])) _
      refine own_f_goto X17.here hx (hb hby at_91) (by decide) (by decide : _ = 101) ?_
      refine own_f_astore X17.here hx (hb hby at_101) rfl (rfl : storeLocals _ _ _ = some #[.val (.int p1), .val (.int p2), .val (.int p3), .val (.int p4), .val (.int lg), .val (.long bB), .second, .val (.int jj), .val (.long tt), .second, .val (.int ee), .val (.int fm), .val (.double y), .second, .val (.double mu), .second, .val (.ref b16), .unset, .unset, .unset, .unset, .unset, .unset, .unset, .unset, .unset]) (rfl : _ = 103) ?_
      refine own_f_iload X17.here hx (hb hby at_103) rfl (rfl : _ = 105) ?_
      refine own_f_ifNo X17.here hx (hb hby at_105) ((if0 _ _).trans (feq (hz)).1) (rfl : _ = 108) ?_
      refine st18 _ ?_
      show Steps p.tables e below (T18.setTop (mkF m 111 #[.val (.int p1), .val (.int p2), .val (.int p3), .val (.int p4), .val (.int lg), .val (.long bB), .second, .val (.int jj), .val (.long tt), .second, .val (.int ee), .val (.int fm), .val (.double y), .second, .val (.double mu), .second, .val (.ref b16), .unset, .unset, .unset, .unset, .unset, .unset, .unset, .unset, .unset] [(.ref b18)])) _
      refine own_f_dup X18.here hx (hb hby at_111) rfl (rfl : _ = 112) ?_
      refine own_f_iconst X18.here hx (hb hby at_112) (rfl : _ = (1 : Int32)) (rfl : _ = 113) ?_
      refine own_f_iload X18.here hx (hb hby at_113) rfl (rfl : _ = 115) ?_
      refine own_f_ishl X18.here hx (hb hby at_115) (rfl : _ = 116) ?_
      refine own_f_lload X18.here hx (hb hby at_116) rfl (rfl : _ = 118) ?_
      refine own_f_lconst X18.here hx (hb hby at_118) (rfl : _ = (1 : Int64)) (rfl : _ = 119) ?_
      refine own_f_ladd X18.here hx (hb hby at_119) rfl (rfl : _ = 120) ?_
      refine own_f_iconst X18.here hx (hb hby at_120) (rfl : _ = (0 : Int32)) (rfl : _ = 121) ?_
      refine st19.trans ?_
      show Steps p.tables e below (T19.setTop (mkF m 124 #[.val (.int p1), .val (.int p2), .val (.int p3), .val (.int p4), .val (.int lg), .val (.long bB), .second, .val (.int jj), .val (.long tt), .second, .val (.int ee), .val (.int fm), .val (.double y), .second, .val (.double mu), .second, .val (.ref b16), .unset, .unset, .unset, .unset, .unset, .unset, .unset, .unset, .unset] [(.ref b18)])) _
      refine own_f_goto X19.here hx (hb hby at_124) (by decide) (by decide : _ = 141) ?_
      refine own_f_astore X19.here hx (hb hby at_141) rfl (rfl : storeLocals _ _ _ = some #[.val (.int p1), .val (.int p2), .val (.int p3), .val (.int p4), .val (.int lg), .val (.long bB), .second, .val (.int jj), .val (.long tt), .second, .val (.int ee), .val (.int fm), .val (.double y), .second, .val (.double mu), .second, .val (.ref b16), .val (.ref b18), .unset, .unset, .unset, .unset, .unset, .unset, .unset, .unset]) (rfl : _ = 143) ?_
      refine own_f_aload X19.here hx (hb hby at_143) rfl rfl (rfl : _ = 145) ?_
      refine own_f_iloadN X19.here hx (hb hby at_145) rfl (rfl : _ = 146) ?_
      refine own_f_iload X19.here hx (hb hby at_146) rfl (rfl : _ = 148) ?_
      refine own_f_i2d X19.here hx (hb hby at_148) rfl (rfl : _ = 149) ?_
      refine own_f_dload X19.here hx (hb hby at_149) rfl (rfl : _ = 151) ?_
      refine own_f_aload X19.here hx (hb hby at_151) rfl rfl (rfl : _ = 153) ?_
      refine st20.trans ?_
      show Steps p.tables e below (T20.setTop (mkF m 156 #[.val (.int p1), .val (.int p2), .val (.int p3), .val (.int p4), .val (.int lg), .val (.long bB), .second, .val (.int jj), .val (.long tt), .second, .val (.int ee), .val (.int fm), .val (.double y), .second, .val (.double mu), .second, .val (.ref b16), .val (.ref b18), .unset, .unset, .unset, .unset, .unset, .unset, .unset, .unset] [(.double (FP.ddiv (FP.dadd (FP.i2d p1) (FP.dmul mu y)) (FP.dadd (FP.i2d lg) mu)))])) _
      refine own_f_dstore X20.here hx (hb hby at_156) (rfl : storeLocals _ _ _ = some #[.val (.int p1), .val (.int p2), .val (.int p3), .val (.int p4), .val (.int lg), .val (.long bB), .second, .val (.int jj), .val (.long tt), .second, .val (.int ee), .val (.int fm), .val (.double y), .second, .val (.double mu), .second, .val (.ref b16), .val (.ref b18), .val (.double (FP.ddiv (FP.dadd (FP.i2d p1) (FP.dmul mu y)) (FP.dadd (FP.i2d lg) mu))), .second, .unset, .unset, .unset, .unset, .unset, .unset]) (rfl : _ = 158) ?_
      refine own_f_iloadN X20.here hx (hb hby at_158) rfl (rfl : _ = 159) ?_
      refine own_f_i2l X20.here hx (hb hby at_159) (rfl : _ = 160) ?_
      refine own_f_lconst X20.here hx (hb hby at_160) (rfl : _ = (1 : Int64)) (rfl : _ = 161) ?_
      refine own_f_iload X20.here hx (hb hby at_161) rfl (rfl : _ = 163) ?_
      refine own_f_iload X20.here hx (hb hby at_163) rfl (rfl : _ = 165) ?_
      refine own_f_iadd X20.here hx (hb hby at_165) rfl (rfl : _ = 166) ?_
      refine own_f_lshl X20.here hx (hb hby at_166) (rfl : _ = 167) ?_
      refine own_f_lmul X20.here hx (hb hby at_167) rfl (rfl : _ = 168) ?_
      refine own_f_lload X20.here hx (hb hby at_168) rfl (rfl : _ = 170) ?_
      refine own_f_lload X20.here hx (hb hby at_170) rfl (rfl : _ = 172) ?_
      refine own_f_lmul X20.here hx (hb hby at_172) rfl (rfl : _ = 173) ?_
      refine own_f_ladd X20.here hx (hb hby at_173) rfl (rfl : _ = 174) ?_
      refine own_f_lstore X20.here hx (hb hby at_174) (rfl : storeLocals _ _ _ = some #[.val (.int p1), .val (.int p2), .val (.int p3), .val (.int p4), .val (.int lg), .val (.long bB), .second, .val (.int jj), .val (.long tt), .second, .val (.int ee), .val (.int fm), .val (.double y), .second, .val (.double mu), .second, .val (.ref b16), .val (.ref b18), .val (.double (FP.ddiv (FP.dadd (FP.i2d p1) (FP.dmul mu y)) (FP.dadd (FP.i2d lg) mu))), .second, .val (.long (((p1.toInt64) * ((1 : Int64) <<< ((jj + ee) &&& 0x3f).toInt64)) + (tt * bB))), .second, .unset, .unset, .unset, .unset]) (rfl : _ = 176) ?_
      refine own_f_iload X20.here hx (hb hby at_176) rfl (rfl : _ = 178) ?_
      refine own_f_i2l X20.here hx (hb hby at_178) (rfl : _ = 179) ?_
      refine own_f_lconst X20.here hx (hb hby at_179) (rfl : _ = (1 : Int64)) (rfl : _ = 180) ?_
      refine own_f_iload X20.here hx (hb hby at_180) rfl (rfl : _ = 182) ?_
      refine own_f_lshl X20.here hx (hb hby at_182) (rfl : _ = 183) ?_
      refine own_f_lmul X20.here hx (hb hby at_183) rfl (rfl : _ = 184) ?_
      refine own_f_lload X20.here hx (hb hby at_184) rfl (rfl : _ = 186) ?_
      refine own_f_ladd X20.here hx (hb hby at_186) rfl (rfl : _ = 187) ?_
      refine own_f_lconst X20.here hx (hb hby at_187) (rfl : _ = (1 : Int64)) (rfl : _ = 188) ?_
      refine own_f_iload X20.here hx (hb hby at_188) rfl (rfl : _ = 190) ?_
      refine own_f_lshl X20.here hx (hb hby at_190) (rfl : _ = 191) ?_
      refine own_f_lmul X20.here hx (hb hby at_191) rfl (rfl : _ = 192) ?_
      refine own_f_lstore X20.here hx (hb hby at_192) (rfl : storeLocals _ _ _ = some #[.val (.int p1), .val (.int p2), .val (.int p3), .val (.int p4), .val (.int lg), .val (.long bB), .second, .val (.int jj), .val (.long tt), .second, .val (.int ee), .val (.int fm), .val (.double y), .second, .val (.double mu), .second, .val (.ref b16), .val (.ref b18), .val (.double (FP.ddiv (FP.dadd (FP.i2d p1) (FP.dmul mu y)) (FP.dadd (FP.i2d lg) mu))), .second, .val (.long (((p1.toInt64) * ((1 : Int64) <<< ((jj + ee) &&& 0x3f).toInt64)) + (tt * bB))), .second, .val (.long ((((lg.toInt64) * ((1 : Int64) <<< (ee &&& 0x3f).toInt64)) + tt) * ((1 : Int64) <<< (jj &&& 0x3f).toInt64))), .second, .unset, .unset]) (rfl : _ = 194) ?_
      refine own_f_lload X20.here hx (hb hby at_194) rfl (rfl : _ = 196) ?_
      refine own_f_l2d X20.here hx (hb hby at_196) rfl (rfl : _ = 197) ?_
      refine own_f_lload X20.here hx (hb hby at_197) rfl (rfl : _ = 199) ?_
      refine own_f_l2d X20.here hx (hb hby at_199) rfl (rfl : _ = 200) ?_
      refine own_f_ddiv X20.here hx (hb hby at_200) (n9) rfl (rfl : _ = 201) ?_
      refine own_f_dstore X20.here hx (hb hby at_201) (rfl : storeLocals _ _ _ = some #[.val (.int p1), .val (.int p2), .val (.int p3), .val (.int p4), .val (.int lg), .val (.long bB), .second, .val (.int jj), .val (.long tt), .second, .val (.int ee), .val (.int fm), .val (.double y), .second, .val (.double mu), .second, .val (.ref b16), .val (.ref b18), .val (.double (FP.ddiv (FP.dadd (FP.i2d p1) (FP.dmul mu y)) (FP.dadd (FP.i2d lg) mu))), .second, .val (.long (((p1.toInt64) * ((1 : Int64) <<< ((jj + ee) &&& 0x3f).toInt64)) + (tt * bB))), .second, .val (.long ((((lg.toInt64) * ((1 : Int64) <<< (ee &&& 0x3f).toInt64)) + tt) * ((1 : Int64) <<< (jj &&& 0x3f).toInt64))), .second, .val (.double (FP.ddiv (FP.l2d (((p1.toInt64) * ((1 : Int64) <<< ((jj + ee) &&& 0x3f).toInt64)) + (tt * bB))) (FP.l2d ((((lg.toInt64) * ((1 : Int64) <<< (ee &&& 0x3f).toInt64)) + tt) * ((1 : Int64) <<< (jj &&& 0x3f).toInt64))))), .second]) (rfl : _ = 203) ?_
      refine own_f_dload X20.here hx (hb hby at_203) rfl (rfl : _ = 205) ?_
      refine own_f_dload X20.here hx (hb hby at_205) rfl (rfl : _ = 207) ?_
      refine own_f_dcmp X20.here hx (hb hby at_207) rfl (rfl : _ = 208) ?_
      refine own_f_ifNo X20.here hx (hb hby at_208) ((if0 _ _).trans (teq (hfin)).2) (rfl : _ = 211) ?_
      refine own_f_iconst X20.here hx (hb hby at_211) (rfl : _ = (1 : Int32)) (rfl : _ = 212) ?_
      refine own_f_goto X20.here hx (hb hby at_212) (by decide) (by decide : _ = 216) ?_
      exact retN X20 hx (t := .boolean) Bd.returns (by simp) (hb hby at_216) hr
    · show Q0 Z p1 p2 p3 p4 h0 n0 _ T20.heap _
      rw [e20]
      exact ⟨rfl, N20⟩
set_option maxRecDepth 65536 in
set_option maxHeartbeats 40000000 in
theorem comes_1 {Post : Tables → Env → Array Value → State → Outcome → State → Prop} (hpost : ∀ tb e args s v u, (limb_1_1.after args s (.returned v) u = true ∧ limb_1_2.after args s (.returned v) u = true ∧ True) → ReturnedEndW s (.returned v) u (Jvm.fieldLocs frame_1_writes args s ++ Jvm.arrayLocs frame_1_arrays args s ++ Jvm.staticLocs frame_1_statics s) 16 1152 → Post tb e args s (.returned v) u) :
    ArmFor flags0 classFile x code maxLocals ret World_1 tables_1 room_1 Calls_1 rest_1 Pre_1 Post := by
  intro l hfl _ _ p e ha hc hk s m args below hf hA hF happ hP
  obtain ⟨hcalls, hrest, hpre⟩ := hP
  obtain ⟨-, -, -, hnamed, -, -, -, hat⟩ := (Spec.applies_iff hf).mp happ
  obtain ⟨hg, hn⟩ := and_e (Cond.before_iff.mp (show (Jvm.Cond.and given_1 narrow_1).before args s = true from hpre))
  obtain ⟨gc, gr0⟩ := and_e hg
  obtain ⟨g0, gr1⟩ := and_e gr0
  obtain ⟨g1, gr2⟩ := and_e gr1
  obtain ⟨g2, gr3⟩ := and_e gr2
  have g3 := gr3
  obtain ⟨w0, w1, w2, w3, rfl⟩ : ∃ w0 w1 w2 w3 : Value, args = #[w0, w1, w2, w3] := by
    have hs : args.size = 4 := by simpa [Cond.value, given_1] using gc
    obtain ⟨L⟩ := args
    match L, hs with
    | [w0, w1, w2, w3], _ => exact ⟨w0, w1, w2, w3, rfl⟩
  have hw := fun d (hd : d ∈ tables_1) => atoms_spec (ws := Jvm.Cond.code x code maxLocals ret :: tables_1) hat d (List.mem_cons_of_mem _ hd)
  have hfit : Fit s := fun {y c} hc i hi => by
    obtain ⟨ha, rfl⟩ := Array.getElem?_eq_some_iff.mp hc
    have q := List.all_eq_true.mp ((Array.all_eq_true_iff_forall_mem.mp hF) _ (Array.getElem_mem ha)) i (List.mem_range.mpr hi)
    simpa [Array.getElem?_eq_getElem hi] using q
  obtain ⟨i0, ei0⟩ := is_v g0
  obtain rfl : w0 = (.int i0) := Option.some.inj ei0
  obtain ⟨i1, ei1⟩ := is_v g1
  obtain rfl : w1 = (.int i1) := Option.some.inj ei1
  obtain ⟨i2, ei2⟩ := is_v g2
  obtain rfl : w2 = (.int i2) := Option.some.inj ei2
  obtain ⟨i3, ei3⟩ := is_v g3
  obtain rfl : w3 = (.int i3) := Option.some.inj ei3
  obtain ⟨n, o, h1, h2, h3, _, L, rfl, ⟨rfl, N⟩, hq⟩ := rm0 l s _ hw tables_1 i0 i1 i2 i3  s.heap s.heap.size (Nat.le_refl _)  p e ha hc hk s m _ below hf ((Spec.applies_iff_loose hf).mp happ).1 ⟨rfl, State.Warmed39.refl s, rfl⟩ trivial
  refine ⟨n, _, h1, h2, h3, hpost _ _ _ _ _ _ ⟨Cond.after_iff.mpr rfl, Cond.after_iff.mpr (eq_i res_at (Term.int_eval (1)) rfl), trivial⟩ ⟨hq.1, hq.2.1, hq.2.2.1, (hq.2.2.2.sift fun y hy => Or.inr (N y hy)).mono (by decide) (by decide)⟩⟩
theorem main_1_1 : Claimed_1_1 := comes_1 fun _ _ _ _ _ _ h hF => ⟨h.1, hF⟩
theorem main_1_2 : Claimed_1_2 := comes_1 fun _ _ _ _ _ _ h hF => ⟨h.2.1, hF⟩
end Jvm.Pilot.@@N@@
namespace Jvm.Pilot.@@N@@
open Jvm Jvm.ClassFile Sem Op Lib Jvm.Free Jvm.Stand Jvm.Pilot.@@N@@.Jvm.D
/-! MADE BY PROGRAM (witnessworld.py) out of the Statement's table words and the real class files: 20 classes; the members and pool entries that the words name. The judged class is class 1, her method 1. -/
namespace start1
open Jvm.ClassFile
def u (s : String) : CpInfo := .utf8 (stringToUtf16 s)
/-- a pool by its gaps: so many unusable entries, then the entry; so many at the end -/
def gap : Nat → List CpInfo → List CpInfo
  | 0, r => r
  | n + 1, r => .unusable :: gap n r
def poolList (es : List (Nat × CpInfo)) (last : Nat) : List CpInfo := es.foldr (fun e r => gap e.1 (e.2 :: r)) (gap last [])
def pool (es : List (Nat × CpInfo)) (last : Nat) : Array CpInfo := ⟨poolList es last⟩
def fileOf (pool : Array CpInfo) (this : Nat) (attrs : Array Attribute := #[]) (ms : Array MethodInfo := #[]) (fl : Nat := 33) (sup : Nat := 0) (ifs : Array Nat := #[]) (fds : Array FieldInfo := #[]) : ClassFile where
  minorVersion := 0
  majorVersion := 65
  constantPool := pool
  accessFlags := fl
  thisClass := this
  superClass := sup
  interfaces := ifs
  fields := fds
  methods := ms
  attributes := attrs
def plain (name : String) (sup : Option ClassId) : Class where
  name := name
  kind := .ordinary
  loader := none
  accessFlags := 33
  super := sup
  interfaces := #[]
  cf := none
  fields := #[]
  methods := #[]
  instanceTypes := #[]
  staticTypes := #[]
  resolved := #[]
  callSites := []
  init := .initialized
  statics := none
  mirror := none

def pool0 : Array CpInfo := pool [(5, u "<init>"), (0, u "()V"), (1, .class_ 10), (1, u "java/lang/Object")] 113

def k0c0 : Code := { maxStack := 0, maxLocals := 1, code := object_method_1_code, exceptionTable := #[], attributes := #[] }
def k0m0 : Method := { name := "<init>", desc := "()V", sig := { parameters := [], returnType := none }, accessFlags := 1, code := some k0c0 }
/-- java/lang/Object -/
def k0 : Class := { plain "java/lang/Object" none with
  accessFlags := 33
  interfaces := #[]
  cf := some (fileOf pool0 8 #[] #[{ accessFlags := 1, nameIndex := 5, descriptorIndex := 6, attributes := #[] }] 33 0 #[] #[])
  fields := #[]
  methods := #[k0m0]
  instanceTypes := #[]
  staticTypes := #[]
  resolved := Array.replicate 124 none
  statics := none }

def pool1 : Array CpInfo := pool [(2, .class_ 4), (0, .nameAndType 5 6), (0, u "java/lang/Object"), (0, u "<init>"), (0, u "()V"), (0, .integer 2147483647), (0, .integer 1048575), (0, .class_ 10), (0, u "com/example/mopret/mopret/model/Dirichlet"), (0, .methodref 9 12), (0, .nameAndType 5 13), (0, u "(D)V"), (0, .methodref 9 3), (0, .class_ 16), (0, u "com/example/mopret/mopret/index/CollectionStatistics"), (0, .methodref 15 18), (0, .nameAndType 5 19), (0, u "(IJI)V"), (0, .methodref 9 21), (0, .nameAndType 22 23), (0, u "probability"), (0, u "(IDDLcom/example/mopret/mopret/index/CollectionStatistics;)D"), (0, .class_ 25), (0, u "com/example/mopret/mopret/model/DirichletProbabilityPinLaw"), (2, u "law"), (0, u "(IIII)Z")] 3

def k1m0 : Method := { name := "<init>", desc := "()V", sig := { parameters := [], returnType := none }, accessFlags := 1, code := none }
def k1c1 : Code := { maxStack := 7, maxLocals := 26, code := code, exceptionTable := #[], attributes := #[] }
def k1m1 : Method := { name := "law", desc := "(IIII)Z", sig := { parameters := [.int, .int, .int, .int], returnType := some .boolean }, accessFlags := 9, code := some k1c1 }
/-- com/example/mopret/mopret/model/DirichletProbabilityPinLaw -/
def k1 : Class := { plain "com/example/mopret/mopret/model/DirichletProbabilityPinLaw" (some 0) with
  accessFlags := 49
  interfaces := #[]
  cf := some (fileOf pool1 24 #[] #[{ accessFlags := 1, nameIndex := 5, descriptorIndex := 6, attributes := #[] }, { accessFlags := 9, nameIndex := 28, descriptorIndex := 29, attributes := #[] }] 49 2 #[] #[])
  fields := #[]
  methods := #[k1m0, k1m1]
  instanceTypes := #[]
  staticTypes := #[]
  resolved := Array.replicate 33 none
  statics := none }

def pool2 : Array CpInfo := pool [(16, .class_ 18), (1, u "com/example/mopret/mopret/model/RankingModel"), (1, .class_ 21), (0, u "java/lang/Object"), (18, .class_ 41), (0, u "com/example/mopret/mopret/model/RankingModel$TermScorer"), (0, .class_ 43), (0, u "com/example/mopret/mopret/model/RankingModel$DocumentScorer")] 30

/-- com/example/mopret/mopret/model/RankingModel -/
def k2 : Class := { plain "com/example/mopret/mopret/model/RankingModel" (some 0) with
  accessFlags := 1537
  interfaces := #[]
  cf := some (fileOf pool2 16 #[.nestMembers #[40, 42]] #[] 1537 20 #[] #[])
  fields := #[]
  methods := #[]
  instanceTypes := #[]
  staticTypes := #[]
  resolved := Array.replicate 74 none
  statics := none }

def pool3 : Array CpInfo := pool [(2, .class_ 4), (1, u "com/example/mopret/mopret/model/AdditiveModel"), (8, .class_ 14), (0, u "java/lang/Object"), (0, .class_ 16), (0, u "com/example/mopret/mopret/model/RankingModel")] 15

/-- com/example/mopret/mopret/model/AdditiveModel -/
def k3 : Class := { plain "com/example/mopret/mopret/model/AdditiveModel" (some 0) with
  accessFlags := 1537
  interfaces := #[2]
  cf := some (fileOf pool3 2 #[] #[] 1537 13 #[15] #[])
  fields := #[]
  methods := #[]
  instanceTypes := #[]
  staticTypes := #[]
  resolved := Array.replicate 32 none
  statics := none }

def pool4 : Array CpInfo := pool [(1, .methodref 2 3), (0, .class_ 4), (0, .nameAndType 5 6), (0, u "java/lang/Object"), (0, u "<init>"), (0, u "()V"), (24, .class_ 32), (0, u "com/example/mopret/mopret/model/QueryLikelihood$1"), (4, .class_ 39), (1, u "com/example/mopret/mopret/model/QueryLikelihood"), (2, .class_ 43), (0, u "com/example/mopret/mopret/model/AdditiveModel")] 34

def k4c0 : Code := { maxStack := 1, maxLocals := 1, code := prog_58_method_1_code, exceptionTable := #[], attributes := #[] }
def k4m0 : Method := { name := "<init>", desc := "()V", sig := { parameters := [], returnType := none }, accessFlags := 1, code := some k4c0 }
/-- com/example/mopret/mopret/model/QueryLikelihood -/
def k4 : Class := { plain "com/example/mopret/mopret/model/QueryLikelihood" (some 0) with
  accessFlags := 1057
  interfaces := #[3]
  cf := some (fileOf pool4 37 #[.nestMembers #[31]] #[{ accessFlags := 1, nameIndex := 5, descriptorIndex := 6, attributes := #[] }] 1057 2 #[42] #[])
  fields := #[]
  methods := #[k4m0]
  instanceTypes := #[]
  staticTypes := #[]
  resolved := Array.replicate 78 none
  statics := none }

def pool5 : Array CpInfo := pool [(1, .methodref 2 3), (0, .class_ 4), (0, .nameAndType 5 6), (0, u "com/example/mopret/mopret/model/QueryLikelihood"), (0, u "<init>"), (0, u "()V"), (0, .fieldref 8 9), (0, .class_ 10), (0, .nameAndType 11 12), (0, u "com/example/mopret/mopret/model/Dirichlet"), (0, u "mu"), (0, u "D"), (0, .string 11), (0, .methodref 15 16), (0, .class_ 17), (0, .nameAndType 18 19), (0, u "com/example/mopret/mopret/model/Parameters"), (0, u "finitePositive"), (0, u "(Ljava/lang/String;D)D"), (0, .methodref 21 22), (0, .class_ 23), (0, .nameAndType 24 25), (0, u "com/example/mopret/mopret/index/CollectionStatistics"), (0, u "meanLength"), (0, u "()D"), (2, u "(D)V"), (0, u "probability"), (0, u "(IDDLcom/example/mopret/mopret/index/CollectionStatistics;)D")] 3

def k5c0 : Code := { maxStack := 3, maxLocals := 1, code := prog_51_method_1_code, exceptionTable := #[], attributes := #[] }
def k5m0 : Method := { name := "<init>", desc := "()V", sig := { parameters := [], returnType := none }, accessFlags := 1, code := some k5c0 }
def k5c1 : Code := { maxStack := 4, maxLocals := 3, code := prog_51_method_2_code, exceptionTable := #[], attributes := #[] }
def k5m1 : Method := { name := "<init>", desc := "(D)V", sig := { parameters := [.double], returnType := none }, accessFlags := 1, code := some k5c1 }
def k5c2 : Code := { maxStack := 6, maxLocals := 9, code := prog_51_method_3_code, exceptionTable := #[], attributes := #[] }
def k5m2 : Method := { name := "probability", desc := "(IDDLcom/example/mopret/mopret/index/CollectionStatistics;)D", sig := { parameters := [.int, .double, .double, (.object "com/example/mopret/mopret/index/CollectionStatistics")], returnType := some .double }, accessFlags := 0, code := some k5c2 }
/-- com/example/mopret/mopret/model/Dirichlet -/
def k5 : Class := { plain "com/example/mopret/mopret/model/Dirichlet" (some 4) with
  accessFlags := 49
  interfaces := #[]
  cf := some (fileOf pool5 8 #[] #[{ accessFlags := 1, nameIndex := 5, descriptorIndex := 6, attributes := #[] }, { accessFlags := 1, nameIndex := 5, descriptorIndex := 28, attributes := #[] }, { accessFlags := 0, nameIndex := 29, descriptorIndex := 30, attributes := #[] }] 49 2 #[] #[{ accessFlags := 18, nameIndex := 11, descriptorIndex := 12, attributes := #[] }])
  fields := #[{ name := "mu", type := .double, accessFlags := 18, slot := 0, constantValue := 0 }]
  methods := #[k5m0, k5m1, k5m2]
  instanceTypes := #[.double]
  staticTypes := #[]
  resolved := Array.replicate 34 none
  statics := none }

def pool6 : Array CpInfo := pool [(1, .methodref 2 3), (0, .class_ 4), (0, .nameAndType 5 6), (0, u "java/lang/Object"), (0, u "<init>"), (0, u "()V"), (0, .class_ 8), (0, u "java/lang/Record")] 13

def k6c0 : Code := { maxStack := 1, maxLocals := 1, code := jdk_30_method_1_code, exceptionTable := #[], attributes := #[] }
def k6m0 : Method := { name := "<init>", desc := "()V", sig := { parameters := [], returnType := none }, accessFlags := 4, code := some k6c0 }
/-- java/lang/Record -/
def k6 : Class := { plain "java/lang/Record" (some 0) with
  accessFlags := 1057
  interfaces := #[]
  cf := some (fileOf pool6 7 #[] #[{ accessFlags := 4, nameIndex := 5, descriptorIndex := 6, attributes := #[] }] 1057 2 #[] #[])
  fields := #[]
  methods := #[k6m0]
  instanceTypes := #[]
  staticTypes := #[]
  resolved := Array.replicate 22 none
  statics := none }

def pool7 : Array CpInfo := pool [(1, .methodref 2 3), (0, .class_ 4), (0, .nameAndType 5 6), (0, u "java/lang/Record"), (0, u "<init>"), (0, u "()V"), (0, .fieldref 8 9), (0, .class_ 10), (0, .nameAndType 11 12), (0, u "com/example/mopret/mopret/index/CollectionStatistics"), (0, u "documents"), (0, u "I"), (0, .fieldref 8 14), (0, .nameAndType 15 16), (0, u "tokens"), (0, u "J"), (0, .fieldref 8 18), (0, .nameAndType 19 12), (0, u "terms"), (12, u "(IJI)V"), (3, u "meanLength"), (0, u "()D")] 26

def k7c0 : Code := { maxStack := 3, maxLocals := 5, code := prog_19_method_1_code, exceptionTable := #[], attributes := #[] }
def k7m0 : Method := { name := "<init>", desc := "(IJI)V", sig := { parameters := [.int, .long, .int], returnType := none }, accessFlags := 1, code := some k7c0 }
def k7c1 : Code := { maxStack := 4, maxLocals := 1, code := prog_19_method_2_code, exceptionTable := #[], attributes := #[] }
def k7m1 : Method := { name := "meanLength", desc := "()D", sig := { parameters := [], returnType := some .double }, accessFlags := 1, code := some k7c1 }
/-- com/example/mopret/mopret/index/CollectionStatistics -/
def k7 : Class := { plain "com/example/mopret/mopret/index/CollectionStatistics" (some 6) with
  accessFlags := 49
  interfaces := #[]
  cf := some (fileOf pool7 8 #[] #[{ accessFlags := 1, nameIndex := 5, descriptorIndex := 32, attributes := #[] }, { accessFlags := 1, nameIndex := 36, descriptorIndex := 37, attributes := #[] }] 49 2 #[] #[{ accessFlags := 18, nameIndex := 11, descriptorIndex := 12, attributes := #[] }, { accessFlags := 18, nameIndex := 15, descriptorIndex := 16, attributes := #[] }, { accessFlags := 18, nameIndex := 19, descriptorIndex := 12, attributes := #[] }])
  fields := #[{ name := "documents", type := .int, accessFlags := 18, slot := 0, constantValue := 0 }, { name := "tokens", type := .long, accessFlags := 18, slot := 1, constantValue := 0 }, { name := "terms", type := .int, accessFlags := 18, slot := 2, constantValue := 0 }]
  methods := #[k7m0, k7m1]
  instanceTypes := #[.int, .long, .int]
  staticTypes := #[]
  resolved := Array.replicate 64 none
  statics := none }

def pool8 : Array CpInfo := pool [(1, .class_ 2), (0, u "java/io/Serializable"), (0, .class_ 4), (0, u "java/lang/Object")] 2

/-- java/io/Serializable -/
def k8 : Class := { plain "java/io/Serializable" (some 0) with
  accessFlags := 1537
  interfaces := #[]
  cf := some (fileOf pool8 1 #[] #[] 1537 3 #[] #[])
  fields := #[]
  methods := #[]
  instanceTypes := #[]
  staticTypes := #[]
  resolved := Array.replicate 7 none
  statics := none }

def pool9 : Array CpInfo := pool [(1, .class_ 2), (0, u "java/lang/Comparable"), (0, .class_ 4), (0, u "java/lang/Object")] 7

/-- java/lang/Comparable -/
def k9 : Class := { plain "java/lang/Comparable" (some 0) with
  accessFlags := 1537
  interfaces := #[]
  cf := some (fileOf pool9 1 #[] #[] 1537 3 #[] #[])
  fields := #[]
  methods := #[]
  instanceTypes := #[]
  staticTypes := #[]
  resolved := Array.replicate 12 none
  statics := none }

def pool10 : Array CpInfo := pool [(2, .class_ 4), (1, u "java/lang/CharSequence"), (42, .class_ 48), (0, u "java/lang/CharSequence$1CodePointIterator"), (10, .class_ 60), (0, u "java/lang/CharSequence$1CharIterator"), (5, .class_ 67), (0, u "java/lang/Object")] 63

/-- java/lang/CharSequence -/
def k10 : Class := { plain "java/lang/CharSequence" (some 0) with
  accessFlags := 1537
  interfaces := #[]
  cf := some (fileOf pool10 2 #[.nestMembers #[47, 59]] #[] 1537 66 #[] #[])
  fields := #[]
  methods := #[]
  instanceTypes := #[]
  staticTypes := #[]
  resolved := Array.replicate 131 none
  statics := none }

def pool11 : Array CpInfo := pool [(1, .class_ 2), (0, u "java/lang/constant/Constable"), (0, .class_ 4), (0, u "java/lang/Object")] 6

/-- java/lang/constant/Constable -/
def k11 : Class := { plain "java/lang/constant/Constable" (some 0) with
  accessFlags := 1537
  interfaces := #[]
  cf := some (fileOf pool11 1 #[] #[] 1537 3 #[] #[])
  fields := #[]
  methods := #[]
  instanceTypes := #[]
  staticTypes := #[]
  resolved := Array.replicate 11 none
  statics := none }

def pool12 : Array CpInfo := pool [(1, .class_ 2), (0, u "java/lang/constant/ConstantDesc"), (0, .class_ 4), (0, u "java/lang/Object")] 32

/-- java/lang/constant/ConstantDesc -/
def k12 : Class := { plain "java/lang/constant/ConstantDesc" (some 0) with
  accessFlags := 1537
  interfaces := #[]
  cf := some (fileOf pool12 1 #[] #[] 1537 3 #[] #[])
  fields := #[]
  methods := #[]
  instanceTypes := #[]
  staticTypes := #[]
  resolved := Array.replicate 37 none
  statics := none }

def pool13 : Array CpInfo := pool [(2, .class_ 4), (1, u "java/lang/Object"), (0, u "<init>"), (0, u "()V"), (3, .class_ 12), (1, u "java/lang/String"), (0, u "value"), (0, u "[B"), (2, u "coder"), (0, u "B"), (2, u "hash"), (0, u "I"), (2, u "hashIsZero"), (0, u "Z"), (13, u "COMPACT_STRINGS"), (534, .class_ 576), (0, u "java/lang/CharSequence"), (22, u "CASE_INSENSITIVE_ORDER"), (0, u "Ljava/util/Comparator;"), (500, u "serialPersistentFields"), (0, u "[Ljava/io/ObjectStreamField;"), (0, .class_ 1104), (0, u "java/lang/String$CaseInsensitiveComparator"), (1, .class_ 1107), (0, u "java/io/Serializable"), (0, .class_ 1109), (0, u "java/lang/Comparable"), (0, .class_ 1111), (0, u "java/lang/constant/Constable"), (0, .class_ 1113), (0, u "java/lang/constant/ConstantDesc"), (2, u "serialVersionUID"), (0, u "J"), (3, u "REPL"), (0, u "C"), (2, u "LATIN1"), (1, u "UTF16")] 323

def k13m0 : Method := { name := "<init>", desc := "()V", sig := { parameters := [], returnType := none }, accessFlags := 1, code := none }
/-- java/lang/String -/
def k13 : Class := { plain "java/lang/String" (some 0) with
  accessFlags := 49
  interfaces := #[8, 9, 10, 11, 12]
  cf := some (fileOf pool13 10 #[.nestMembers #[1103]] #[{ accessFlags := 1, nameIndex := 5, descriptorIndex := 6, attributes := #[] }] 49 2 #[1106, 1108, 575, 1110, 1112] #[{ accessFlags := 18, nameIndex := 13, descriptorIndex := 14, attributes := #[] }, { accessFlags := 18, nameIndex := 17, descriptorIndex := 18, attributes := #[] }, { accessFlags := 2, nameIndex := 21, descriptorIndex := 22, attributes := #[] }, { accessFlags := 2, nameIndex := 25, descriptorIndex := 26, attributes := #[] }, { accessFlags := 26, nameIndex := 1116, descriptorIndex := 1117, attributes := #[] }, { accessFlags := 24, nameIndex := 40, descriptorIndex := 26, attributes := #[] }, { accessFlags := 26, nameIndex := 1101, descriptorIndex := 1102, attributes := #[] }, { accessFlags := 26, nameIndex := 1121, descriptorIndex := 1122, attributes := #[] }, { accessFlags := 25, nameIndex := 599, descriptorIndex := 600, attributes := #[] }, { accessFlags := 24, nameIndex := 1125, descriptorIndex := 18, attributes := #[] }, { accessFlags := 24, nameIndex := 1127, descriptorIndex := 18, attributes := #[] }])
  fields := #[{ name := "value", type := (.array .byte), accessFlags := 18, slot := 0, constantValue := 0 }, { name := "coder", type := .byte, accessFlags := 18, slot := 1, constantValue := 0 }, { name := "hash", type := .int, accessFlags := 2, slot := 2, constantValue := 0 }, { name := "hashIsZero", type := .boolean, accessFlags := 2, slot := 3, constantValue := 0 }, { name := "serialVersionUID", type := .long, accessFlags := 26, slot := 0, constantValue := 0 }, { name := "COMPACT_STRINGS", type := .boolean, accessFlags := 24, slot := 1, constantValue := 0 }, { name := "serialPersistentFields", type := (.array (.object "java/io/ObjectStreamField")), accessFlags := 26, slot := 2, constantValue := 0 }, { name := "REPL", type := .char, accessFlags := 26, slot := 3, constantValue := 0 }, { name := "CASE_INSENSITIVE_ORDER", type := (.object "java/util/Comparator"), accessFlags := 25, slot := 4, constantValue := 0 }, { name := "LATIN1", type := .byte, accessFlags := 24, slot := 5, constantValue := 0 }, { name := "UTF16", type := .byte, accessFlags := 24, slot := 6, constantValue := 0 }]
  methods := #[k13m0]
  instanceTypes := #[(.array .byte), .byte, .int, .boolean]
  staticTypes := #[.long, .boolean, (.array (.object "java/io/ObjectStreamField")), .char, (.object "java/util/Comparator"), .byte, .byte]
  resolved := Array.replicate 1451 none
  statics := none }

def pool14 : Array CpInfo := pool [(2, .class_ 4), (1, u "java/lang/Object"), (0, u "<init>"), (0, u "()V"), (2, .double 9218868437227405312), (11, .class_ 22), (0, u "com/example/mopret/mopret/model/Parameters"), (2, u "finitePositive"), (0, u "(Ljava/lang/String;D)D")] 21

def k14m0 : Method := { name := "<init>", desc := "()V", sig := { parameters := [], returnType := none }, accessFlags := 2, code := none }
def k14c1 : Code := { maxStack := 5, maxLocals := 3, code := prog_57_method_2_code, exceptionTable := #[], attributes := #[] }
def k14m1 : Method := { name := "finitePositive", desc := "(Ljava/lang/String;D)D", sig := { parameters := [(.object "java/lang/String"), .double], returnType := some .double }, accessFlags := 8, code := some k14c1 }
/-- com/example/mopret/mopret/model/Parameters -/
def k14 : Class := { plain "com/example/mopret/mopret/model/Parameters" (some 0) with
  accessFlags := 48
  interfaces := #[]
  cf := some (fileOf pool14 21 #[] #[{ accessFlags := 2, nameIndex := 5, descriptorIndex := 6, attributes := #[] }, { accessFlags := 8, nameIndex := 25, descriptorIndex := 26, attributes := #[] }] 48 2 #[] #[])
  fields := #[]
  methods := #[k14m0, k14m1]
  instanceTypes := #[]
  staticTypes := #[]
  resolved := Array.replicate 48 none
  statics := none }

def pool15 : Array CpInfo := pool [(1, u "java/lang/Cloneable"), (0, .class_ 1), (0, u "java/lang/Object"), (0, .class_ 3)] 3

/-- java/lang/Cloneable -/
def k15 : Class := { plain "java/lang/Cloneable" (some 0) with
  accessFlags := 1537
  interfaces := #[]
  cf := some (fileOf pool15 2 #[] #[] 1537 4 #[] #[])
  fields := #[]
  methods := #[]
  instanceTypes := #[]
  staticTypes := #[]
  resolved := Array.replicate 8 none
  statics := none }

/-- the primitive byte -/
def k16 : Class := { plain "byte" none with kind := .primitive 'B', accessFlags := 0x411 }
/-- [B -/
def k17 : Class := { plain "[B" (some 0) with kind := .array 16 .byte, interfaces := #[15, 8], accessFlags := 1041 }

/-- the primitive int -/
def k18 : Class := { plain "int" none with kind := .primitive 'I', accessFlags := 0x411 }
/-- [I -/
def k19 : Class := { plain "[I" (some 0) with kind := .array 18 .int, interfaces := #[15, 8], accessFlags := 1041 }

def heap : Heap := #[]
def classes : Array Class := #[k0, k1, k2, k3, k4, k5, k6, k7, k8, k9, k10, k11, k12, k13, k14, k15, k16, k17, k18, k19]
def interned : List (Array UInt16 × Addr) := []
def slotsUsed : Nat := 0
def theMethod : MethodId := ⟨1, 1⟩
def args0 : Array Value := #[.int 3, .int 4, .int 5, .int 6]
def aboutOver (below : List Frame) : State where
  vm := { classes := classes, interned := interned.toArray }
  heap := heap
  slotsUsed := slotsUsed
  threads := #[{ frames := .invoking theMethod args0 :: below }]
def below0 : List Frame := [.native { method := ⟨0, 0⟩, args := #[] }]
def about1 : State := aboutOver below0
def p0 : Program := .bare "" "" ""
def e0 : Env := launch0.env 0 0 0
theorem w_frames : about1.frames = Frame.invoking theMethod args0 :: below0 := rfl
set_option maxRecDepth 65536 in
theorem w_args : argsFit about1.vm theMethod args0 = true := by decide +kernel
set_option maxRecDepth 65536 in
theorem w_heap : heapFits about1 = true := by decide +kernel
set_option maxRecDepth 65536 in
theorem w_runnable : about1.curStatus? = some .runnable := by decide +kernel
set_option maxRecDepth 65536 in
theorem w_alone : about1.alone = true := by decide +kernel
set_option maxRecDepth 65536 in
theorem w_named : about1.methodNamed? x = some theMethod := by decide +kernel
set_option maxRecDepth 65536 in
theorem w_hears : about1.hears theMethod below0 = true := by decide +kernel
set_option maxRecDepth 65536 in
theorem w_ripe : about1.ripe theMethod args0 below0 = true := by decide +kernel
theorem w_running : about1.status = .running := rfl
set_option maxRecDepth 65536 in
theorem w_room : about1.hasRoom e0.platform room_1 = true :=
  launch0.hasRoom_least _ room_1 (by decide +kernel) (by decide +kernel) (by decide +kernel) (by decide +kernel) (by decide +kernel) (by decide +kernel)
theorem allAtoms_all (ts : List Jvm.Cond) (a : Array Jvm.Value) (st : Jvm.State) : (allAtoms ts).before a st = ts.all (fun c => c.before a st) := by
  induction ts with
  | nil => rfl
  | cons c t ih =>
    show (Jvm.Cond.and c (allAtoms t)).before a st = _
    rw [Jvm.Cond.before_and, ih, List.all_cons]
def words1 : List Jvm.Cond := Jvm.Cond.code x code maxLocals ret :: tables_1
/-- a 'code' word, met by the world's own term for the bytes: nothing is compared byte by byte -/
theorem code_word {y : MethodName} {bytes : ByteArray} {mx : Nat} {rt : Option FieldType} {a : Array Value} {s : State} {m : MethodId} {meth : Method} {c : Code} (h1 : s.methodNamed? y = some m) (h2 : s.vm.method? m = some meth) (h3 : meth.code = some c) (h4 : c.code = bytes)
    (h5 : (c.maxLocals == mx && c.exceptionTable.isEmpty && decide (c.maxStack ≤ mostOperands) && decide (meth.sig.returnType = rt) && !meth.locks && decide (parseMethodDescriptor y.desc = some meth.sig)) = true) : (Jvm.Cond.code y bytes mx rt).before a s = true := by
  simp only [Bool.and_eq_true, beq_iff_eq, Bool.not_eq_true', decide_eq_true_eq] at h5
  obtain ⟨⟨⟨⟨⟨g1, g2⟩, g3⟩, g4⟩, g5⟩, g6⟩ := h5
  simp [Cond.before, Cond.holds, Cond.value, h1, h2, h3, h4, g1, g2, g3, g4, g5, g6]
def isCode : Jvm.Cond → Bool
  | .code _ _ _ _ => true
  | _ => false
theorem all_split {L : List Jvm.Cond} {P : Jvm.Cond → Bool} (h1 : L.all (fun c => isCode c || P c) = true) (h2 : ∀ c ∈ L.filter isCode, P c = true) : L.all P = true := by
  refine List.all_eq_true.mpr fun c hc => ?_
  have h := List.all_eq_true.mp h1 c hc
  rcases Bool.eq_false_or_eq_true (isCode c) with hi | hi
  · exact h2 c (List.mem_filter.mpr ⟨hc, hi⟩)
  · simpa [hi] using h
set_option maxRecDepth 65536 in
theorem w_c0 : (Jvm.Cond.code x code maxLocals ret).before args0 about1 = true := code_word (m := ⟨1, 1⟩) (meth := k1m1) (c := k1c1) (by decide +kernel) rfl rfl rfl (by decide +kernel)
set_option maxRecDepth 65536 in
theorem w_c1 : (Jvm.Cond.code ({ cls := "com/example/mopret/mopret/model/Dirichlet", name := "<init>", desc := "()V" } : Jvm.MethodName) prog_51_method_1_code (1 : Nat) (Option.none : Option Jvm.ClassFile.FieldType)).before args0 about1 = true := code_word (m := ⟨5, 0⟩) (meth := k5m0) (c := k5c0) (by decide +kernel) rfl rfl rfl (by decide +kernel)
set_option maxRecDepth 65536 in
theorem w_c2 : (Jvm.Cond.code ({ cls := "com/example/mopret/mopret/model/QueryLikelihood", name := "<init>", desc := "()V" } : Jvm.MethodName) prog_58_method_1_code (1 : Nat) (Option.none : Option Jvm.ClassFile.FieldType)).before args0 about1 = true := code_word (m := ⟨4, 0⟩) (meth := k4m0) (c := k4c0) (by decide +kernel) rfl rfl rfl (by decide +kernel)
set_option maxRecDepth 65536 in
theorem w_c3 : (Jvm.Cond.code ({ cls := "java/lang/Object", name := "<init>", desc := "()V" } : Jvm.MethodName) object_method_1_code (1 : Nat) (Option.none : Option Jvm.ClassFile.FieldType)).before args0 about1 = true := code_word (m := ⟨0, 0⟩) (meth := k0m0) (c := k0c0) (by decide +kernel) rfl rfl rfl (by decide +kernel)
set_option maxRecDepth 65536 in
theorem w_c4 : (Jvm.Cond.code ({ cls := "com/example/mopret/mopret/index/CollectionStatistics", name := "<init>", desc := "(IJI)V" } : Jvm.MethodName) prog_19_method_1_code (5 : Nat) (Option.none : Option Jvm.ClassFile.FieldType)).before args0 about1 = true := code_word (m := ⟨7, 0⟩) (meth := k7m0) (c := k7c0) (by decide +kernel) rfl rfl rfl (by decide +kernel)
set_option maxRecDepth 65536 in
theorem w_c5 : (Jvm.Cond.code ({ cls := "java/lang/Record", name := "<init>", desc := "()V" } : Jvm.MethodName) jdk_30_method_1_code (1 : Nat) (Option.none : Option Jvm.ClassFile.FieldType)).before args0 about1 = true := code_word (m := ⟨6, 0⟩) (meth := k6m0) (c := k6c0) (by decide +kernel) rfl rfl rfl (by decide +kernel)
set_option maxRecDepth 65536 in
theorem w_c6 : (Jvm.Cond.code ({ cls := "com/example/mopret/mopret/model/Dirichlet", name := "probability", desc := "(IDDLcom/example/mopret/mopret/index/CollectionStatistics;)D" } : Jvm.MethodName) prog_51_method_3_code (9 : Nat) (Option.some Jvm.ClassFile.FieldType.double)).before args0 about1 = true := code_word (m := ⟨5, 2⟩) (meth := k5m2) (c := k5c2) (by decide +kernel) rfl rfl rfl (by decide +kernel)
set_option maxRecDepth 65536 in
theorem w_c7 : (Jvm.Cond.code ({ cls := "com/example/mopret/mopret/index/CollectionStatistics", name := "meanLength", desc := "()D" } : Jvm.MethodName) prog_19_method_2_code (1 : Nat) (Option.some Jvm.ClassFile.FieldType.double)).before args0 about1 = true := code_word (m := ⟨7, 1⟩) (meth := k7m1) (c := k7c1) (by decide +kernel) rfl rfl rfl (by decide +kernel)
set_option maxRecDepth 65536 in
theorem w_c8 : (Jvm.Cond.code ({ cls := "com/example/mopret/mopret/model/Dirichlet", name := "<init>", desc := "(D)V" } : Jvm.MethodName) prog_51_method_2_code (3 : Nat) (Option.none : Option Jvm.ClassFile.FieldType)).before args0 about1 = true := code_word (m := ⟨5, 1⟩) (meth := k5m1) (c := k5c1) (by decide +kernel) rfl rfl rfl (by decide +kernel)
set_option maxRecDepth 65536 in
theorem w_c9 : (Jvm.Cond.code ({ cls := "com/example/mopret/mopret/model/Parameters", name := "finitePositive", desc := "(Ljava/lang/String;D)D" } : Jvm.MethodName) prog_57_method_2_code (3 : Nat) (Option.some Jvm.ClassFile.FieldType.double)).before args0 about1 = true := code_word (m := ⟨14, 1⟩) (meth := k14m1) (c := k14c1) (by decide +kernel) rfl rfl rfl (by decide +kernel)
def codes1 : List Jvm.Cond := [Jvm.Cond.code x code maxLocals ret, Jvm.Cond.code ({ cls := "com/example/mopret/mopret/model/Dirichlet", name := "<init>", desc := "()V" } : Jvm.MethodName) prog_51_method_1_code (1 : Nat) (Option.none : Option Jvm.ClassFile.FieldType), Jvm.Cond.code ({ cls := "com/example/mopret/mopret/model/QueryLikelihood", name := "<init>", desc := "()V" } : Jvm.MethodName) prog_58_method_1_code (1 : Nat) (Option.none : Option Jvm.ClassFile.FieldType), Jvm.Cond.code ({ cls := "java/lang/Object", name := "<init>", desc := "()V" } : Jvm.MethodName) object_method_1_code (1 : Nat) (Option.none : Option Jvm.ClassFile.FieldType), Jvm.Cond.code ({ cls := "com/example/mopret/mopret/index/CollectionStatistics", name := "<init>", desc := "(IJI)V" } : Jvm.MethodName) prog_19_method_1_code (5 : Nat) (Option.none : Option Jvm.ClassFile.FieldType), Jvm.Cond.code ({ cls := "java/lang/Record", name := "<init>", desc := "()V" } : Jvm.MethodName) jdk_30_method_1_code (1 : Nat) (Option.none : Option Jvm.ClassFile.FieldType), Jvm.Cond.code ({ cls := "com/example/mopret/mopret/model/Dirichlet", name := "probability", desc := "(IDDLcom/example/mopret/mopret/index/CollectionStatistics;)D" } : Jvm.MethodName) prog_51_method_3_code (9 : Nat) (Option.some Jvm.ClassFile.FieldType.double), Jvm.Cond.code ({ cls := "com/example/mopret/mopret/index/CollectionStatistics", name := "meanLength", desc := "()D" } : Jvm.MethodName) prog_19_method_2_code (1 : Nat) (Option.some Jvm.ClassFile.FieldType.double), Jvm.Cond.code ({ cls := "com/example/mopret/mopret/model/Dirichlet", name := "<init>", desc := "(D)V" } : Jvm.MethodName) prog_51_method_2_code (3 : Nat) (Option.none : Option Jvm.ClassFile.FieldType), Jvm.Cond.code ({ cls := "com/example/mopret/mopret/model/Parameters", name := "finitePositive", desc := "(Ljava/lang/String;D)D" } : Jvm.MethodName) prog_57_method_2_code (3 : Nat) (Option.some Jvm.ClassFile.FieldType.double)]
set_option maxRecDepth 65536 in
theorem codes_eq : words1.filter isCode = codes1 := rfl
theorem w_codes : ∀ c ∈ words1.filter isCode, c.before args0 about1 = true := by
  rw [codes_eq]
  intro c hc
  simp only [codes1, List.mem_cons, List.not_mem_nil, or_false] at hc
  rcases hc with rfl | rfl | rfl | rfl | rfl | rfl | rfl | rfl | rfl | rfl
  · exact w_c0
  · exact w_c1
  · exact w_c2
  · exact w_c3
  · exact w_c4
  · exact w_c5
  · exact w_c6
  · exact w_c7
  · exact w_c8
  · exact w_c9
set_option maxRecDepth 65536 in
theorem w_t1 : (words1.take 24).all (fun c => isCode c || c.before args0 about1) = true := by decide +kernel
set_option maxRecDepth 65536 in
theorem w_t2 : ((words1.drop 24).take 24).all (fun c => isCode c || c.before args0 about1) = true := by decide +kernel
set_option maxRecDepth 65536 in
theorem w_t3 : ((words1.drop 24).drop 24).all (fun c => isCode c || c.before args0 about1) = true := by decide +kernel
theorem w_tables : (allAtoms (Jvm.Cond.code x code maxLocals ret :: tables_1)).before args0 about1 = true := by
  rw [allAtoms_all]
  show words1.all (fun c => c.before args0 about1) = true
  refine all_split ?_ w_codes
  rw [← List.take_append_drop 24 words1, List.all_append, w_t1, ← List.take_append_drop 24 (words1.drop 24), List.all_append, w_t2, w_t3]
  rfl
set_option maxRecDepth 65536 in
theorem w_case : (Jvm.Cond.and given_1 narrow_1).before args0 about1 = true := by decide +kernel
theorem w_applies : (headSpec (Jvm.Cond.code x code maxLocals ret :: tables_1) room_1).applies x e0.platform about1 = true :=
  (Spec.applies_iff w_frames).mpr ⟨w_running, w_runnable, w_alone, w_named, w_hears, w_ripe, w_room, w_tables⟩
theorem atStart : AtStart classFile x code maxLocals ret World_1 tables_1 room_1 Calls_1 rest_1 Pre_1 launch0 p0 e0 about1 theMethod args0 below0 :=
  ⟨lists_1, trivial, launch0.admits_env _ _ _, launch0.least_env, fairChoices_fair.cas, fairChoices_fair.clock, w_frames, w_args, w_heap, w_applies, trivial, trivial, w_case⟩
end start1
theorem witness_1 : WitnessClaimed_1 := ⟨start1.p0, start1.e0, start1.about1, start1.theMethod, start1.args0, start1.below0, start1.atStart⟩
end Jvm.Pilot.@@N@@
