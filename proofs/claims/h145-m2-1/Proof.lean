import JvmDerived
import JvmDerived.Pilot.@@N@@Statement
import JvmDerived.Pilot.@@N@@Code
set_option linter.unusedVariables false
set_option linter.unusedSimpArgs false
namespace Jvm.RoadKit
open Sem ClassFile Op Lib Jvm.Stand Jvm.Free Jvm.LawKit
section New
variable {p : Program} {l : Launch} {e : Env} {R : Room} {s : State} {m : MethodId} {args : Array Value} {below : List Frame} {meth : Method} {c : Code} {T : State} {locs : List Loc} {cells slots : Nat}
theorem retI (X : Stand p l e R s m args below meth c T locs cells slots) (hx : p.tables.exec = Jvm.exec) {pc : Nat} {Ls : Array Slot} {z : Int32} {rest : List Value} (hret : meth.sig.returnType = some .int) (hd : decode c.code pc = .ok (.ireturn, 1)) {fs : List Frame}
    (hl : ∀ (f : JFrame) (acts : List Action), f.method = m → f.locked = none → f.entered = [] → (doReturn e (T.setTop f) acts (some (.int z))).1 = T.setFrames fs) : Steps p.tables e below (T.setTop (mkF m pc Ls (.int z :: rest))) (T.setFrames fs) := by
  have hm' : T.vm.method? m = some meth := X.method'
  have hn : narrow .int (.int z) = .int z := rfl
  show Steps p.tables e below (T.setTop { method := m, pc := pc, locals := Ls, stack := _ :: rest, locked := none }) _
  jvm_step X.here [X.here.top, hx, hd, hm', hret, hn]
  first | (intro acts; rw [hl _ acts rfl rfl rfl]) | rw [hl _ _ rfl rfl rfl]
  exact Steps.refl _
theorem retD (X : Stand p l e R s m args below meth c T locs cells slots) (hx : p.tables.exec = Jvm.exec) {pc : Nat} {Ls : Array Slot} {z : UInt64} {rest : List Value} (hret : meth.sig.returnType = some .double) (hd : decode c.code pc = .ok (.dreturn, 1)) {fs : List Frame}
    (hl : ∀ (f : JFrame) (acts : List Action), f.method = m → f.locked = none → f.entered = [] → (doReturn e (T.setTop f) acts (some (.double z))).1 = T.setFrames fs) : Steps p.tables e below (T.setTop (mkF m pc Ls (.double z :: rest))) (T.setFrames fs) := by
  have hm' : T.vm.method? m = some meth := X.method'
  show Steps p.tables e below (T.setTop { method := m, pc := pc, locals := Ls, stack := _ :: rest, locked := none }) _
  jvm_step X.here [X.here.top, hx, hd, hm', hret]
  first | (intro acts; rw [hl _ acts rfl rfl rfl]) | rw [hl _ _ rfl rfl rfl]
  exact Steps.refl _
end New
end Jvm.RoadKit
namespace Jvm.Pilot.@@N@@
section OwnSteps
open Jvm Jvm.ClassFile Sem Op Lib Jvm.Free Jvm.Stand
open Jvm.RoadKit (lcmpW)
theorem own_f_iload {tb : Tables} [Ours tb] {e : Env} {below : List Frame} {T target : State} {m : MethodId} {c : Code} {Ls : Array Slot} {S : List Value} {pc pc' : Nat} {k : Nat} {v : Int32} (h : At T m c below) (hx : tb.exec = Jvm.exec) (hd : decode c.code pc = .ok (.iload k, 2)) (hl : Ls[k]? = some (.val (.int v))) (hp : pc + 2 = pc') (hr : Steps tb e below (T.setTop (mkF m pc' Ls (.int v :: S))) target) : Steps tb e below (T.setTop (mkF m pc Ls (S))) target := by subst hp; exact XS.iload h hx rfl hd hl hr
theorem own_f_iloadN {tb : Tables} [Ours tb] {e : Env} {below : List Frame} {T target : State} {m : MethodId} {c : Code} {Ls : Array Slot} {S : List Value} {pc pc' : Nat} {k : Fin 4} {v : Int32} (h : At T m c below) (hx : tb.exec = Jvm.exec) (hd : decode c.code pc = .ok (.iload_n k, 1)) (hl : Ls[k.val]? = some (.val (.int v))) (hp : pc + 1 = pc') (hr : Steps tb e below (T.setTop (mkF m pc' Ls (.int v :: S))) target) : Steps tb e below (T.setTop (mkF m pc Ls (S))) target := by subst hp; exact XS.iloadN h hx rfl hd hl hr
theorem own_f_istore {tb : Tables} [Ours tb] {e : Env} {below : List Frame} {T target : State} {m : MethodId} {c : Code} {Ls : Array Slot} {S : List Value} {pc pc' : Nat} {k : Nat} {v : Int32} {Ls' : Array Slot} (h : At T m c below) (hx : tb.exec = Jvm.exec) (hd : decode c.code pc = .ok (.istore k, 2)) (hl : storeLocals Ls k (.int v) = some Ls') (hp : pc + 2 = pc') (hr : Steps tb e below (T.setTop (mkF m pc' Ls' (S))) target) : Steps tb e below (T.setTop (mkF m pc Ls (.int v :: S))) target := by subst hp; exact XS.istore h hx rfl hd rfl hl hr
theorem own_f_istoreN {tb : Tables} [Ours tb] {e : Env} {below : List Frame} {T target : State} {m : MethodId} {c : Code} {Ls : Array Slot} {S : List Value} {pc pc' : Nat} {k : Fin 4} {v : Int32} {Ls' : Array Slot} (h : At T m c below) (hx : tb.exec = Jvm.exec) (hd : decode c.code pc = .ok (.istore_n k, 1)) (hl : storeLocals Ls k.val (.int v) = some Ls') (hp : pc + 1 = pc') (hr : Steps tb e below (T.setTop (mkF m pc' Ls' (S))) target) : Steps tb e below (T.setTop (mkF m pc Ls (.int v :: S))) target := by subst hp; exact XS.istoreN h hx rfl hd rfl hl hr
theorem own_f_lload {tb : Tables} [Ours tb] {e : Env} {below : List Frame} {T target : State} {m : MethodId} {c : Code} {Ls : Array Slot} {S : List Value} {pc pc' : Nat} {k : Nat} {v : Int64} (h : At T m c below) (hx : tb.exec = Jvm.exec) (hd : decode c.code pc = .ok (.lload k, 2)) (hl : Ls[k]? = some (.val (.long v))) (hp : pc + 2 = pc') (hr : Steps tb e below (T.setTop (mkF m pc' Ls (.long v :: S))) target) : Steps tb e below (T.setTop (mkF m pc Ls (S))) target := by subst hp; exact XS.lload h hx rfl hd hl hr
theorem own_f_lloadN {tb : Tables} [Ours tb] {e : Env} {below : List Frame} {T target : State} {m : MethodId} {c : Code} {Ls : Array Slot} {S : List Value} {pc pc' : Nat} {k : Fin 4} {v : Int64} (h : At T m c below) (hx : tb.exec = Jvm.exec) (hd : decode c.code pc = .ok (.lload_n k, 1)) (hl : Ls[k.val]? = some (.val (.long v))) (hp : pc + 1 = pc') (hr : Steps tb e below (T.setTop (mkF m pc' Ls (.long v :: S))) target) : Steps tb e below (T.setTop (mkF m pc Ls (S))) target := by subst hp; exact XS.lloadN h hx rfl hd hl hr
theorem own_f_lstore {tb : Tables} [Ours tb] {e : Env} {below : List Frame} {T target : State} {m : MethodId} {c : Code} {Ls : Array Slot} {S : List Value} {pc pc' : Nat} {k : Nat} {v : Int64} {Ls' : Array Slot} (h : At T m c below) (hx : tb.exec = Jvm.exec) (hd : decode c.code pc = .ok (.lstore k, 2)) (hl : storeLocals Ls k (.long v) = some Ls') (hp : pc + 2 = pc') (hr : Steps tb e below (T.setTop (mkF m pc' Ls' (S))) target) : Steps tb e below (T.setTop (mkF m pc Ls (.long v :: S))) target := by subst hp; exact XS.lstore h hx rfl hd rfl hl hr
theorem own_f_lstoreN {tb : Tables} [Ours tb] {e : Env} {below : List Frame} {T target : State} {m : MethodId} {c : Code} {Ls : Array Slot} {S : List Value} {pc pc' : Nat} {k : Fin 4} {v : Int64} {Ls' : Array Slot} (h : At T m c below) (hx : tb.exec = Jvm.exec) (hd : decode c.code pc = .ok (.lstore_n k, 1)) (hl : storeLocals Ls k.val (.long v) = some Ls') (hp : pc + 1 = pc') (hr : Steps tb e below (T.setTop (mkF m pc' Ls' (S))) target) : Steps tb e below (T.setTop (mkF m pc Ls (.long v :: S))) target := by subst hp; exact XS.lstoreN h hx rfl hd rfl hl hr
theorem own_f_dload {tb : Tables} [Ours tb] {e : Env} {below : List Frame} {T target : State} {m : MethodId} {c : Code} {Ls : Array Slot} {S : List Value} {pc pc' : Nat} {k : Nat} {v : UInt64} (h : At T m c below) (hx : tb.exec = Jvm.exec) (hd : decode c.code pc = .ok (.dload k, 2)) (hl : Ls[k]? = some (.val (.double v))) (hp : pc + 2 = pc') (hr : Steps tb e below (T.setTop (mkF m pc' Ls (.double v :: S))) target) : Steps tb e below (T.setTop (mkF m pc Ls (S))) target := by subst hp; exact XS.dload h hx rfl hd hl hr
theorem own_f_dloadN {tb : Tables} [Ours tb] {e : Env} {below : List Frame} {T target : State} {m : MethodId} {c : Code} {Ls : Array Slot} {S : List Value} {pc pc' : Nat} {k : Fin 4} {v : UInt64} (h : At T m c below) (hx : tb.exec = Jvm.exec) (hd : decode c.code pc = .ok (.dload_n k, 1)) (hl : Ls[k.val]? = some (.val (.double v))) (hp : pc + 1 = pc') (hr : Steps tb e below (T.setTop (mkF m pc' Ls (.double v :: S))) target) : Steps tb e below (T.setTop (mkF m pc Ls (S))) target := by subst hp; exact XS.dloadN h hx rfl hd hl hr
theorem own_f_dstore {tb : Tables} [Ours tb] {e : Env} {below : List Frame} {T target : State} {m : MethodId} {c : Code} {Ls : Array Slot} {S : List Value} {pc pc' : Nat} {k : Nat} {v : UInt64} {Ls' : Array Slot} (h : At T m c below) (hx : tb.exec = Jvm.exec) (hd : decode c.code pc = .ok (.dstore k, 2)) (hl : storeLocals Ls k (.double v) = some Ls') (hp : pc + 2 = pc') (hr : Steps tb e below (T.setTop (mkF m pc' Ls' (S))) target) : Steps tb e below (T.setTop (mkF m pc Ls (.double v :: S))) target := by subst hp; exact XS.dstore h hx rfl hd rfl hl hr
theorem own_f_dstoreN {tb : Tables} [Ours tb] {e : Env} {below : List Frame} {T target : State} {m : MethodId} {c : Code} {Ls : Array Slot} {S : List Value} {pc pc' : Nat} {k : Fin 4} {v : UInt64} {Ls' : Array Slot} (h : At T m c below) (hx : tb.exec = Jvm.exec) (hd : decode c.code pc = .ok (.dstore_n k, 1)) (hl : storeLocals Ls k.val (.double v) = some Ls') (hp : pc + 1 = pc') (hr : Steps tb e below (T.setTop (mkF m pc' Ls' (S))) target) : Steps tb e below (T.setTop (mkF m pc Ls (.double v :: S))) target := by subst hp; exact XS.dstoreN h hx rfl hd rfl hl hr
theorem own_f_aload {tb : Tables} [Ours tb] {e : Env} {below : List Frame} {T target : State} {m : MethodId} {c : Code} {Ls : Array Slot} {S : List Value} {pc pc' : Nat} {k : Nat} {v : Value} (h : At T m c below) (hx : tb.exec = Jvm.exec) (hd : decode c.code pc = .ok (.aload k, 2)) (hl : Ls[k]? = some (.val v)) (hv : v.isRef = true) (hp : pc + 2 = pc') (hr : Steps tb e below (T.setTop (mkF m pc' Ls (v :: S))) target) : Steps tb e below (T.setTop (mkF m pc Ls (S))) target := by subst hp; exact XS.aload h hx rfl hd hl hv hr
theorem own_f_aloadN {tb : Tables} [Ours tb] {e : Env} {below : List Frame} {T target : State} {m : MethodId} {c : Code} {Ls : Array Slot} {S : List Value} {pc pc' : Nat} {k : Fin 4} {v : Value} (h : At T m c below) (hx : tb.exec = Jvm.exec) (hd : decode c.code pc = .ok (.aload_n k, 1)) (hl : Ls[k.val]? = some (.val v)) (hv : v.isRef = true) (hp : pc + 1 = pc') (hr : Steps tb e below (T.setTop (mkF m pc' Ls (v :: S))) target) : Steps tb e below (T.setTop (mkF m pc Ls (S))) target := by subst hp; exact XS.aloadN h hx rfl hd hl hv hr
theorem own_f_astore {tb : Tables} [Ours tb] {e : Env} {below : List Frame} {T target : State} {m : MethodId} {c : Code} {Ls : Array Slot} {S : List Value} {pc pc' : Nat} {k : Nat} {v : Value} {Ls' : Array Slot} (h : At T m c below) (hx : tb.exec = Jvm.exec) (hd : decode c.code pc = .ok (.astore k, 2)) (hv : v.isRef = true) (hl : storeLocals Ls k v = some Ls') (hp : pc + 2 = pc') (hr : Steps tb e below (T.setTop (mkF m pc' Ls' (S))) target) : Steps tb e below (T.setTop (mkF m pc Ls (v :: S))) target := by subst hp; exact XS.astore h hx rfl hd rfl hv hl hr
theorem own_f_astoreN {tb : Tables} [Ours tb] {e : Env} {below : List Frame} {T target : State} {m : MethodId} {c : Code} {Ls : Array Slot} {S : List Value} {pc pc' : Nat} {k : Fin 4} {v : Value} {Ls' : Array Slot} (h : At T m c below) (hx : tb.exec = Jvm.exec) (hd : decode c.code pc = .ok (.astore_n k, 1)) (hv : v.isRef = true) (hl : storeLocals Ls k.val v = some Ls') (hp : pc + 1 = pc') (hr : Steps tb e below (T.setTop (mkF m pc' Ls' (S))) target) : Steps tb e below (T.setTop (mkF m pc Ls (v :: S))) target := by subst hp; exact XS.astoreN h hx rfl hd rfl hv hl hr
theorem own_f_iconst {tb : Tables} [Ours tb] {e : Env} {below : List Frame} {T target : State} {m : MethodId} {c : Code} {Ls : Array Slot} {S : List Value} {pc pc' : Nat} {i : Int} {v : Int32} (h : At T m c below) (hx : tb.exec = Jvm.exec) (hd : decode c.code pc = .ok (.iconst i, 1)) (hv : Int32.ofInt i = v) (hp : pc + 1 = pc') (hr : Steps tb e below (T.setTop (mkF m pc' Ls (.int v :: S))) target) : Steps tb e below (T.setTop (mkF m pc Ls (S))) target := by subst hp; exact XS.iconst h hx rfl hd (hv ▸ hr)
theorem own_f_bipush {tb : Tables} [Ours tb] {e : Env} {below : List Frame} {T target : State} {m : MethodId} {c : Code} {Ls : Array Slot} {S : List Value} {pc pc' : Nat} {i : Int} {v : Int32} (h : At T m c below) (hx : tb.exec = Jvm.exec) (hd : decode c.code pc = .ok (.bipush i, 2)) (hv : (Int8.ofInt i).toInt32 = v) (hp : pc + 2 = pc') (hr : Steps tb e below (T.setTop (mkF m pc' Ls (.int v :: S))) target) : Steps tb e below (T.setTop (mkF m pc Ls (S))) target := by subst hp; exact XS.bipush h hx rfl hd (hv ▸ hr)
theorem own_f_sipush {tb : Tables} [Ours tb] {e : Env} {below : List Frame} {T target : State} {m : MethodId} {c : Code} {Ls : Array Slot} {S : List Value} {pc pc' : Nat} {i : Int} {v : Int32} (h : At T m c below) (hx : tb.exec = Jvm.exec) (hd : decode c.code pc = .ok (.sipush i, 3)) (hv : (Int16.ofInt i).toInt32 = v) (hp : pc + 3 = pc') (hr : Steps tb e below (T.setTop (mkF m pc' Ls (.int v :: S))) target) : Steps tb e below (T.setTop (mkF m pc Ls (S))) target := by subst hp; exact XS.sipush h hx rfl hd (hv ▸ hr)
theorem own_f_lconst {tb : Tables} [Ours tb] {e : Env} {below : List Frame} {T target : State} {m : MethodId} {c : Code} {Ls : Array Slot} {S : List Value} {pc pc' : Nat} {k : Fin 2} {v : Int64} (h : At T m c below) (hx : tb.exec = Jvm.exec) (hd : decode c.code pc = .ok (.lconst k, 1)) (hv : Int64.ofNat k = v) (hp : pc + 1 = pc') (hr : Steps tb e below (T.setTop (mkF m pc' Ls (.long v :: S))) target) : Steps tb e below (T.setTop (mkF m pc Ls (S))) target := by subst hp; exact XS.lconst h hx rfl hd (hv ▸ hr)
theorem own_f_dconst0 {tb : Tables} [Ours tb] {e : Env} {below : List Frame} {T target : State} {m : MethodId} {c : Code} {Ls : Array Slot} {S : List Value} {pc pc' : Nat} {v : UInt64} (h : At T m c below) (hx : tb.exec = Jvm.exec) (hd : decode c.code pc = .ok (.dconst 0, 1)) (hv : FP.dconst0 = v) (hp : pc + 1 = pc') (hr : Steps tb e below (T.setTop (mkF m pc' Ls (.double v :: S))) target) : Steps tb e below (T.setTop (mkF m pc Ls (S))) target := by subst hp; exact XS.dconst0 h hx rfl hd hv hr
theorem own_f_dconst1 {tb : Tables} [Ours tb] {e : Env} {below : List Frame} {T target : State} {m : MethodId} {c : Code} {Ls : Array Slot} {S : List Value} {pc pc' : Nat} {v : UInt64} (h : At T m c below) (hx : tb.exec = Jvm.exec) (hd : decode c.code pc = .ok (.dconst 1, 1)) (hv : FP.dconst1 = v) (hp : pc + 1 = pc') (hr : Steps tb e below (T.setTop (mkF m pc' Ls (.double v :: S))) target) : Steps tb e below (T.setTop (mkF m pc Ls (S))) target := by subst hp; exact XS.dconst1 h hx rfl hd hv hr
theorem own_f_aconstNull {tb : Tables} [Ours tb] {e : Env} {below : List Frame} {T target : State} {m : MethodId} {c : Code} {Ls : Array Slot} {S : List Value} {pc pc' : Nat}  (h : At T m c below) (hx : tb.exec = Jvm.exec) (hd : decode c.code pc = .ok (.aconst_null, 1)) (hp : pc + 1 = pc') (hr : Steps tb e below (T.setTop (mkF m pc' Ls (.null :: S))) target) : Steps tb e below (T.setTop (mkF m pc Ls (S))) target := by subst hp; exact XS.aconstNull h hx rfl hd hr
theorem own_f_iadd {tb : Tables} [Ours tb] {e : Env} {below : List Frame} {T target : State} {m : MethodId} {c : Code} {Ls : Array Slot} {S : List Value} {pc pc' : Nat} {x y v : Int32} (h : At T m c below) (hx : tb.exec = Jvm.exec) (hd : decode c.code pc = .ok (.iadd, 1)) (hv : x + y = v) (hp : pc + 1 = pc') (hr : Steps tb e below (T.setTop (mkF m pc' Ls (.int v :: S))) target) : Steps tb e below (T.setTop (mkF m pc Ls (.int y :: .int x :: S))) target := by subst hp; exact XS.iadd h hx rfl hd rfl (hv ▸ hr)
theorem own_f_ladd {tb : Tables} [Ours tb] {e : Env} {below : List Frame} {T target : State} {m : MethodId} {c : Code} {Ls : Array Slot} {S : List Value} {pc pc' : Nat} {x y v : Int64} (h : At T m c below) (hx : tb.exec = Jvm.exec) (hd : decode c.code pc = .ok (.ladd, 1)) (hv : x + y = v) (hp : pc + 1 = pc') (hr : Steps tb e below (T.setTop (mkF m pc' Ls (.long v :: S))) target) : Steps tb e below (T.setTop (mkF m pc Ls (.long y :: .long x :: S))) target := by subst hp; exact XS.ladd h hx rfl hd rfl (hv ▸ hr)
theorem own_f_isub {tb : Tables} [Ours tb] {e : Env} {below : List Frame} {T target : State} {m : MethodId} {c : Code} {Ls : Array Slot} {S : List Value} {pc pc' : Nat} {x y v : Int32} (h : At T m c below) (hx : tb.exec = Jvm.exec) (hd : decode c.code pc = .ok (.isub, 1)) (hv : x - y = v) (hp : pc + 1 = pc') (hr : Steps tb e below (T.setTop (mkF m pc' Ls (.int v :: S))) target) : Steps tb e below (T.setTop (mkF m pc Ls (.int y :: .int x :: S))) target := by subst hp; exact XS.isub h hx rfl hd rfl (hv ▸ hr)
theorem own_f_lsub {tb : Tables} [Ours tb] {e : Env} {below : List Frame} {T target : State} {m : MethodId} {c : Code} {Ls : Array Slot} {S : List Value} {pc pc' : Nat} {x y v : Int64} (h : At T m c below) (hx : tb.exec = Jvm.exec) (hd : decode c.code pc = .ok (.lsub, 1)) (hv : x - y = v) (hp : pc + 1 = pc') (hr : Steps tb e below (T.setTop (mkF m pc' Ls (.long v :: S))) target) : Steps tb e below (T.setTop (mkF m pc Ls (.long y :: .long x :: S))) target := by subst hp; exact XS.lsub h hx rfl hd rfl (hv ▸ hr)
theorem own_f_imul {tb : Tables} [Ours tb] {e : Env} {below : List Frame} {T target : State} {m : MethodId} {c : Code} {Ls : Array Slot} {S : List Value} {pc pc' : Nat} {x y v : Int32} (h : At T m c below) (hx : tb.exec = Jvm.exec) (hd : decode c.code pc = .ok (.imul, 1)) (hv : x * y = v) (hp : pc + 1 = pc') (hr : Steps tb e below (T.setTop (mkF m pc' Ls (.int v :: S))) target) : Steps tb e below (T.setTop (mkF m pc Ls (.int y :: .int x :: S))) target := by subst hp; exact XS.imul h hx rfl hd rfl (hv ▸ hr)
theorem own_f_lmul {tb : Tables} [Ours tb] {e : Env} {below : List Frame} {T target : State} {m : MethodId} {c : Code} {Ls : Array Slot} {S : List Value} {pc pc' : Nat} {x y v : Int64} (h : At T m c below) (hx : tb.exec = Jvm.exec) (hd : decode c.code pc = .ok (.lmul, 1)) (hv : x * y = v) (hp : pc + 1 = pc') (hr : Steps tb e below (T.setTop (mkF m pc' Ls (.long v :: S))) target) : Steps tb e below (T.setTop (mkF m pc Ls (.long y :: .long x :: S))) target := by subst hp; exact XS.lmul h hx rfl hd rfl (hv ▸ hr)
theorem own_f_iand {tb : Tables} [Ours tb] {e : Env} {below : List Frame} {T target : State} {m : MethodId} {c : Code} {Ls : Array Slot} {S : List Value} {pc pc' : Nat} {x y v : Int32} (h : At T m c below) (hx : tb.exec = Jvm.exec) (hd : decode c.code pc = .ok (.iand, 1)) (hv : x &&& y = v) (hp : pc + 1 = pc') (hr : Steps tb e below (T.setTop (mkF m pc' Ls (.int v :: S))) target) : Steps tb e below (T.setTop (mkF m pc Ls (.int y :: .int x :: S))) target := by subst hp; exact XS.iand h hx rfl hd rfl (hv ▸ hr)
theorem own_f_land {tb : Tables} [Ours tb] {e : Env} {below : List Frame} {T target : State} {m : MethodId} {c : Code} {Ls : Array Slot} {S : List Value} {pc pc' : Nat} {x y v : Int64} (h : At T m c below) (hx : tb.exec = Jvm.exec) (hd : decode c.code pc = .ok (.land, 1)) (hv : x &&& y = v) (hp : pc + 1 = pc') (hr : Steps tb e below (T.setTop (mkF m pc' Ls (.long v :: S))) target) : Steps tb e below (T.setTop (mkF m pc Ls (.long y :: .long x :: S))) target := by subst hp; exact XS.land h hx rfl hd rfl (hv ▸ hr)
theorem own_f_ior {tb : Tables} [Ours tb] {e : Env} {below : List Frame} {T target : State} {m : MethodId} {c : Code} {Ls : Array Slot} {S : List Value} {pc pc' : Nat} {x y v : Int32} (h : At T m c below) (hx : tb.exec = Jvm.exec) (hd : decode c.code pc = .ok (.ior, 1)) (hv : x ||| y = v) (hp : pc + 1 = pc') (hr : Steps tb e below (T.setTop (mkF m pc' Ls (.int v :: S))) target) : Steps tb e below (T.setTop (mkF m pc Ls (.int y :: .int x :: S))) target := by subst hp; exact XS.ior h hx rfl hd rfl (hv ▸ hr)
theorem own_f_lor {tb : Tables} [Ours tb] {e : Env} {below : List Frame} {T target : State} {m : MethodId} {c : Code} {Ls : Array Slot} {S : List Value} {pc pc' : Nat} {x y v : Int64} (h : At T m c below) (hx : tb.exec = Jvm.exec) (hd : decode c.code pc = .ok (.lor, 1)) (hv : x ||| y = v) (hp : pc + 1 = pc') (hr : Steps tb e below (T.setTop (mkF m pc' Ls (.long v :: S))) target) : Steps tb e below (T.setTop (mkF m pc Ls (.long y :: .long x :: S))) target := by subst hp; exact XS.lor h hx rfl hd rfl (hv ▸ hr)
theorem own_f_ixor {tb : Tables} [Ours tb] {e : Env} {below : List Frame} {T target : State} {m : MethodId} {c : Code} {Ls : Array Slot} {S : List Value} {pc pc' : Nat} {x y v : Int32} (h : At T m c below) (hx : tb.exec = Jvm.exec) (hd : decode c.code pc = .ok (.ixor, 1)) (hv : x ^^^ y = v) (hp : pc + 1 = pc') (hr : Steps tb e below (T.setTop (mkF m pc' Ls (.int v :: S))) target) : Steps tb e below (T.setTop (mkF m pc Ls (.int y :: .int x :: S))) target := by subst hp; exact XS.ixor h hx rfl hd rfl (hv ▸ hr)
theorem own_f_lxor {tb : Tables} [Ours tb] {e : Env} {below : List Frame} {T target : State} {m : MethodId} {c : Code} {Ls : Array Slot} {S : List Value} {pc pc' : Nat} {x y v : Int64} (h : At T m c below) (hx : tb.exec = Jvm.exec) (hd : decode c.code pc = .ok (.lxor, 1)) (hv : x ^^^ y = v) (hp : pc + 1 = pc') (hr : Steps tb e below (T.setTop (mkF m pc' Ls (.long v :: S))) target) : Steps tb e below (T.setTop (mkF m pc Ls (.long y :: .long x :: S))) target := by subst hp; exact XS.lxor h hx rfl hd rfl (hv ▸ hr)
theorem own_f_ishl {tb : Tables} [Ours tb] {e : Env} {below : List Frame} {T target : State} {m : MethodId} {c : Code} {Ls : Array Slot} {S : List Value} {pc pc' : Nat} {x : Int32} {y : Int32} (h : At T m c below) (hx : tb.exec = Jvm.exec) (hd : decode c.code pc = .ok (.ishl, 1)) (hp : pc + 1 = pc') (hr : Steps tb e below (T.setTop (mkF m pc' Ls (.int (x <<< (y &&& 31)) :: S))) target) : Steps tb e below (T.setTop (mkF m pc Ls (.int y :: .int x :: S))) target := by subst hp; exact XS.ishl h hx rfl hd rfl hr
theorem own_f_ishr {tb : Tables} [Ours tb] {e : Env} {below : List Frame} {T target : State} {m : MethodId} {c : Code} {Ls : Array Slot} {S : List Value} {pc pc' : Nat} {x : Int32} {y : Int32} (h : At T m c below) (hx : tb.exec = Jvm.exec) (hd : decode c.code pc = .ok (.ishr, 1)) (hp : pc + 1 = pc') (hr : Steps tb e below (T.setTop (mkF m pc' Ls (.int (x >>> (y &&& 31)) :: S))) target) : Steps tb e below (T.setTop (mkF m pc Ls (.int y :: .int x :: S))) target := by subst hp; exact XS.ishr h hx rfl hd rfl hr
theorem own_f_iushr {tb : Tables} [Ours tb] {e : Env} {below : List Frame} {T target : State} {m : MethodId} {c : Code} {Ls : Array Slot} {S : List Value} {pc pc' : Nat} {x : Int32} {y : Int32} (h : At T m c below) (hx : tb.exec = Jvm.exec) (hd : decode c.code pc = .ok (.iushr, 1)) (hp : pc + 1 = pc') (hr : Steps tb e below (T.setTop (mkF m pc' Ls (.int ((x.toUInt32 >>> (y &&& 31).toUInt32).toInt32) :: S))) target) : Steps tb e below (T.setTop (mkF m pc Ls (.int y :: .int x :: S))) target := by subst hp; exact XS.iushr h hx rfl hd rfl hr
theorem own_f_lshl {tb : Tables} [Ours tb] {e : Env} {below : List Frame} {T target : State} {m : MethodId} {c : Code} {Ls : Array Slot} {S : List Value} {pc pc' : Nat} {x : Int64} {y : Int32} (h : At T m c below) (hx : tb.exec = Jvm.exec) (hd : decode c.code pc = .ok (.lshl, 1)) (hp : pc + 1 = pc') (hr : Steps tb e below (T.setTop (mkF m pc' Ls (.long (x <<< (y &&& 0x3f).toInt64) :: S))) target) : Steps tb e below (T.setTop (mkF m pc Ls (.int y :: .long x :: S))) target := by subst hp; exact XS.lshl h hx rfl hd rfl hr
theorem own_f_lshr {tb : Tables} [Ours tb] {e : Env} {below : List Frame} {T target : State} {m : MethodId} {c : Code} {Ls : Array Slot} {S : List Value} {pc pc' : Nat} {x : Int64} {y : Int32} (h : At T m c below) (hx : tb.exec = Jvm.exec) (hd : decode c.code pc = .ok (.lshr, 1)) (hp : pc + 1 = pc') (hr : Steps tb e below (T.setTop (mkF m pc' Ls (.long (x >>> (y &&& 0x3f).toInt64) :: S))) target) : Steps tb e below (T.setTop (mkF m pc Ls (.int y :: .long x :: S))) target := by subst hp; exact XS.lshr h hx rfl hd rfl hr
theorem own_f_lushr {tb : Tables} [Ours tb] {e : Env} {below : List Frame} {T target : State} {m : MethodId} {c : Code} {Ls : Array Slot} {S : List Value} {pc pc' : Nat} {x : Int64} {y : Int32} (h : At T m c below) (hx : tb.exec = Jvm.exec) (hd : decode c.code pc = .ok (.lushr, 1)) (hp : pc + 1 = pc') (hr : Steps tb e below (T.setTop (mkF m pc' Ls (.long ((x.toUInt64 >>> (y &&& 0x3f).toInt64.toUInt64).toInt64) :: S))) target) : Steps tb e below (T.setTop (mkF m pc Ls (.int y :: .long x :: S))) target := by subst hp; exact XS.lushr h hx rfl hd rfl hr
theorem own_f_idiv {tb : Tables} [Ours tb] {e : Env} {below : List Frame} {T target : State} {m : MethodId} {c : Code} {Ls : Array Slot} {S : List Value} {pc pc' : Nat} {x y : Int32} (h : At T m c below) (hx : tb.exec = Jvm.exec) (hd : decode c.code pc = .ok (.idiv, 1)) (hy : y ≠ 0) (hp : pc + 1 = pc') (hr : Steps tb e below (T.setTop (mkF m pc' Ls (.int (x / y) :: S))) target) : Steps tb e below (T.setTop (mkF m pc Ls (.int y :: .int x :: S))) target := by subst hp; exact XS.idiv h hx rfl hd rfl hy hr
theorem own_f_irem {tb : Tables} [Ours tb] {e : Env} {below : List Frame} {T target : State} {m : MethodId} {c : Code} {Ls : Array Slot} {S : List Value} {pc pc' : Nat} {x y : Int32} (h : At T m c below) (hx : tb.exec = Jvm.exec) (hd : decode c.code pc = .ok (.irem, 1)) (hy : y ≠ 0) (hp : pc + 1 = pc') (hr : Steps tb e below (T.setTop (mkF m pc' Ls (.int (x - (x / y) * y) :: S))) target) : Steps tb e below (T.setTop (mkF m pc Ls (.int y :: .int x :: S))) target := by subst hp; exact XS.irem h hx rfl hd rfl hy hr
theorem own_f_ldiv {tb : Tables} [Ours tb] {e : Env} {below : List Frame} {T target : State} {m : MethodId} {c : Code} {Ls : Array Slot} {S : List Value} {pc pc' : Nat} {x y : Int64} (h : At T m c below) (hx : tb.exec = Jvm.exec) (hd : decode c.code pc = .ok (.ldiv, 1)) (hy : y ≠ 0) (hp : pc + 1 = pc') (hr : Steps tb e below (T.setTop (mkF m pc' Ls (.long (x / y) :: S))) target) : Steps tb e below (T.setTop (mkF m pc Ls (.long y :: .long x :: S))) target := by subst hp; exact XS.ldiv h hx rfl hd rfl hy hr
theorem own_f_lrem {tb : Tables} [Ours tb] {e : Env} {below : List Frame} {T target : State} {m : MethodId} {c : Code} {Ls : Array Slot} {S : List Value} {pc pc' : Nat} {x y : Int64} (h : At T m c below) (hx : tb.exec = Jvm.exec) (hd : decode c.code pc = .ok (.lrem, 1)) (hy : y ≠ 0) (hp : pc + 1 = pc') (hr : Steps tb e below (T.setTop (mkF m pc' Ls (.long (x - (x / y) * y) :: S))) target) : Steps tb e below (T.setTop (mkF m pc Ls (.long y :: .long x :: S))) target := by subst hp; exact XS.lrem h hx rfl hd rfl hy hr
theorem own_f_ineg {tb : Tables} [Ours tb] {e : Env} {below : List Frame} {T target : State} {m : MethodId} {c : Code} {Ls : Array Slot} {S : List Value} {pc pc' : Nat} {x : Int32} (h : At T m c below) (hx : tb.exec = Jvm.exec) (hd : decode c.code pc = .ok (.ineg, 1)) (hp : pc + 1 = pc') (hr : Steps tb e below (T.setTop (mkF m pc' Ls (.int (-x) :: S))) target) : Steps tb e below (T.setTop (mkF m pc Ls (.int x :: S))) target := by subst hp; exact XS.ineg h hx rfl hd rfl hr
theorem own_f_lneg {tb : Tables} [Ours tb] {e : Env} {below : List Frame} {T target : State} {m : MethodId} {c : Code} {Ls : Array Slot} {S : List Value} {pc pc' : Nat} {x : Int64} (h : At T m c below) (hx : tb.exec = Jvm.exec) (hd : decode c.code pc = .ok (.lneg, 1)) (hp : pc + 1 = pc') (hr : Steps tb e below (T.setTop (mkF m pc' Ls (.long (-x) :: S))) target) : Steps tb e below (T.setTop (mkF m pc Ls (.long x :: S))) target := by subst hp; exact XS.lneg h hx rfl hd rfl hr
theorem own_f_i2l {tb : Tables} [Ours tb] {e : Env} {below : List Frame} {T target : State} {m : MethodId} {c : Code} {Ls : Array Slot} {S : List Value} {pc pc' : Nat} {x : Int32} (h : At T m c below) (hx : tb.exec = Jvm.exec) (hd : decode c.code pc = .ok (.i2l, 1)) (hp : pc + 1 = pc') (hr : Steps tb e below (T.setTop (mkF m pc' Ls (.long (x.toInt64) :: S))) target) : Steps tb e below (T.setTop (mkF m pc Ls (.int x :: S))) target := by subst hp; exact XS.i2l h hx rfl hd rfl hr
theorem own_f_l2i {tb : Tables} [Ours tb] {e : Env} {below : List Frame} {T target : State} {m : MethodId} {c : Code} {Ls : Array Slot} {S : List Value} {pc pc' : Nat} {x : Int64} (h : At T m c below) (hx : tb.exec = Jvm.exec) (hd : decode c.code pc = .ok (.l2i, 1)) (hp : pc + 1 = pc') (hr : Steps tb e below (T.setTop (mkF m pc' Ls (.int (x.toInt32) :: S))) target) : Steps tb e below (T.setTop (mkF m pc Ls (.long x :: S))) target := by subst hp; exact XS.l2i h hx rfl hd rfl hr
theorem own_f_i2b {tb : Tables} [Ours tb] {e : Env} {below : List Frame} {T target : State} {m : MethodId} {c : Code} {Ls : Array Slot} {S : List Value} {pc pc' : Nat} {x : Int32} (h : At T m c below) (hx : tb.exec = Jvm.exec) (hd : decode c.code pc = .ok (.i2b, 1)) (hp : pc + 1 = pc') (hr : Steps tb e below (T.setTop (mkF m pc' Ls (.int (x.toInt8.toInt32) :: S))) target) : Steps tb e below (T.setTop (mkF m pc Ls (.int x :: S))) target := by subst hp; exact XS.i2b h hx rfl hd rfl hr
theorem own_f_i2s {tb : Tables} [Ours tb] {e : Env} {below : List Frame} {T target : State} {m : MethodId} {c : Code} {Ls : Array Slot} {S : List Value} {pc pc' : Nat} {x : Int32} (h : At T m c below) (hx : tb.exec = Jvm.exec) (hd : decode c.code pc = .ok (.i2s, 1)) (hp : pc + 1 = pc') (hr : Steps tb e below (T.setTop (mkF m pc' Ls (.int (x.toInt16.toInt32) :: S))) target) : Steps tb e below (T.setTop (mkF m pc Ls (.int x :: S))) target := by subst hp; exact XS.i2s h hx rfl hd rfl hr
theorem own_f_i2c {tb : Tables} [Ours tb] {e : Env} {below : List Frame} {T target : State} {m : MethodId} {c : Code} {Ls : Array Slot} {S : List Value} {pc pc' : Nat} {x : Int32} (h : At T m c below) (hx : tb.exec = Jvm.exec) (hd : decode c.code pc = .ok (.i2c, 1)) (hp : pc + 1 = pc') (hr : Steps tb e below (T.setTop (mkF m pc' Ls (.int (x.toUInt32.toUInt16.toUInt32.toInt32) :: S))) target) : Steps tb e below (T.setTop (mkF m pc Ls (.int x :: S))) target := by subst hp; exact XS.i2c h hx rfl hd rfl hr
theorem own_f_lcmp {tb : Tables} [Ours tb] {e : Env} {below : List Frame} {T target : State} {m : MethodId} {c : Code} {Ls : Array Slot} {S : List Value} {pc pc' : Nat} {x y : Int64} (h : At T m c below) (hx : tb.exec = Jvm.exec) (hd : decode c.code pc = .ok (.lcmp, 1)) (hp : pc + 1 = pc') (hr : Steps tb e below (T.setTop (mkF m pc' Ls (.int (lcmpW x y) :: S))) target) : Steps tb e below (T.setTop (mkF m pc Ls (.long y :: .long x :: S))) target := by subst hp; exact XS.lcmp h hx rfl hd rfl hr
theorem own_f_i2d {tb : Tables} [Ours tb] {e : Env} {below : List Frame} {T target : State} {m : MethodId} {c : Code} {Ls : Array Slot} {S : List Value} {pc pc' : Nat} {x : Int32} {v : UInt64} (h : At T m c below) (hx : tb.exec = Jvm.exec) (hd : decode c.code pc = .ok (.i2d, 1)) (hv : FP.i2d x = v) (hp : pc + 1 = pc') (hr : Steps tb e below (T.setTop (mkF m pc' Ls (.double v :: S))) target) : Steps tb e below (T.setTop (mkF m pc Ls (.int x :: S))) target := by subst hp; exact XS.i2dS h hx rfl hd rfl hv hr
theorem own_f_l2d {tb : Tables} [Ours tb] {e : Env} {below : List Frame} {T target : State} {m : MethodId} {c : Code} {Ls : Array Slot} {S : List Value} {pc pc' : Nat} {x : Int64} {v : UInt64} (h : At T m c below) (hx : tb.exec = Jvm.exec) (hd : decode c.code pc = .ok (.l2d, 1)) (hv : FP.l2d x = v) (hp : pc + 1 = pc') (hr : Steps tb e below (T.setTop (mkF m pc' Ls (.double v :: S))) target) : Steps tb e below (T.setTop (mkF m pc Ls (.long x :: S))) target := by subst hp; exact XS.l2dS h hx rfl hd rfl hv hr
theorem own_f_d2i {tb : Tables} [Ours tb] {e : Env} {below : List Frame} {T target : State} {m : MethodId} {c : Code} {Ls : Array Slot} {S : List Value} {pc pc' : Nat} {x : UInt64} {v : Int32} (h : At T m c below) (hx : tb.exec = Jvm.exec) (hd : decode c.code pc = .ok (.d2i, 1)) (hv : FP.d2i x = v) (hp : pc + 1 = pc') (hr : Steps tb e below (T.setTop (mkF m pc' Ls (.int v :: S))) target) : Steps tb e below (T.setTop (mkF m pc Ls (.double x :: S))) target := by subst hp; exact XS.d2iS h hx rfl hd rfl hv hr
theorem own_f_d2l {tb : Tables} [Ours tb] {e : Env} {below : List Frame} {T target : State} {m : MethodId} {c : Code} {Ls : Array Slot} {S : List Value} {pc pc' : Nat} {x : UInt64} {v : Int64} (h : At T m c below) (hx : tb.exec = Jvm.exec) (hd : decode c.code pc = .ok (.d2l, 1)) (hv : FP.d2l x = v) (hp : pc + 1 = pc') (hr : Steps tb e below (T.setTop (mkF m pc' Ls (.long v :: S))) target) : Steps tb e below (T.setTop (mkF m pc Ls (.double x :: S))) target := by subst hp; exact XS.d2lS h hx rfl hd rfl hv hr
theorem own_f_dneg {tb : Tables} [Ours tb] {e : Env} {below : List Frame} {T target : State} {m : MethodId} {c : Code} {Ls : Array Slot} {S : List Value} {pc pc' : Nat} {x : UInt64} {v : UInt64} (h : At T m c below) (hx : tb.exec = Jvm.exec) (hd : decode c.code pc = .ok (.dneg, 1)) (hv : FP.dneg x = v) (hp : pc + 1 = pc') (hr : Steps tb e below (T.setTop (mkF m pc' Ls (.double v :: S))) target) : Steps tb e below (T.setTop (mkF m pc Ls (.double x :: S))) target := by subst hp; exact XS.dnegS h hx rfl hd rfl hv hr
theorem own_f_dadd {tb : Tables} [Ours tb] {e : Env} {below : List Frame} {T target : State} {m : MethodId} {c : Code} {Ls : Array Slot} {S : List Value} {pc pc' : Nat} {x y v : UInt64} (h : At T m c below) (hx : tb.exec = Jvm.exec) (hd : decode c.code pc = .ok (.dadd, 1)) (hn : Jvm.Free.Fl.NoNaN64 (FP.dadd x y)) (hv : FP.dadd x y = v) (hp : pc + 1 = pc') (hr : Steps tb e below (T.setTop (mkF m pc' Ls (.double v :: S))) target) : Steps tb e below (T.setTop (mkF m pc Ls (.double y :: .double x :: S))) target := by subst hp; exact XS.daddS h hx rfl hd rfl hn hv hr
theorem own_f_dsub {tb : Tables} [Ours tb] {e : Env} {below : List Frame} {T target : State} {m : MethodId} {c : Code} {Ls : Array Slot} {S : List Value} {pc pc' : Nat} {x y v : UInt64} (h : At T m c below) (hx : tb.exec = Jvm.exec) (hd : decode c.code pc = .ok (.dsub, 1)) (hn : Jvm.Free.Fl.NoNaN64 (FP.dsub x y)) (hv : FP.dsub x y = v) (hp : pc + 1 = pc') (hr : Steps tb e below (T.setTop (mkF m pc' Ls (.double v :: S))) target) : Steps tb e below (T.setTop (mkF m pc Ls (.double y :: .double x :: S))) target := by subst hp; exact XS.dsubS h hx rfl hd rfl hn hv hr
theorem own_f_dmul {tb : Tables} [Ours tb] {e : Env} {below : List Frame} {T target : State} {m : MethodId} {c : Code} {Ls : Array Slot} {S : List Value} {pc pc' : Nat} {x y v : UInt64} (h : At T m c below) (hx : tb.exec = Jvm.exec) (hd : decode c.code pc = .ok (.dmul, 1)) (hn : Jvm.Free.Fl.NoNaN64 (FP.dmul x y)) (hv : FP.dmul x y = v) (hp : pc + 1 = pc') (hr : Steps tb e below (T.setTop (mkF m pc' Ls (.double v :: S))) target) : Steps tb e below (T.setTop (mkF m pc Ls (.double y :: .double x :: S))) target := by subst hp; exact XS.dmulS h hx rfl hd rfl hn hv hr
theorem own_f_ddiv {tb : Tables} [Ours tb] {e : Env} {below : List Frame} {T target : State} {m : MethodId} {c : Code} {Ls : Array Slot} {S : List Value} {pc pc' : Nat} {x y v : UInt64} (h : At T m c below) (hx : tb.exec = Jvm.exec) (hd : decode c.code pc = .ok (.ddiv, 1)) (hn : Jvm.Free.Fl.NoNaN64 (FP.ddiv x y)) (hv : FP.ddiv x y = v) (hp : pc + 1 = pc') (hr : Steps tb e below (T.setTop (mkF m pc' Ls (.double v :: S))) target) : Steps tb e below (T.setTop (mkF m pc Ls (.double y :: .double x :: S))) target := by subst hp; exact XS.ddivS h hx rfl hd rfl hn hv hr
theorem own_f_dcmp {tb : Tables} [Ours tb] {e : Env} {below : List Frame} {T target : State} {m : MethodId} {c : Code} {Ls : Array Slot} {S : List Value} {pc pc' : Nat} {o : CmpOp} {x y : UInt64} {v : Int32} (h : At T m c below) (hx : tb.exec = Jvm.exec) (hd : decode c.code pc = .ok (.dcmp o, 1)) (hv : cmpValue (FP.dcmp x y) o = v) (hp : pc + 1 = pc') (hr : Steps tb e below (T.setTop (mkF m pc' Ls (.int v :: S))) target) : Steps tb e below (T.setTop (mkF m pc Ls (.double y :: .double x :: S))) target := by subst hp; exact XS.dcmpS h hx rfl hd rfl hv hr
theorem own_f_iinc {tb : Tables} [Ours tb] {e : Env} {below : List Frame} {T target : State} {m : MethodId} {c : Code} {Ls : Array Slot} {S : List Value} {pc pc' : Nat} {k : Nat} {cst : Int} {x : Int32} {Ls' : Array Slot} (h : At T m c below) (hx : tb.exec = Jvm.exec) (hd : decode c.code pc = .ok (.iinc k cst, 3)) (hl : Ls[k]? = some (.val (.int x))) (hl' : storeLocals Ls k (.int (x + Int32.ofInt cst)) = some Ls') (hp : pc + 3 = pc') (hr : Steps tb e below (T.setTop (mkF m pc' Ls' (S))) target) : Steps tb e below (T.setTop (mkF m pc Ls (S))) target := by subst hp; exact XS.iinc h hx rfl hd hl hl' hr
theorem own_f_dup {tb : Tables} [Ours tb] {e : Env} {below : List Frame} {T target : State} {m : MethodId} {c : Code} {Ls : Array Slot} {S : List Value} {pc pc' : Nat} {v : Value} (h : At T m c below) (hx : tb.exec = Jvm.exec) (hd : decode c.code pc = .ok (.dup, 1)) (hc : v.category = 1) (hp : pc + 1 = pc') (hr : Steps tb e below (T.setTop (mkF m pc' Ls (v :: v :: S))) target) : Steps tb e below (T.setTop (mkF m pc Ls (v :: S))) target := by subst hp; exact XS.dup h hx rfl hd rfl hc hr
theorem own_f_dupX1 {tb : Tables} [Ours tb] {e : Env} {below : List Frame} {T target : State} {m : MethodId} {c : Code} {Ls : Array Slot} {S : List Value} {pc pc' : Nat} {x y : Value} (h : At T m c below) (hx : tb.exec = Jvm.exec) (hd : decode c.code pc = .ok (.dup_x1, 1)) (hc : x.category = 1) (hc' : y.category = 1) (hp : pc + 1 = pc') (hr : Steps tb e below (T.setTop (mkF m pc' Ls (x :: y :: x :: S))) target) : Steps tb e below (T.setTop (mkF m pc Ls (x :: y :: S))) target := by subst hp; exact XS.dupX1 h hx rfl hd rfl hc hc' hr
theorem own_f_pop {tb : Tables} [Ours tb] {e : Env} {below : List Frame} {T target : State} {m : MethodId} {c : Code} {Ls : Array Slot} {S : List Value} {pc pc' : Nat} {x : Value} (h : At T m c below) (hx : tb.exec = Jvm.exec) (hd : decode c.code pc = .ok (.pop, 1)) (hc : x.category = 1) (hp : pc + 1 = pc') (hr : Steps tb e below (T.setTop (mkF m pc' Ls (S))) target) : Steps tb e below (T.setTop (mkF m pc Ls (x :: S))) target := by subst hp; exact XS.pop h hx rfl hd rfl hc hr
theorem own_f_goto {tb : Tables} [Ours tb] {e : Env} {below : List Frame} {T target : State} {m : MethodId} {c : Code} {Ls : Array Slot} {S : List Value} {pc pc' : Nat} {o : Int} (h : At T m c below) (hx : tb.exec = Jvm.exec) (hd : decode c.code pc = .ok (.goto o, 3)) (ho : 0 ≤ (pc : Int) + o) (hp : ((pc : Int) + o).toNat = pc') (hr : Steps tb e below (T.setTop (mkF m pc' Ls S)) target) : Steps tb e below (T.setTop (mkF m pc Ls (S))) target := XS.goto h hx rfl rfl hd ho hp hr
theorem own_f_ifYes {tb : Tables} [Ours tb] {e : Env} {below : List Frame} {T target : State} {m : MethodId} {c : Code} {Ls : Array Slot} {S : List Value} {pc pc' : Nat} {o : Int} {cd : ClassFile.Cond} {x : Int32} (h : At T m c below) (hx : tb.exec = Jvm.exec) (hd : decode c.code pc = .ok (.ifCond cd o, 3)) (hc : ifCond.holds cd x = true) (ho : 0 ≤ (pc : Int) + o) (hp : ((pc : Int) + o).toNat = pc') (hr : Steps tb e below (T.setTop (mkF m pc' Ls S)) target) : Steps tb e below (T.setTop (mkF m pc Ls (.int x :: S))) target := XS.ifYes h hx rfl rfl hd rfl hc ho hp hr
theorem own_f_icmpYes {tb : Tables} [Ours tb] {e : Env} {below : List Frame} {T target : State} {m : MethodId} {c : Code} {Ls : Array Slot} {S : List Value} {pc pc' : Nat} {o : Int} {cd : ClassFile.Cond} {x y : Int32} (h : At T m c below) (hx : tb.exec = Jvm.exec) (hd : decode c.code pc = .ok (.if_icmp cd o, 3)) (hc : if_icmp.holds cd x y = true) (ho : 0 ≤ (pc : Int) + o) (hp : ((pc : Int) + o).toNat = pc') (hr : Steps tb e below (T.setTop (mkF m pc' Ls S)) target) : Steps tb e below (T.setTop (mkF m pc Ls (.int y :: .int x :: S))) target := XS.icmpYes h hx rfl rfl hd rfl hc ho hp hr
theorem own_f_ifNo {tb : Tables} [Ours tb] {e : Env} {below : List Frame} {T target : State} {m : MethodId} {c : Code} {Ls : Array Slot} {S : List Value} {pc pc' : Nat} {o : Int} {cd : ClassFile.Cond} {x : Int32} (h : At T m c below) (hx : tb.exec = Jvm.exec) (hd : decode c.code pc = .ok (.ifCond cd o, 3)) (hc : ifCond.holds cd x = false) (hp : pc + 3 = pc') (hr : Steps tb e below (T.setTop (mkF m pc' Ls (S))) target) : Steps tb e below (T.setTop (mkF m pc Ls (.int x :: S))) target := by subst hp; exact XS.ifNo h hx rfl hd rfl hc hr
theorem own_f_icmpNo {tb : Tables} [Ours tb] {e : Env} {below : List Frame} {T target : State} {m : MethodId} {c : Code} {Ls : Array Slot} {S : List Value} {pc pc' : Nat} {o : Int} {cd : ClassFile.Cond} {x y : Int32} (h : At T m c below) (hx : tb.exec = Jvm.exec) (hd : decode c.code pc = .ok (.if_icmp cd o, 3)) (hc : if_icmp.holds cd x y = false) (hp : pc + 3 = pc') (hr : Steps tb e below (T.setTop (mkF m pc' Ls (S))) target) : Steps tb e below (T.setTop (mkF m pc Ls (.int y :: .int x :: S))) target := by subst hp; exact XS.icmpNo h hx rfl hd rfl hc hr
variable {p : Program} {l : Launch} {e : Env} {R : Room} {s : State} {m : MethodId} {args : Array Value} {below : List Frame} {meth : Method} {c : Code} {T target : State} {locs : List Loc} {cells slots : Nat} {Ls : Array Slot} {S : List Value} {pc pc' : Nat} {own : String} {index : Nat}
theorem own_f_ldcInt (X : Stand p l e R s m args below meth c T locs cells slots) (hx : p.tables.exec = Jvm.exec) {v : Int32} (hown : s.vm.findClass own = some m.cls) (hc : (Jvm.Cond.constant own index v).before args s = true) (hd : decode c.code pc = .ok (.ldc index, 2)) (hp : pc + 2 = pc') (hr : Steps p.tables e below (T.setTop (mkF m pc' Ls (.int v :: S))) target) : Steps p.tables e below (T.setTop (mkF m pc Ls S)) target := by subst hp; exact X.ldcInt hx hown hc (g := mkF m pc Ls S) rfl hd _ hr
theorem own_f_ldcwInt (X : Stand p l e R s m args below meth c T locs cells slots) (hx : p.tables.exec = Jvm.exec) {v : Int32} (hown : s.vm.findClass own = some m.cls) (hc : (Jvm.Cond.constant own index v).before args s = true) (hd : decode c.code pc = .ok (.ldc_w index, 3)) (hp : pc + 3 = pc') (hr : Steps p.tables e below (T.setTop (mkF m pc' Ls (.int v :: S))) target) : Steps p.tables e below (T.setTop (mkF m pc Ls S)) target := by subst hp; exact X.ldcwInt hx hown hc (g := mkF m pc Ls S) rfl hd _ hr
theorem own_f_ldc2Long (X : Stand p l e R s m args below meth c T locs cells slots) (hx : p.tables.exec = Jvm.exec) {v : Int64} (hown : s.vm.findClass own = some m.cls) (hc : (Jvm.Cond.constantLong own index v).before args s = true) (hd : decode c.code pc = .ok (.ldc2_w index, 3)) (hp : pc + 3 = pc') (hr : Steps p.tables e below (T.setTop (mkF m pc' Ls (.long v :: S))) target) : Steps p.tables e below (T.setTop (mkF m pc Ls S)) target := by subst hp; exact X.ldc2Long hx hown hc (g := mkF m pc Ls S) rfl hd _ hr
theorem own_f_ldc2DoubleC (X : Stand p l e R s m args below meth c T locs cells slots) (hx : p.tables.exec = Jvm.exec) {v : UInt64} (hown : s.vm.findClass own = some m.cls) (hc : (Jvm.Cond.constantDouble own index v).before args s = true) (hd : decode c.code pc = .ok (.ldc2_w index, 3)) (hp : pc + 3 = pc') (hr : Steps p.tables e below (T.setTop (mkF m pc' Ls (.double v :: S))) target) : Steps p.tables e below (T.setTop (mkF m pc Ls S)) target := by subst hp; exact X.ldc2DoubleC hx hown hc (g := mkF m pc Ls S) rfl hd _ hr
end OwnSteps
section OwnLaw
open Jvm.Free.Fl
theorem own_i1 : Jvm.FP.i2d 1 = 4607182418800017408 := by decide +kernel
theorem own_i2 : Jvm.FP.i2d 2 = 4611686018427387904 := by decide +kernel
theorem own_i3 : Jvm.FP.i2d 3 = 4613937818241073152 := by decide +kernel
theorem own_cfin1 : Fin64 4607182418800017408 := own_i1 ▸ i2d_fin 1
theorem own_cfin2 : Fin64 4611686018427387904 := own_i2 ▸ i2d_fin 2
theorem own_cfin3 : Fin64 4613937818241073152 := own_i3 ▸ i2d_fin 3
theorem own_z0 : NoNaN64 0 := by unfold NoNaN64; decide
theorem own_qnn {c : UInt64} {r : Int32} (hc : Fin64 c) (hr : ¬ (r = (0 : Int32))) : NoNaN64 (Jvm.FP.ddiv c (Jvm.FP.i2d r)) := ddiv_out hc.noNaN (i2d_fin r) (i2d_nz hr)
theorem own_dnn {x : UInt64} {r : Int32} (hc : NoNaN64 x) (hr : ¬ (r = (0 : Int32))) : NoNaN64 (Jvm.FP.ddiv x (Jvm.FP.i2d r)) := ddiv_out hc (i2d_fin r) (i2d_nz hr)
theorem own_qf {a r : Int32} (hr : ¬ (r = (0 : Int32))) : Fin64 (Jvm.FP.ddiv (Jvm.FP.i2d a) (Jvm.FP.i2d r)) := by
  have h1 := Jvm.FP.Core.i2d_mag a
  have h2 := Jvm.FP.Core.i2d_big (Jvm.FP.Core.int32_ne hr)
  have h3 := Jvm.FP.Core.ddiv_mag h1 h2.1 h2.2 (by decide) (by decide)
  exact fin64_core.mpr (Jvm.FP.Core.fin_of_lt h3 (by decide))
theorem own_qfin1 {r : Int32} (hr : ¬ (r = (0 : Int32))) : Fin64 (Jvm.FP.ddiv 4607182418800017408 (Jvm.FP.i2d r)) := own_i1 ▸ own_qf (a := 1) hr
theorem own_qfin2 {r : Int32} (hr : ¬ (r = (0 : Int32))) : Fin64 (Jvm.FP.ddiv 4611686018427387904 (Jvm.FP.i2d r)) := own_i2 ▸ own_qf (a := 2) hr
theorem own_qfin3 {r : Int32} (hr : ¬ (r = (0 : Int32))) : Fin64 (Jvm.FP.ddiv 4613937818241073152 (Jvm.FP.i2d r)) := own_i3 ▸ own_qf (a := 3) hr
theorem own_s1 {r1 : Int32} (h1 : ¬ (r1 = (0 : Int32))) : NoNaN64 (Jvm.FP.dadd (0 : UInt64) (Jvm.FP.ddiv (4607182418800017408 : UInt64) (Jvm.FP.i2d r1))) := dadd_out own_z0 (own_qfin1 h1)
theorem own_s2 {r1 r2 : Int32} (h1 : ¬ (r1 = (0 : Int32))) (h2 : ¬ (r2 = (0 : Int32))) : NoNaN64 (Jvm.FP.dadd (Jvm.FP.dadd (0 : UInt64) (Jvm.FP.ddiv (4607182418800017408 : UInt64) (Jvm.FP.i2d r1))) (Jvm.FP.ddiv (4611686018427387904 : UInt64) (Jvm.FP.i2d r2))) := dadd_out (own_s1 h1) (own_qfin2 h2)
theorem own_s3 {r1 r2 r3 : Int32} (h1 : ¬ (r1 = (0 : Int32))) (h2 : ¬ (r2 = (0 : Int32))) (h3 : ¬ (r3 = (0 : Int32))) : NoNaN64 (Jvm.FP.dadd (Jvm.FP.dadd (Jvm.FP.dadd (0 : UInt64) (Jvm.FP.ddiv (4607182418800017408 : UInt64) (Jvm.FP.i2d r1))) (Jvm.FP.ddiv (4611686018427387904 : UInt64) (Jvm.FP.i2d r2))) (Jvm.FP.ddiv (4613937818241073152 : UInt64) (Jvm.FP.i2d r3))) := dadd_out (own_s2 h1 h2) (own_qfin3 h3)
theorem own_ranks {p2 p3 p4 r1 r2 r3 : Int32} (h1 : r1 = ((1 : Int32) + (p2 &&& (536870911 : Int32)))) (h2 : r2 = ((r1 + (1 : Int32)) + (p3 &&& (536870911 : Int32)))) (h3 : r3 = ((r2 + (1 : Int32)) + (p4 &&& (536870911 : Int32)))) : ¬ (r1 = (0 : Int32)) ∧ ¬ (r2 = (0 : Int32)) ∧ ¬ (r3 = (0 : Int32)) := by
  have m2 := Jvm.RoadKit.c_mask p2 536870911 29 (by decide) (by decide)
  have m3 := Jvm.RoadKit.c_mask p3 536870911 29 (by decide) (by decide)
  have m4 := Jvm.RoadKit.c_mask p4 536870911 29 (by decide) (by decide)
  have o : (1 : Int32).toInt = 1 := by decide
  have z : (0 : Int32).toInt = 0 := by decide
  have a1 := Jvm.RoadKit.c_iadd 1 (p2 &&& (536870911 : Int32))
  have a2 := Jvm.RoadKit.c_iadd (r1 + 1) (p3 &&& (536870911 : Int32))
  have a3 := Jvm.RoadKit.c_iadd r1 1
  have a4 := Jvm.RoadKit.c_iadd (r2 + 1) (p4 &&& (536870911 : Int32))
  have a5 := Jvm.RoadKit.c_iadd r2 1
  rw [← h1] at a1; rw [← h2] at a2; rw [← h3] at a4
  have b1 := Jvm.RoadKit.rng32 r1; have b2 := Jvm.RoadKit.rng32 r2; have b3 := Jvm.RoadKit.rng32 r3; have b4 := Jvm.RoadKit.rng32 (r1 + 1); have b5 := Jvm.RoadKit.rng32 (r2 + 1)
  rw [o] at a1 a3 a5
  refine ⟨fun q => ?_, fun q => ?_, fun q => ?_⟩ <;> (have := congrArg Int32.toInt q; rw [z] at this; omega)
theorem own_n4 {p1 n : Int32} (h : n = (p1 &&& (3 : Int32))) : n = 0 ∨ n = 1 ∨ n = 2 ∨ n = 3 := by
  have m := Jvm.RoadKit.c_mask p1 3 2 (by decide) (by decide)
  rw [← h] at m
  have : n.toInt = 0 ∨ n.toInt = 1 ∨ n.toInt = 2 ∨ n.toInt = 3 := by omega
  rcases this with q | q | q | q
  · exact Or.inl (Int32.toInt_inj.mp (by rw [q]; decide))
  · exact Or.inr (Or.inl (Int32.toInt_inj.mp (by rw [q]; decide)))
  · exact Or.inr (Or.inr (Or.inl (Int32.toInt_inj.mp (by rw [q]; decide))))
  · exact Or.inr (Or.inr (Or.inr (Int32.toInt_inj.mp (by rw [q]; decide))))
theorem own_rel {p1 p5 n rel : Int32} (h : rel = (if (p5 &&& (2147483647 : Int32)) < n then n else (p5 &&& (2147483647 : Int32)))) (hn : n = (p1 &&& (3 : Int32))) : ¬ (n = (0 : Int32)) → ¬ (rel = (0 : Int32)) := by
  intro q r
  have m := Jvm.RoadKit.c_mask p1 3 2 (by decide) (by decide)
  have m5 := Jvm.RoadKit.c_mask p5 2147483647 31 (by decide) (by decide)
  rw [← hn] at m
  have z : (0 : Int32).toInt = 0 := by decide
  have q' : n.toInt ≠ 0 := fun u => q (Int32.toInt_inj.mp (by rw [u, z]))
  by_cases c : (p5 &&& (2147483647 : Int32)) < n
  · rw [if_pos c] at h; exact q (h ▸ r)
  · rw [if_neg c] at h
    rw [Int32.lt_iff_toInt_lt] at c
    rw [← h, r, z] at c
    omega
end OwnLaw
end Jvm.Pilot.@@N@@
namespace Jvm.Pilot.@@N@@
open Jvm Jvm.ClassFile Sem Op Lib Jvm.Free Jvm.Stand Jvm.LawKit Jvm.RoadKit Bundle Jvm.Pilot.@@N@@.Jvm.D
theorem d_jdk_29_65_0 : decode jdk_29_method_65_code 0 = .ok (.iload_n 0, 1) := by decide +kernel
theorem d_jdk_29_65_1 : decode jdk_29_method_65_code 1 = .ok (.iload_n 1, 1) := by decide +kernel
theorem d_jdk_29_65_2 : decode jdk_29_method_65_code 2 = .ok (.if_icmp .lt 7, 3) := by decide +kernel
theorem d_jdk_29_65_9 : decode jdk_29_method_65_code 9 = .ok (.iload_n 1, 1) := by decide +kernel
theorem d_jdk_29_65_10 : decode jdk_29_method_65_code 10 = .ok (.ireturn, 1) := by decide +kernel
theorem d_jdk_29_65_5 : decode jdk_29_method_65_code 5 = .ok (.iload_n 0, 1) := by decide +kernel
theorem d_jdk_29_65_6 : decode jdk_29_method_65_code 6 = .ok (.goto 4, 3) := by decide +kernel
theorem d_prog_11_9_0 : decode prog_11_method_9_code 0 = .ok (.iload_n 1, 1) := by decide +kernel
theorem d_prog_11_9_1 : decode prog_11_method_9_code 1 = .ok (.ifCond .ne 5, 3) := by decide +kernel
theorem d_prog_11_9_4 : decode prog_11_method_9_code 4 = .ok (.dconst 0, 1) := by decide +kernel
theorem d_prog_11_9_5 : decode prog_11_method_9_code 5 = .ok (.dreturn, 1) := by decide +kernel
theorem pn_0 : plainName "com/example/prose_to_query/prosetoquery/retrieval/Measure" = true := by first | (simp [plainName, overriddenIn]; done) | decide +kernel
theorem d_prog_11_9_6 : decode prog_11_method_9_code 6 = .ok (.dconst 0, 1) := by decide +kernel
theorem d_prog_11_9_7 : decode prog_11_method_9_code 7 = .ok (.dstore_n 2, 1) := by decide +kernel
theorem d_prog_11_9_8 : decode prog_11_method_9_code 8 = .ok (.iconst 1, 1) := by decide +kernel
theorem d_prog_11_9_9 : decode prog_11_method_9_code 9 = .ok (.istore 4, 2) := by decide +kernel
theorem d_prog_11_9_11 : decode prog_11_method_9_code 11 = .ok (.iload 4, 2) := by decide +kernel
theorem d_prog_11_9_13 : decode prog_11_method_9_code 13 = .ok (.aload_n 0, 1) := by decide +kernel
theorem d_prog_11_9_14 : decode prog_11_method_9_code 14 = .ok (.arraylength, 1) := by decide +kernel
theorem d_prog_11_9_15 : decode prog_11_method_9_code 15 = .ok (.if_icmp .gt 23, 3) := by decide +kernel
theorem d_prog_11_9_38 : decode prog_11_method_9_code 38 = .ok (.dload_n 2, 1) := by decide +kernel
theorem d_prog_11_9_39 : decode prog_11_method_9_code 39 = .ok (.iload_n 1, 1) := by decide +kernel
theorem d_prog_11_9_40 : decode prog_11_method_9_code 40 = .ok (.i2d, 1) := by decide +kernel
theorem d_prog_11_9_41 : decode prog_11_method_9_code 41 = .ok (.ddiv, 1) := by decide +kernel
theorem d_prog_11_9_42 : decode prog_11_method_9_code 42 = .ok (.dreturn, 1) := by decide +kernel
theorem d_prog_11_9_18 : decode prog_11_method_9_code 18 = .ok (.dload_n 2, 1) := by decide +kernel
theorem d_prog_11_9_19 : decode prog_11_method_9_code 19 = .ok (.iload 4, 2) := by decide +kernel
theorem d_prog_11_9_21 : decode prog_11_method_9_code 21 = .ok (.i2d, 1) := by decide +kernel
theorem d_prog_11_9_22 : decode prog_11_method_9_code 22 = .ok (.aload_n 0, 1) := by decide +kernel
theorem d_prog_11_9_23 : decode prog_11_method_9_code 23 = .ok (.iload 4, 2) := by decide +kernel
theorem d_prog_11_9_25 : decode prog_11_method_9_code 25 = .ok (.iconst 1, 1) := by decide +kernel
theorem d_prog_11_9_26 : decode prog_11_method_9_code 26 = .ok (.isub, 1) := by decide +kernel
theorem d_prog_11_9_27 : decode prog_11_method_9_code 27 = .ok (.iaload, 1) := by decide +kernel
theorem d_prog_11_9_28 : decode prog_11_method_9_code 28 = .ok (.i2d, 1) := by decide +kernel
theorem d_prog_11_9_29 : decode prog_11_method_9_code 29 = .ok (.ddiv, 1) := by decide +kernel
theorem d_prog_11_9_30 : decode prog_11_method_9_code 30 = .ok (.dadd, 1) := by decide +kernel
theorem d_prog_11_9_31 : decode prog_11_method_9_code 31 = .ok (.dstore_n 2, 1) := by decide +kernel
theorem d_prog_11_9_32 : decode prog_11_method_9_code 32 = .ok (.iinc 4 1, 3) := by decide +kernel
theorem d_prog_11_9_35 : decode prog_11_method_9_code 35 = .ok (.goto (-24), 3) := by decide +kernel
theorem pd_0 : parseMethodDescriptor "(II)I" = some ⟨[.int, .int], some .int⟩ := by decide +kernel
theorem pd_1 : parseMethodDescriptor "([II)D" = some ⟨[(.array .int), .int], some .double⟩ := by decide +kernel
theorem pn_1 : plainName "com/example/prose_to_query/prosetoquery/retrieval/MeasureAveragePrecisionPinLaw" = true := by first | (simp [plainName, overriddenIn]; done) | decide +kernel
theorem ef_1 (m : MethodId) (x0 : Int32) (x1 : Int32) : entryFrame m #[(.int x0), (.int x1)] 2 = mkF m 0 #[.val (.int x0), .val (.int x1)] [] := by first | (simp [entryFrame, mkF, argsToLocals, Value.category]; done) | rfl
def Q1 (Z : State) (p1 : Int32) (p2 : Int32) (h0 : Heap) (n0 : Nat) (v : Option Value) (h : Heap) (L : List Loc) : Prop := v = some (.int (if p1 < p2 then p2 else p1)) ∧ Fr n0 L ∧ h = h0
set_option maxRecDepth 65536 in
set_option maxHeartbeats 40000000 in
theorem rm1 (l : Launch) (Z : State) (a0 : Array Value) (hw : ∀ d ∈ tables_1, d.before a0 Z = true) (ws : List Jvm.Cond) (p1 : Int32) (p2 : Int32) (h0 : Heap) (n0 : Nat) (Z0 : n0 ≤ h0.size) :
    MetFree l (⟨"java/lang/Math", "max", "(II)I"⟩ : MethodName) (head1 (Jvm.Cond.code (⟨"java/lang/Math", "max", "(II)I"⟩ : MethodName) jdk_29_method_65_code 2 (some .int) :: ws) ({ frames := 0, cells := 0, slots := 0, locals := 0 } : Room)) (fun a U => a = #[(.int p1), (.int p2)] ∧ Z.Warmed39 U.vm ∧ U.heap = h0) (fun _ _ _ _ _ => True) (fun _ U o U' => ∃ v L, o = .returned v ∧ Q1 Z p1 p2 h0 n0 v U'.heap L ∧ FrameEnd U o U' L ({ frames := 0, cells := 0, slots := 0, locals := 0 } : Room).cells ({ frames := 0, cells := 0, slots := 0, locals := 0 } : Room).slots) := by
  refine MetFree.of_bodySF (Jvm.Free.JP.mathPlain rfl (by decide +kernel)) hisR ?_
  intro p e s m args below meth c s₁ Bd hml0 hP hK
  obtain ⟨rfl, hZ, hh⟩ := hP
  have hx := Bd.exec
  have hby := Bd.bytes
  have hml : c.maxLocals = 2 := hml0
  have hown : s.vm.findClass "java/lang/Math" = some m.cls := findClass_of_methodNamed Bd.named
  have hnm := (name_of_methodNamed Bd.named Bd.method).1
  have X0 : Stand p l e ({ frames := 0, cells := 0, slots := 0, locals := 0 } : Room) s m #[(.int p1), (.int p2)] below meth c s₁ [] 0 0 := Stand.of_body Bd
  have e0 : s₁.heap = h0 := by rw [← hh, Bd.state]; rfl
  have N0 := Fr.nil n0
  obtain ⟨A, hA⟩ : ∃ A, A = s₁.setTop (mkF m 0 #[.val (.int p1), .val (.int p2)] []) := ⟨_, rfl⟩
  have hA0 : ∀ t, Steps p.tables e below A t → Steps p.tables e below (s₁.setTop (entryFrame m #[(.int p1), (.int p2)] 2)) t := fun t k => castTop (ef_1 m p1 p2) (hA ▸ k)
  have k0 : ∀ t, Steps p.tables e below (s₁.setTop (mkF m 0 #[.val (.int p1), .val (.int p2)] [])) t → Steps p.tables e below A t := fun t k => hA ▸ k
  have k1 : ∀ t, Steps p.tables e below (s₁.setTop (mkF m 2 #[.val (.int p1), .val (.int p2)] [(.int p2), (.int p1)])) t → Steps p.tables e below A t := by
    intro t ht
    refine k0 t ?_
    refine own_f_iloadN X0.here hx (hb hby d_jdk_29_65_0) rfl (rfl : _ = 1) ?_
    refine own_f_iloadN X0.here hx (hb hby d_jdk_29_65_1) rfl (rfl : _ = 2) ?_
    exact ht
  by_cases hc : p1 < p2
  · obtain ⟨fs, hr, hrun, hended, hW, hsame⟩ := X0.leave (v := some (.int p2)) (fun h => by rw [Bd.returns] at h; cases h)
    refine ⟨_, _, ?_, hrun, hended, _, _, rfl, ?_, ⟨_, rfl⟩, hW, hsame.mono (by decide) (by decide)⟩
    · refine hA0 _ ?_
      refine k1 _ ?_
      refine own_f_icmpYes X0.here hx (hb hby d_jdk_29_65_2) (tlt (hc)).1 (by decide) (by decide : _ = 9) ?_
      refine own_f_iloadN X0.here hx (hb hby d_jdk_29_65_9) rfl (rfl : _ = 10) ?_
      exact retI X0 hx Bd.returns (hb hby d_jdk_29_65_10) hr
    · show Q1 Z p1 p2 h0 n0 _ s₁.heap _
      rw [e0]
      exact ⟨by rw [if_pos hc], N0, rfl⟩
  · obtain ⟨fs, hr, hrun, hended, hW, hsame⟩ := X0.leave (v := some (.int p1)) (fun h => by rw [Bd.returns] at h; cases h)
    refine ⟨_, _, ?_, hrun, hended, _, _, rfl, ?_, ⟨_, rfl⟩, hW, hsame.mono (by decide) (by decide)⟩
    · refine hA0 _ ?_
      refine k1 _ ?_
      refine own_f_icmpNo X0.here hx (hb hby d_jdk_29_65_2) (flt (hc)).1 (rfl : _ = 5) ?_
      refine own_f_iloadN X0.here hx (hb hby d_jdk_29_65_5) rfl (rfl : _ = 6) ?_
      refine own_f_goto X0.here hx (hb hby d_jdk_29_65_6) (by decide) (by decide : _ = 10) ?_
      exact retI X0 hx Bd.returns (hb hby d_jdk_29_65_10) hr
    · show Q1 Z p1 p2 h0 n0 _ s₁.heap _
      rw [e0]
      exact ⟨by rw [if_neg hc], N0, rfl⟩
theorem ef_2z (m : MethodId) (x0 : Addr) (x1 : Int32) : entryFrame m #[(.ref x0), (.int x1)] 5 = mkF m 0 #[.val (.ref x0), .val (.int x1), .unset, .unset, .unset] [] := by first | (simp [entryFrame, mkF, argsToLocals, Value.category]; done) | rfl
def Q2z (Z : State) (a1 : Addr) (p2 : Int32) (h0 : Heap) (n0 : Nat) (v : Option Value) (h : Heap) (L : List Loc) : Prop := v = some (.double (0 : UInt64)) ∧ Fr n0 L ∧ h = h0
set_option maxRecDepth 65536 in
set_option maxHeartbeats 40000000 in
theorem rm2z (l : Launch) (Z : State) (a0 : Array Value) (hw : ∀ d ∈ tables_1, d.before a0 Z = true) (ws : List Jvm.Cond) (a1 : Addr) (p2 : Int32) (h0 : Heap) (n0 : Nat) (Z0 : n0 ≤ h0.size) (hz : p2 = (0 : Int32)) :
    MetFree l (⟨"com/example/prose_to_query/prosetoquery/retrieval/Measure", "averagePrecision", "([II)D"⟩ : MethodName) (head1 (Jvm.Cond.code (⟨"com/example/prose_to_query/prosetoquery/retrieval/Measure", "averagePrecision", "([II)D"⟩ : MethodName) prog_11_method_9_code 5 (some .double) :: ws) ({ frames := 0, cells := 0, slots := 0, locals := 0 } : Room)) (fun a U => a = #[(.ref a1), (.int p2)] ∧ Z.Warmed39 U.vm ∧ U.heap = h0) (fun _ _ _ _ _ => True) (fun _ U o U' => ∃ v L, o = .returned v ∧ Q2z Z a1 p2 h0 n0 v U'.heap L ∧ FrameEnd U o U' L ({ frames := 0, cells := 0, slots := 0, locals := 0 } : Room).cells ({ frames := 0, cells := 0, slots := 0, locals := 0 } : Room).slots) := by
  refine MetFree.of_bodySF (plainFor_of_name pn_0) hisR ?_
  intro p e s m args below meth c s₁ Bd hml0 hP hK
  obtain ⟨rfl, hZ, hh⟩ := hP
  have hx := Bd.exec
  have hby := Bd.bytes
  have hml : c.maxLocals = 5 := hml0
  have hown : s.vm.findClass "com/example/prose_to_query/prosetoquery/retrieval/Measure" = some m.cls := findClass_of_methodNamed Bd.named
  have hnm := (name_of_methodNamed Bd.named Bd.method).1
  have X0 : Stand p l e ({ frames := 0, cells := 0, slots := 0, locals := 0 } : Room) s m #[(.ref a1), (.int p2)] below meth c s₁ [] 0 0 := Stand.of_body Bd
  have e0 : s₁.heap = h0 := by rw [← hh, Bd.state]; rfl
  have N0 := Fr.nil n0
  obtain ⟨A, hA⟩ : ∃ A, A = s₁.setTop (mkF m 0 #[.val (.ref a1), .val (.int p2), .unset, .unset, .unset] []) := ⟨_, rfl⟩
  have hA0 : ∀ t, Steps p.tables e below A t → Steps p.tables e below (s₁.setTop (entryFrame m #[(.ref a1), (.int p2)] 5)) t := fun t k => castTop (ef_2z m a1 p2) (hA ▸ k)
  have k0 : ∀ t, Steps p.tables e below (s₁.setTop (mkF m 0 #[.val (.ref a1), .val (.int p2), .unset, .unset, .unset] [])) t → Steps p.tables e below A t := fun t k => hA ▸ k
  obtain ⟨fs, hr, hrun, hended, hW, hsame⟩ := X0.leave (v := some (.double (0 : UInt64))) (fun h => by rw [Bd.returns] at h; cases h)
  refine ⟨_, _, ?_, hrun, hended, _, _, rfl, ?_, ⟨_, rfl⟩, hW, hsame.mono (by decide) (by decide)⟩
  · refine hA0 _ ?_
    refine k0 _ ?_
    refine own_f_iloadN X0.here hx (hb hby d_prog_11_9_0) rfl (rfl : _ = 1) ?_
    refine own_f_ifNo X0.here hx (hb hby d_prog_11_9_1) ((if0 _ _).trans (teq (hz)).2) (rfl : _ = 4) ?_
    refine own_f_dconst0 X0.here hx (hb hby d_prog_11_9_4) (rfl : _ = (0 : UInt64)) (rfl : _ = 5) ?_
    exact retD X0 hx Bd.returns (hb hby d_prog_11_9_5) hr
  · show Q2z Z a1 p2 h0 n0 _ s₁.heap _
    rw [e0]
    exact ⟨rfl, N0, rfl⟩
theorem ef_2_0 (m : MethodId) (x0 : Addr) (x1 : Int32) : entryFrame m #[(.ref x0), (.int x1)] 5 = mkF m 0 #[.val (.ref x0), .val (.int x1), .unset, .unset, .unset] [] := by first | (simp [entryFrame, mkF, argsToLocals, Value.category]; done) | rfl
def Q2_0 (Z : State) (a1 : Addr) (p2 : Int32) (kc : ClassId) (h0 : Heap) (n0 : Nat) (v : Option Value) (h : Heap) (L : List Loc) : Prop := v = some (.double (FP.ddiv (0 : UInt64) (FP.i2d p2))) ∧ Fr n0 L ∧ h = h0
set_option maxRecDepth 65536 in
set_option maxHeartbeats 40000000 in
theorem rm2_0 (l : Launch) (Z : State) (a0 : Array Value) (hw : ∀ d ∈ tables_1, d.before a0 Z = true) (ws : List Jvm.Cond) (a1 : Addr) (p2 : Int32) (kc : ClassId) (h0 : Heap) (n0 : Nat) (Z0 : n0 ≤ h0.size) (Va : Arv Z h0 a1 kc .int (0 : Int32) [] (.int (0 : Int32))) (hz : ¬ (p2 = (0 : Int32))) :
    MetFree l (⟨"com/example/prose_to_query/prosetoquery/retrieval/Measure", "averagePrecision", "([II)D"⟩ : MethodName) (head1 (Jvm.Cond.code (⟨"com/example/prose_to_query/prosetoquery/retrieval/Measure", "averagePrecision", "([II)D"⟩ : MethodName) prog_11_method_9_code 5 (some .double) :: ws) ({ frames := 0, cells := 0, slots := 0, locals := 0 } : Room)) (fun a U => a = #[(.ref a1), (.int p2)] ∧ Z.Warmed39 U.vm ∧ U.heap = h0) (fun _ _ _ _ _ => True) (fun _ U o U' => ∃ v L, o = .returned v ∧ Q2_0 Z a1 p2 kc h0 n0 v U'.heap L ∧ FrameEnd U o U' L ({ frames := 0, cells := 0, slots := 0, locals := 0 } : Room).cells ({ frames := 0, cells := 0, slots := 0, locals := 0 } : Room).slots) := by
  refine MetFree.of_bodySF (plainFor_of_name pn_0) hisR ?_
  intro p e s m args below meth c s₁ Bd hml0 hP hK
  obtain ⟨rfl, hZ, hh⟩ := hP
  have hx := Bd.exec
  have hby := Bd.bytes
  have hml : c.maxLocals = 5 := hml0
  have hown : s.vm.findClass "com/example/prose_to_query/prosetoquery/retrieval/Measure" = some m.cls := findClass_of_methodNamed Bd.named
  have hnm := (name_of_methodNamed Bd.named Bd.method).1
  have X0 : Stand p l e ({ frames := 0, cells := 0, slots := 0, locals := 0 } : Room) s m #[(.ref a1), (.int p2)] below meth c s₁ [] 0 0 := Stand.of_body Bd
  have e0 : s₁.heap = h0 := by rw [← hh, Bd.state]; rfl
  have N0 := Fr.nil n0
  obtain ⟨A, hA⟩ : ∃ A, A = s₁.setTop (mkF m 0 #[.val (.ref a1), .val (.int p2), .unset, .unset, .unset] []) := ⟨_, rfl⟩
  have hA0 : ∀ t, Steps p.tables e below A t → Steps p.tables e below (s₁.setTop (entryFrame m #[(.ref a1), (.int p2)] 5)) t := fun t k => castTop (ef_2_0 m a1 p2) (hA ▸ k)
  have k0 : ∀ t, Steps p.tables e below (s₁.setTop (mkF m 0 #[.val (.ref a1), .val (.int p2), .unset, .unset, .unset] [])) t → Steps p.tables e below A t := fun t k => hA ▸ k
  obtain ⟨cl1, Ar1, -, Sz1, Ng1, -, -⟩ := id Va
  obtain ⟨fs, hr, hrun, hended, hW, hsame⟩ := X0.leave (v := some (.double (FP.ddiv (0 : UInt64) (FP.i2d p2)))) (fun h => by rw [Bd.returns] at h; cases h)
  refine ⟨_, _, ?_, hrun, hended, _, _, rfl, ?_, ⟨_, rfl⟩, hW, hsame.mono (by decide) (by decide)⟩
  · refine hA0 _ ?_
    refine k0 _ ?_
    refine own_f_iloadN X0.here hx (hb hby d_prog_11_9_0) rfl (rfl : _ = 1) ?_
    refine own_f_ifYes X0.here hx (hb hby d_prog_11_9_1) ((if0 _ _).trans (feq (hz)).2) (by decide) (by decide : _ = 6) ?_
    refine own_f_dconst0 X0.here hx (hb hby d_prog_11_9_6) (rfl : _ = (0 : UInt64)) (rfl : _ = 7) ?_
    refine own_f_dstoreN X0.here hx (hb hby d_prog_11_9_7) (rfl : storeLocals _ _ _ = some #[.val (.ref a1), .val (.int p2), .val (.double (0 : UInt64)), .second, .unset]) (rfl : _ = 8) ?_
    refine own_f_iconst X0.here hx (hb hby d_prog_11_9_8) (rfl : _ = (1 : Int32)) (rfl : _ = 9) ?_
    refine own_f_istore X0.here hx (hb hby d_prog_11_9_9) (rfl : storeLocals _ _ _ = some #[.val (.ref a1), .val (.int p2), .val (.double (0 : UInt64)), .second, .val (.int (1 : Int32))]) (rfl : _ = 11) ?_
    refine own_f_iload X0.here hx (hb hby d_prog_11_9_11) rfl (rfl : _ = 13) ?_
    refine own_f_aloadN X0.here hx (hb hby d_prog_11_9_13) rfl rfl (rfl : _ = 14) ?_
    refine X0.arraylength hx (by rw [e0]; exact Ar1.1) (State.isArrayOf_alike hZ.alike Ar1.2.1) (g := (mkF m 14 #[.val (.ref a1), .val (.int p2), .val (.double (0 : UInt64)), .second, .val (.int (1 : Int32))] [(.ref a1), (.int (1 : Int32))])) rfl rfl (hb hby d_prog_11_9_14) _ ?_
    rw [len_of Sz1 Ng1]
    show Steps p.tables e below (s₁.setTop (mkF m 15 #[.val (.ref a1), .val (.int p2), .val (.double (0 : UInt64)), .second, .val (.int (1 : Int32))] [(.int (0 : Int32)), (.int (1 : Int32))])) _
    refine own_f_icmpYes X0.here hx (hb hby d_prog_11_9_15) (tlt (by decide)).2.2.1 (by decide) (by decide : _ = 38) ?_
    refine own_f_dloadN X0.here hx (hb hby d_prog_11_9_38) rfl (rfl : _ = 39) ?_
    refine own_f_iloadN X0.here hx (hb hby d_prog_11_9_39) rfl (rfl : _ = 40) ?_
    refine own_f_i2d X0.here hx (hb hby d_prog_11_9_40) rfl (rfl : _ = 41) ?_
    refine own_f_ddiv X0.here hx (hb hby d_prog_11_9_41) (own_dnn own_z0 hz) rfl (rfl : _ = 42) ?_
    exact retD X0 hx Bd.returns (hb hby d_prog_11_9_42) hr
  · show Q2_0 Z a1 p2 kc h0 n0 _ s₁.heap _
    rw [e0]
    exact ⟨rfl, N0, rfl⟩
theorem ef_2_1 (m : MethodId) (x0 : Addr) (x1 : Int32) : entryFrame m #[(.ref x0), (.int x1)] 5 = mkF m 0 #[.val (.ref x0), .val (.int x1), .unset, .unset, .unset] [] := by first | (simp [entryFrame, mkF, argsToLocals, Value.category]; done) | rfl
def Q2_1 (Z : State) (a1 : Addr) (p2 : Int32) (kc : ClassId) (r1 : Int32) (h0 : Heap) (n0 : Nat) (v : Option Value) (h : Heap) (L : List Loc) : Prop := v = some (.double (FP.ddiv (FP.dadd (0 : UInt64) (FP.ddiv (4607182418800017408 : UInt64) (FP.i2d r1))) (FP.i2d p2))) ∧ Fr n0 L ∧ h = h0
set_option maxRecDepth 65536 in
set_option maxHeartbeats 40000000 in
theorem rm2_1 (l : Launch) (Z : State) (a0 : Array Value) (hw : ∀ d ∈ tables_1, d.before a0 Z = true) (ws : List Jvm.Cond) (a1 : Addr) (p2 : Int32) (kc : ClassId) (r1 : Int32) (h0 : Heap) (n0 : Nat) (Z0 : n0 ≤ h0.size) (Va : Arv Z h0 a1 kc .int (1 : Int32) [(.int r1)] (.int (0 : Int32))) (hz : ¬ (p2 = (0 : Int32))) (hr1 : ¬ (r1 = (0 : Int32))) (hs1 : Jvm.Free.Fl.NoNaN64 (FP.dadd (0 : UInt64) (FP.ddiv (4607182418800017408 : UInt64) (FP.i2d r1)))) :
    MetFree l (⟨"com/example/prose_to_query/prosetoquery/retrieval/Measure", "averagePrecision", "([II)D"⟩ : MethodName) (head1 (Jvm.Cond.code (⟨"com/example/prose_to_query/prosetoquery/retrieval/Measure", "averagePrecision", "([II)D"⟩ : MethodName) prog_11_method_9_code 5 (some .double) :: ws) ({ frames := 0, cells := 0, slots := 0, locals := 0 } : Room)) (fun a U => a = #[(.ref a1), (.int p2)] ∧ Z.Warmed39 U.vm ∧ U.heap = h0) (fun _ _ _ _ _ => True) (fun _ U o U' => ∃ v L, o = .returned v ∧ Q2_1 Z a1 p2 kc r1 h0 n0 v U'.heap L ∧ FrameEnd U o U' L ({ frames := 0, cells := 0, slots := 0, locals := 0 } : Room).cells ({ frames := 0, cells := 0, slots := 0, locals := 0 } : Room).slots) := by
  refine MetFree.of_bodySF (plainFor_of_name pn_0) hisR ?_
  intro p e s m args below meth c s₁ Bd hml0 hP hK
  obtain ⟨rfl, hZ, hh⟩ := hP
  have hx := Bd.exec
  have hby := Bd.bytes
  have hml : c.maxLocals = 5 := hml0
  have hown : s.vm.findClass "com/example/prose_to_query/prosetoquery/retrieval/Measure" = some m.cls := findClass_of_methodNamed Bd.named
  have hnm := (name_of_methodNamed Bd.named Bd.method).1
  have X0 : Stand p l e ({ frames := 0, cells := 0, slots := 0, locals := 0 } : Room) s m #[(.ref a1), (.int p2)] below meth c s₁ [] 0 0 := Stand.of_body Bd
  have e0 : s₁.heap = h0 := by rw [← hh, Bd.state]; rfl
  have N0 := Fr.nil n0
  obtain ⟨A, hA⟩ : ∃ A, A = s₁.setTop (mkF m 0 #[.val (.ref a1), .val (.int p2), .unset, .unset, .unset] []) := ⟨_, rfl⟩
  have hA0 : ∀ t, Steps p.tables e below A t → Steps p.tables e below (s₁.setTop (entryFrame m #[(.ref a1), (.int p2)] 5)) t := fun t k => castTop (ef_2_1 m a1 p2) (hA ▸ k)
  have k0 : ∀ t, Steps p.tables e below (s₁.setTop (mkF m 0 #[.val (.ref a1), .val (.int p2), .unset, .unset, .unset] [])) t → Steps p.tables e below A t := fun t k => hA ▸ k
  obtain ⟨cl1, Ar1, -, Sz1, Ng1, -, -⟩ := id Va
  obtain ⟨cl2, Ar2, -, Sz2, Ng2, Hs2, -⟩ := id Va
  have hin2 : ¬ ((0 : Int32) < 0 ∨ cl2.slots.size ≤ ((0 : Int32)).toNatClampNeg) := inb_of Sz2 ⟨by decide, by decide⟩
  have hat2 : cl2.slots[((0 : Int32)).toNatClampNeg]? = some (.int r1) := Hs2 _ (Nat.lt_of_not_le fun q => hin2 (Or.inr q))
  obtain ⟨cl3, Ar3, -, Sz3, Ng3, -, -⟩ := id Va
  obtain ⟨fs, hr, hrun, hended, hW, hsame⟩ := X0.leave (v := some (.double (FP.ddiv (FP.dadd (0 : UInt64) (FP.ddiv (4607182418800017408 : UInt64) (FP.i2d r1))) (FP.i2d p2)))) (fun h => by rw [Bd.returns] at h; cases h)
  refine ⟨_, _, ?_, hrun, hended, _, _, rfl, ?_, ⟨_, rfl⟩, hW, hsame.mono (by decide) (by decide)⟩
  · refine hA0 _ ?_
    refine k0 _ ?_
    refine own_f_iloadN X0.here hx (hb hby d_prog_11_9_0) rfl (rfl : _ = 1) ?_
    refine own_f_ifYes X0.here hx (hb hby d_prog_11_9_1) ((if0 _ _).trans (feq (hz)).2) (by decide) (by decide : _ = 6) ?_
    refine own_f_dconst0 X0.here hx (hb hby d_prog_11_9_6) (rfl : _ = (0 : UInt64)) (rfl : _ = 7) ?_
    refine own_f_dstoreN X0.here hx (hb hby d_prog_11_9_7) (rfl : storeLocals _ _ _ = some #[.val (.ref a1), .val (.int p2), .val (.double (0 : UInt64)), .second, .unset]) (rfl : _ = 8) ?_
    refine own_f_iconst X0.here hx (hb hby d_prog_11_9_8) (rfl : _ = (1 : Int32)) (rfl : _ = 9) ?_
    refine own_f_istore X0.here hx (hb hby d_prog_11_9_9) (rfl : storeLocals _ _ _ = some #[.val (.ref a1), .val (.int p2), .val (.double (0 : UInt64)), .second, .val (.int (1 : Int32))]) (rfl : _ = 11) ?_
    refine own_f_iload X0.here hx (hb hby d_prog_11_9_11) rfl (rfl : _ = 13) ?_
    refine own_f_aloadN X0.here hx (hb hby d_prog_11_9_13) rfl rfl (rfl : _ = 14) ?_
    refine X0.arraylength hx (by rw [e0]; exact Ar1.1) (State.isArrayOf_alike hZ.alike Ar1.2.1) (g := (mkF m 14 #[.val (.ref a1), .val (.int p2), .val (.double (0 : UInt64)), .second, .val (.int (1 : Int32))] [(.ref a1), (.int (1 : Int32))])) rfl rfl (hb hby d_prog_11_9_14) _ ?_
    rw [len_of Sz1 Ng1]
    show Steps p.tables e below (s₁.setTop (mkF m 15 #[.val (.ref a1), .val (.int p2), .val (.double (0 : UInt64)), .second, .val (.int (1 : Int32))] [(.int (1 : Int32)), (.int (1 : Int32))])) _
    refine own_f_icmpNo X0.here hx (hb hby d_prog_11_9_15) (flt (by decide)).2.2.1 (rfl : _ = 18) ?_
    refine own_f_dloadN X0.here hx (hb hby d_prog_11_9_18) rfl (rfl : _ = 19) ?_
    refine own_f_iload X0.here hx (hb hby d_prog_11_9_19) rfl (rfl : _ = 21) ?_
    refine own_f_i2d X0.here hx (hb hby d_prog_11_9_21) (own_i1 : _ = (4607182418800017408 : UInt64)) (rfl : _ = 22) ?_
    refine own_f_aloadN X0.here hx (hb hby d_prog_11_9_22) rfl rfl (rfl : _ = 23) ?_
    refine own_f_iload X0.here hx (hb hby d_prog_11_9_23) rfl (rfl : _ = 25) ?_
    refine own_f_iconst X0.here hx (hb hby d_prog_11_9_25) (rfl : _ = (1 : Int32)) (rfl : _ = 26) ?_
    refine own_f_isub X0.here hx (hb hby d_prog_11_9_26) (rfl : _ = (0 : Int32)) (rfl : _ = 27) ?_
    refine X0.iaload hx (j := (0 : Int32)) (v := (.int r1)) (by rw [e0]; exact Ar2.1) (State.isArrayOf_alike hZ.alike Ar2.2.1) Ar2.2.2 hin2 hat2 (g := (mkF m 27 #[.val (.ref a1), .val (.int p2), .val (.double (0 : UInt64)), .second, .val (.int (1 : Int32))] [(.int (0 : Int32)), (.ref a1), (.double (4607182418800017408 : UInt64)), (.double (0 : UInt64))])) rfl rfl (hb hby d_prog_11_9_27) _ ?_
    show Steps p.tables e below (s₁.setTop (mkF m 28 #[.val (.ref a1), .val (.int p2), .val (.double (0 : UInt64)), .second, .val (.int (1 : Int32))] [(.int r1), (.double (4607182418800017408 : UInt64)), (.double (0 : UInt64))])) _
    refine own_f_i2d X0.here hx (hb hby d_prog_11_9_28) rfl (rfl : _ = 29) ?_
    refine own_f_ddiv X0.here hx (hb hby d_prog_11_9_29) (own_qnn (own_cfin1) hr1) rfl (rfl : _ = 30) ?_
    refine own_f_dadd X0.here hx (hb hby d_prog_11_9_30) (hs1) rfl (rfl : _ = 31) ?_
    refine own_f_dstoreN X0.here hx (hb hby d_prog_11_9_31) (rfl : storeLocals _ _ _ = some #[.val (.ref a1), .val (.int p2), .val (.double (FP.dadd (0 : UInt64) (FP.ddiv (4607182418800017408 : UInt64) (FP.i2d r1)))), .second, .val (.int (1 : Int32))]) (rfl : _ = 32) ?_
    refine own_f_iinc X0.here hx (hb hby d_prog_11_9_32) rfl (rfl : storeLocals _ _ _ = some #[.val (.ref a1), .val (.int p2), .val (.double (FP.dadd (0 : UInt64) (FP.ddiv (4607182418800017408 : UInt64) (FP.i2d r1)))), .second, .val (.int (2 : Int32))]) (rfl : _ = 35) ?_
    refine own_f_goto X0.here hx (hb hby d_prog_11_9_35) (by decide) (by decide : _ = 11) ?_
    refine own_f_iload X0.here hx (hb hby d_prog_11_9_11) rfl (rfl : _ = 13) ?_
    refine own_f_aloadN X0.here hx (hb hby d_prog_11_9_13) rfl rfl (rfl : _ = 14) ?_
    refine X0.arraylength hx (by rw [e0]; exact Ar3.1) (State.isArrayOf_alike hZ.alike Ar3.2.1) (g := (mkF m 14 #[.val (.ref a1), .val (.int p2), .val (.double (FP.dadd (0 : UInt64) (FP.ddiv (4607182418800017408 : UInt64) (FP.i2d r1)))), .second, .val (.int (2 : Int32))] [(.ref a1), (.int (2 : Int32))])) rfl rfl (hb hby d_prog_11_9_14) _ ?_
    rw [len_of Sz3 Ng3]
    show Steps p.tables e below (s₁.setTop (mkF m 15 #[.val (.ref a1), .val (.int p2), .val (.double (FP.dadd (0 : UInt64) (FP.ddiv (4607182418800017408 : UInt64) (FP.i2d r1)))), .second, .val (.int (2 : Int32))] [(.int (1 : Int32)), (.int (2 : Int32))])) _
    refine own_f_icmpYes X0.here hx (hb hby d_prog_11_9_15) (tlt (by decide)).2.2.1 (by decide) (by decide : _ = 38) ?_
    refine own_f_dloadN X0.here hx (hb hby d_prog_11_9_38) rfl (rfl : _ = 39) ?_
    refine own_f_iloadN X0.here hx (hb hby d_prog_11_9_39) rfl (rfl : _ = 40) ?_
    refine own_f_i2d X0.here hx (hb hby d_prog_11_9_40) rfl (rfl : _ = 41) ?_
    refine own_f_ddiv X0.here hx (hb hby d_prog_11_9_41) (own_dnn hs1 hz) rfl (rfl : _ = 42) ?_
    exact retD X0 hx Bd.returns (hb hby d_prog_11_9_42) hr
  · show Q2_1 Z a1 p2 kc r1 h0 n0 _ s₁.heap _
    rw [e0]
    exact ⟨rfl, N0, rfl⟩
theorem ef_2_2 (m : MethodId) (x0 : Addr) (x1 : Int32) : entryFrame m #[(.ref x0), (.int x1)] 5 = mkF m 0 #[.val (.ref x0), .val (.int x1), .unset, .unset, .unset] [] := by first | (simp [entryFrame, mkF, argsToLocals, Value.category]; done) | rfl
def Q2_2 (Z : State) (a1 : Addr) (p2 : Int32) (kc : ClassId) (r1 : Int32) (r2 : Int32) (h0 : Heap) (n0 : Nat) (v : Option Value) (h : Heap) (L : List Loc) : Prop := v = some (.double (FP.ddiv (FP.dadd (FP.dadd (0 : UInt64) (FP.ddiv (4607182418800017408 : UInt64) (FP.i2d r1))) (FP.ddiv (4611686018427387904 : UInt64) (FP.i2d r2))) (FP.i2d p2))) ∧ Fr n0 L ∧ h = h0
set_option maxRecDepth 65536 in
set_option maxHeartbeats 40000000 in
theorem rm2_2 (l : Launch) (Z : State) (a0 : Array Value) (hw : ∀ d ∈ tables_1, d.before a0 Z = true) (ws : List Jvm.Cond) (a1 : Addr) (p2 : Int32) (kc : ClassId) (r1 : Int32) (r2 : Int32) (h0 : Heap) (n0 : Nat) (Z0 : n0 ≤ h0.size) (Va : Arv Z h0 a1 kc .int (2 : Int32) [(.int r1), (.int r2)] (.int (0 : Int32))) (hz : ¬ (p2 = (0 : Int32))) (hr1 : ¬ (r1 = (0 : Int32))) (hr2 : ¬ (r2 = (0 : Int32))) (hs1 : Jvm.Free.Fl.NoNaN64 (FP.dadd (0 : UInt64) (FP.ddiv (4607182418800017408 : UInt64) (FP.i2d r1)))) (hs2 : Jvm.Free.Fl.NoNaN64 (FP.dadd (FP.dadd (0 : UInt64) (FP.ddiv (4607182418800017408 : UInt64) (FP.i2d r1))) (FP.ddiv (4611686018427387904 : UInt64) (FP.i2d r2)))) :
    MetFree l (⟨"com/example/prose_to_query/prosetoquery/retrieval/Measure", "averagePrecision", "([II)D"⟩ : MethodName) (head1 (Jvm.Cond.code (⟨"com/example/prose_to_query/prosetoquery/retrieval/Measure", "averagePrecision", "([II)D"⟩ : MethodName) prog_11_method_9_code 5 (some .double) :: ws) ({ frames := 0, cells := 0, slots := 0, locals := 0 } : Room)) (fun a U => a = #[(.ref a1), (.int p2)] ∧ Z.Warmed39 U.vm ∧ U.heap = h0) (fun _ _ _ _ _ => True) (fun _ U o U' => ∃ v L, o = .returned v ∧ Q2_2 Z a1 p2 kc r1 r2 h0 n0 v U'.heap L ∧ FrameEnd U o U' L ({ frames := 0, cells := 0, slots := 0, locals := 0 } : Room).cells ({ frames := 0, cells := 0, slots := 0, locals := 0 } : Room).slots) := by
  refine MetFree.of_bodySF (plainFor_of_name pn_0) hisR ?_
  intro p e s m args below meth c s₁ Bd hml0 hP hK
  obtain ⟨rfl, hZ, hh⟩ := hP
  have hx := Bd.exec
  have hby := Bd.bytes
  have hml : c.maxLocals = 5 := hml0
  have hown : s.vm.findClass "com/example/prose_to_query/prosetoquery/retrieval/Measure" = some m.cls := findClass_of_methodNamed Bd.named
  have hnm := (name_of_methodNamed Bd.named Bd.method).1
  have X0 : Stand p l e ({ frames := 0, cells := 0, slots := 0, locals := 0 } : Room) s m #[(.ref a1), (.int p2)] below meth c s₁ [] 0 0 := Stand.of_body Bd
  have e0 : s₁.heap = h0 := by rw [← hh, Bd.state]; rfl
  have N0 := Fr.nil n0
  obtain ⟨A, hA⟩ : ∃ A, A = s₁.setTop (mkF m 0 #[.val (.ref a1), .val (.int p2), .unset, .unset, .unset] []) := ⟨_, rfl⟩
  have hA0 : ∀ t, Steps p.tables e below A t → Steps p.tables e below (s₁.setTop (entryFrame m #[(.ref a1), (.int p2)] 5)) t := fun t k => castTop (ef_2_2 m a1 p2) (hA ▸ k)
  have k0 : ∀ t, Steps p.tables e below (s₁.setTop (mkF m 0 #[.val (.ref a1), .val (.int p2), .unset, .unset, .unset] [])) t → Steps p.tables e below A t := fun t k => hA ▸ k
  obtain ⟨cl1, Ar1, -, Sz1, Ng1, -, -⟩ := id Va
  obtain ⟨cl2, Ar2, -, Sz2, Ng2, Hs2, -⟩ := id Va
  have hin2 : ¬ ((0 : Int32) < 0 ∨ cl2.slots.size ≤ ((0 : Int32)).toNatClampNeg) := inb_of Sz2 ⟨by decide, by decide⟩
  have hat2 : cl2.slots[((0 : Int32)).toNatClampNeg]? = some (.int r1) := Hs2 _ (Nat.lt_of_not_le fun q => hin2 (Or.inr q))
  obtain ⟨cl3, Ar3, -, Sz3, Ng3, -, -⟩ := id Va
  obtain ⟨cl4, Ar4, -, Sz4, Ng4, Hs4, -⟩ := id Va
  have hin4 : ¬ ((1 : Int32) < 0 ∨ cl4.slots.size ≤ ((1 : Int32)).toNatClampNeg) := inb_of Sz4 ⟨by decide, by decide⟩
  have hat4 : cl4.slots[((1 : Int32)).toNatClampNeg]? = some (.int r2) := Hs4 _ (Nat.lt_of_not_le fun q => hin4 (Or.inr q))
  obtain ⟨cl5, Ar5, -, Sz5, Ng5, -, -⟩ := id Va
  obtain ⟨fs, hr, hrun, hended, hW, hsame⟩ := X0.leave (v := some (.double (FP.ddiv (FP.dadd (FP.dadd (0 : UInt64) (FP.ddiv (4607182418800017408 : UInt64) (FP.i2d r1))) (FP.ddiv (4611686018427387904 : UInt64) (FP.i2d r2))) (FP.i2d p2)))) (fun h => by rw [Bd.returns] at h; cases h)
  refine ⟨_, _, ?_, hrun, hended, _, _, rfl, ?_, ⟨_, rfl⟩, hW, hsame.mono (by decide) (by decide)⟩
  · refine hA0 _ ?_
    refine k0 _ ?_
    refine own_f_iloadN X0.here hx (hb hby d_prog_11_9_0) rfl (rfl : _ = 1) ?_
    refine own_f_ifYes X0.here hx (hb hby d_prog_11_9_1) ((if0 _ _).trans (feq (hz)).2) (by decide) (by decide : _ = 6) ?_
    refine own_f_dconst0 X0.here hx (hb hby d_prog_11_9_6) (rfl : _ = (0 : UInt64)) (rfl : _ = 7) ?_
    refine own_f_dstoreN X0.here hx (hb hby d_prog_11_9_7) (rfl : storeLocals _ _ _ = some #[.val (.ref a1), .val (.int p2), .val (.double (0 : UInt64)), .second, .unset]) (rfl : _ = 8) ?_
    refine own_f_iconst X0.here hx (hb hby d_prog_11_9_8) (rfl : _ = (1 : Int32)) (rfl : _ = 9) ?_
    refine own_f_istore X0.here hx (hb hby d_prog_11_9_9) (rfl : storeLocals _ _ _ = some #[.val (.ref a1), .val (.int p2), .val (.double (0 : UInt64)), .second, .val (.int (1 : Int32))]) (rfl : _ = 11) ?_
    refine own_f_iload X0.here hx (hb hby d_prog_11_9_11) rfl (rfl : _ = 13) ?_
    refine own_f_aloadN X0.here hx (hb hby d_prog_11_9_13) rfl rfl (rfl : _ = 14) ?_
    refine X0.arraylength hx (by rw [e0]; exact Ar1.1) (State.isArrayOf_alike hZ.alike Ar1.2.1) (g := (mkF m 14 #[.val (.ref a1), .val (.int p2), .val (.double (0 : UInt64)), .second, .val (.int (1 : Int32))] [(.ref a1), (.int (1 : Int32))])) rfl rfl (hb hby d_prog_11_9_14) _ ?_
    rw [len_of Sz1 Ng1]
    show Steps p.tables e below (s₁.setTop (mkF m 15 #[.val (.ref a1), .val (.int p2), .val (.double (0 : UInt64)), .second, .val (.int (1 : Int32))] [(.int (2 : Int32)), (.int (1 : Int32))])) _
    refine own_f_icmpNo X0.here hx (hb hby d_prog_11_9_15) (flt (by decide)).2.2.1 (rfl : _ = 18) ?_
    refine own_f_dloadN X0.here hx (hb hby d_prog_11_9_18) rfl (rfl : _ = 19) ?_
    refine own_f_iload X0.here hx (hb hby d_prog_11_9_19) rfl (rfl : _ = 21) ?_
    refine own_f_i2d X0.here hx (hb hby d_prog_11_9_21) (own_i1 : _ = (4607182418800017408 : UInt64)) (rfl : _ = 22) ?_
    refine own_f_aloadN X0.here hx (hb hby d_prog_11_9_22) rfl rfl (rfl : _ = 23) ?_
    refine own_f_iload X0.here hx (hb hby d_prog_11_9_23) rfl (rfl : _ = 25) ?_
    refine own_f_iconst X0.here hx (hb hby d_prog_11_9_25) (rfl : _ = (1 : Int32)) (rfl : _ = 26) ?_
    refine own_f_isub X0.here hx (hb hby d_prog_11_9_26) (rfl : _ = (0 : Int32)) (rfl : _ = 27) ?_
    refine X0.iaload hx (j := (0 : Int32)) (v := (.int r1)) (by rw [e0]; exact Ar2.1) (State.isArrayOf_alike hZ.alike Ar2.2.1) Ar2.2.2 hin2 hat2 (g := (mkF m 27 #[.val (.ref a1), .val (.int p2), .val (.double (0 : UInt64)), .second, .val (.int (1 : Int32))] [(.int (0 : Int32)), (.ref a1), (.double (4607182418800017408 : UInt64)), (.double (0 : UInt64))])) rfl rfl (hb hby d_prog_11_9_27) _ ?_
    show Steps p.tables e below (s₁.setTop (mkF m 28 #[.val (.ref a1), .val (.int p2), .val (.double (0 : UInt64)), .second, .val (.int (1 : Int32))] [(.int r1), (.double (4607182418800017408 : UInt64)), (.double (0 : UInt64))])) _
    refine own_f_i2d X0.here hx (hb hby d_prog_11_9_28) rfl (rfl : _ = 29) ?_
    refine own_f_ddiv X0.here hx (hb hby d_prog_11_9_29) (own_qnn (own_cfin1) hr1) rfl (rfl : _ = 30) ?_
    refine own_f_dadd X0.here hx (hb hby d_prog_11_9_30) (hs1) rfl (rfl : _ = 31) ?_
    refine own_f_dstoreN X0.here hx (hb hby d_prog_11_9_31) (rfl : storeLocals _ _ _ = some #[.val (.ref a1), .val (.int p2), .val (.double (FP.dadd (0 : UInt64) (FP.ddiv (4607182418800017408 : UInt64) (FP.i2d r1)))), .second, .val (.int (1 : Int32))]) (rfl : _ = 32) ?_
    refine own_f_iinc X0.here hx (hb hby d_prog_11_9_32) rfl (rfl : storeLocals _ _ _ = some #[.val (.ref a1), .val (.int p2), .val (.double (FP.dadd (0 : UInt64) (FP.ddiv (4607182418800017408 : UInt64) (FP.i2d r1)))), .second, .val (.int (2 : Int32))]) (rfl : _ = 35) ?_
    refine own_f_goto X0.here hx (hb hby d_prog_11_9_35) (by decide) (by decide : _ = 11) ?_
    refine own_f_iload X0.here hx (hb hby d_prog_11_9_11) rfl (rfl : _ = 13) ?_
    refine own_f_aloadN X0.here hx (hb hby d_prog_11_9_13) rfl rfl (rfl : _ = 14) ?_
    refine X0.arraylength hx (by rw [e0]; exact Ar3.1) (State.isArrayOf_alike hZ.alike Ar3.2.1) (g := (mkF m 14 #[.val (.ref a1), .val (.int p2), .val (.double (FP.dadd (0 : UInt64) (FP.ddiv (4607182418800017408 : UInt64) (FP.i2d r1)))), .second, .val (.int (2 : Int32))] [(.ref a1), (.int (2 : Int32))])) rfl rfl (hb hby d_prog_11_9_14) _ ?_
    rw [len_of Sz3 Ng3]
    show Steps p.tables e below (s₁.setTop (mkF m 15 #[.val (.ref a1), .val (.int p2), .val (.double (FP.dadd (0 : UInt64) (FP.ddiv (4607182418800017408 : UInt64) (FP.i2d r1)))), .second, .val (.int (2 : Int32))] [(.int (2 : Int32)), (.int (2 : Int32))])) _
    refine own_f_icmpNo X0.here hx (hb hby d_prog_11_9_15) (flt (by decide)).2.2.1 (rfl : _ = 18) ?_
    refine own_f_dloadN X0.here hx (hb hby d_prog_11_9_18) rfl (rfl : _ = 19) ?_
    refine own_f_iload X0.here hx (hb hby d_prog_11_9_19) rfl (rfl : _ = 21) ?_
    refine own_f_i2d X0.here hx (hb hby d_prog_11_9_21) (own_i2 : _ = (4611686018427387904 : UInt64)) (rfl : _ = 22) ?_
    refine own_f_aloadN X0.here hx (hb hby d_prog_11_9_22) rfl rfl (rfl : _ = 23) ?_
    refine own_f_iload X0.here hx (hb hby d_prog_11_9_23) rfl (rfl : _ = 25) ?_
    refine own_f_iconst X0.here hx (hb hby d_prog_11_9_25) (rfl : _ = (1 : Int32)) (rfl : _ = 26) ?_
    refine own_f_isub X0.here hx (hb hby d_prog_11_9_26) (rfl : _ = (1 : Int32)) (rfl : _ = 27) ?_
    refine X0.iaload hx (j := (1 : Int32)) (v := (.int r2)) (by rw [e0]; exact Ar4.1) (State.isArrayOf_alike hZ.alike Ar4.2.1) Ar4.2.2 hin4 hat4 (g := (mkF m 27 #[.val (.ref a1), .val (.int p2), .val (.double (FP.dadd (0 : UInt64) (FP.ddiv (4607182418800017408 : UInt64) (FP.i2d r1)))), .second, .val (.int (2 : Int32))] [(.int (1 : Int32)), (.ref a1), (.double (4611686018427387904 : UInt64)), (.double (FP.dadd (0 : UInt64) (FP.ddiv (4607182418800017408 : UInt64) (FP.i2d r1))))])) rfl rfl (hb hby d_prog_11_9_27) _ ?_
    show Steps p.tables e below (s₁.setTop (mkF m 28 #[.val (.ref a1), .val (.int p2), .val (.double (FP.dadd (0 : UInt64) (FP.ddiv (4607182418800017408 : UInt64) (FP.i2d r1)))), .second, .val (.int (2 : Int32))] [(.int r2), (.double (4611686018427387904 : UInt64)), (.double (FP.dadd (0 : UInt64) (FP.ddiv (4607182418800017408 : UInt64) (FP.i2d r1))))])) _
    refine own_f_i2d X0.here hx (hb hby d_prog_11_9_28) rfl (rfl : _ = 29) ?_
    refine own_f_ddiv X0.here hx (hb hby d_prog_11_9_29) (own_qnn (own_cfin2) hr2) rfl (rfl : _ = 30) ?_
    refine own_f_dadd X0.here hx (hb hby d_prog_11_9_30) (hs2) rfl (rfl : _ = 31) ?_
    refine own_f_dstoreN X0.here hx (hb hby d_prog_11_9_31) (rfl : storeLocals _ _ _ = some #[.val (.ref a1), .val (.int p2), .val (.double (FP.dadd (FP.dadd (0 : UInt64) (FP.ddiv (4607182418800017408 : UInt64) (FP.i2d r1))) (FP.ddiv (4611686018427387904 : UInt64) (FP.i2d r2)))), .second, .val (.int (2 : Int32))]) (rfl : _ = 32) ?_
    refine own_f_iinc X0.here hx (hb hby d_prog_11_9_32) rfl (rfl : storeLocals _ _ _ = some #[.val (.ref a1), .val (.int p2), .val (.double (FP.dadd (FP.dadd (0 : UInt64) (FP.ddiv (4607182418800017408 : UInt64) (FP.i2d r1))) (FP.ddiv (4611686018427387904 : UInt64) (FP.i2d r2)))), .second, .val (.int (3 : Int32))]) (rfl : _ = 35) ?_
    refine own_f_goto X0.here hx (hb hby d_prog_11_9_35) (by decide) (by decide : _ = 11) ?_
    refine own_f_iload X0.here hx (hb hby d_prog_11_9_11) rfl (rfl : _ = 13) ?_
    refine own_f_aloadN X0.here hx (hb hby d_prog_11_9_13) rfl rfl (rfl : _ = 14) ?_
    refine X0.arraylength hx (by rw [e0]; exact Ar5.1) (State.isArrayOf_alike hZ.alike Ar5.2.1) (g := (mkF m 14 #[.val (.ref a1), .val (.int p2), .val (.double (FP.dadd (FP.dadd (0 : UInt64) (FP.ddiv (4607182418800017408 : UInt64) (FP.i2d r1))) (FP.ddiv (4611686018427387904 : UInt64) (FP.i2d r2)))), .second, .val (.int (3 : Int32))] [(.ref a1), (.int (3 : Int32))])) rfl rfl (hb hby d_prog_11_9_14) _ ?_
    rw [len_of Sz5 Ng5]
    show Steps p.tables e below (s₁.setTop (mkF m 15 #[.val (.ref a1), .val (.int p2), .val (.double (FP.dadd (FP.dadd (0 : UInt64) (FP.ddiv (4607182418800017408 : UInt64) (FP.i2d r1))) (FP.ddiv (4611686018427387904 : UInt64) (FP.i2d r2)))), .second, .val (.int (3 : Int32))] [(.int (2 : Int32)), (.int (3 : Int32))])) _
    refine own_f_icmpYes X0.here hx (hb hby d_prog_11_9_15) (tlt (by decide)).2.2.1 (by decide) (by decide : _ = 38) ?_
    refine own_f_dloadN X0.here hx (hb hby d_prog_11_9_38) rfl (rfl : _ = 39) ?_
    refine own_f_iloadN X0.here hx (hb hby d_prog_11_9_39) rfl (rfl : _ = 40) ?_
    refine own_f_i2d X0.here hx (hb hby d_prog_11_9_40) rfl (rfl : _ = 41) ?_
    refine own_f_ddiv X0.here hx (hb hby d_prog_11_9_41) (own_dnn hs2 hz) rfl (rfl : _ = 42) ?_
    exact retD X0 hx Bd.returns (hb hby d_prog_11_9_42) hr
  · show Q2_2 Z a1 p2 kc r1 r2 h0 n0 _ s₁.heap _
    rw [e0]
    exact ⟨rfl, N0, rfl⟩
theorem ef_2_3 (m : MethodId) (x0 : Addr) (x1 : Int32) : entryFrame m #[(.ref x0), (.int x1)] 5 = mkF m 0 #[.val (.ref x0), .val (.int x1), .unset, .unset, .unset] [] := by first | (simp [entryFrame, mkF, argsToLocals, Value.category]; done) | rfl
def Q2_3 (Z : State) (a1 : Addr) (p2 : Int32) (kc : ClassId) (r1 : Int32) (r2 : Int32) (r3 : Int32) (h0 : Heap) (n0 : Nat) (v : Option Value) (h : Heap) (L : List Loc) : Prop := v = some (.double (FP.ddiv (FP.dadd (FP.dadd (FP.dadd (0 : UInt64) (FP.ddiv (4607182418800017408 : UInt64) (FP.i2d r1))) (FP.ddiv (4611686018427387904 : UInt64) (FP.i2d r2))) (FP.ddiv (4613937818241073152 : UInt64) (FP.i2d r3))) (FP.i2d p2))) ∧ Fr n0 L ∧ h = h0
set_option maxRecDepth 65536 in
set_option maxHeartbeats 40000000 in
theorem rm2_3 (l : Launch) (Z : State) (a0 : Array Value) (hw : ∀ d ∈ tables_1, d.before a0 Z = true) (ws : List Jvm.Cond) (a1 : Addr) (p2 : Int32) (kc : ClassId) (r1 : Int32) (r2 : Int32) (r3 : Int32) (h0 : Heap) (n0 : Nat) (Z0 : n0 ≤ h0.size) (Va : Arv Z h0 a1 kc .int (3 : Int32) [(.int r1), (.int r2), (.int r3)] (.int (0 : Int32))) (hz : ¬ (p2 = (0 : Int32))) (hr1 : ¬ (r1 = (0 : Int32))) (hr2 : ¬ (r2 = (0 : Int32))) (hr3 : ¬ (r3 = (0 : Int32))) (hs1 : Jvm.Free.Fl.NoNaN64 (FP.dadd (0 : UInt64) (FP.ddiv (4607182418800017408 : UInt64) (FP.i2d r1)))) (hs2 : Jvm.Free.Fl.NoNaN64 (FP.dadd (FP.dadd (0 : UInt64) (FP.ddiv (4607182418800017408 : UInt64) (FP.i2d r1))) (FP.ddiv (4611686018427387904 : UInt64) (FP.i2d r2)))) (hs3 : Jvm.Free.Fl.NoNaN64 (FP.dadd (FP.dadd (FP.dadd (0 : UInt64) (FP.ddiv (4607182418800017408 : UInt64) (FP.i2d r1))) (FP.ddiv (4611686018427387904 : UInt64) (FP.i2d r2))) (FP.ddiv (4613937818241073152 : UInt64) (FP.i2d r3)))) :
    MetFree l (⟨"com/example/prose_to_query/prosetoquery/retrieval/Measure", "averagePrecision", "([II)D"⟩ : MethodName) (head1 (Jvm.Cond.code (⟨"com/example/prose_to_query/prosetoquery/retrieval/Measure", "averagePrecision", "([II)D"⟩ : MethodName) prog_11_method_9_code 5 (some .double) :: ws) ({ frames := 0, cells := 0, slots := 0, locals := 0 } : Room)) (fun a U => a = #[(.ref a1), (.int p2)] ∧ Z.Warmed39 U.vm ∧ U.heap = h0) (fun _ _ _ _ _ => True) (fun _ U o U' => ∃ v L, o = .returned v ∧ Q2_3 Z a1 p2 kc r1 r2 r3 h0 n0 v U'.heap L ∧ FrameEnd U o U' L ({ frames := 0, cells := 0, slots := 0, locals := 0 } : Room).cells ({ frames := 0, cells := 0, slots := 0, locals := 0 } : Room).slots) := by
  refine MetFree.of_bodySF (plainFor_of_name pn_0) hisR ?_
  intro p e s m args below meth c s₁ Bd hml0 hP hK
  obtain ⟨rfl, hZ, hh⟩ := hP
  have hx := Bd.exec
  have hby := Bd.bytes
  have hml : c.maxLocals = 5 := hml0
  have hown : s.vm.findClass "com/example/prose_to_query/prosetoquery/retrieval/Measure" = some m.cls := findClass_of_methodNamed Bd.named
  have hnm := (name_of_methodNamed Bd.named Bd.method).1
  have X0 : Stand p l e ({ frames := 0, cells := 0, slots := 0, locals := 0 } : Room) s m #[(.ref a1), (.int p2)] below meth c s₁ [] 0 0 := Stand.of_body Bd
  have e0 : s₁.heap = h0 := by rw [← hh, Bd.state]; rfl
  have N0 := Fr.nil n0
  obtain ⟨A, hA⟩ : ∃ A, A = s₁.setTop (mkF m 0 #[.val (.ref a1), .val (.int p2), .unset, .unset, .unset] []) := ⟨_, rfl⟩
  have hA0 : ∀ t, Steps p.tables e below A t → Steps p.tables e below (s₁.setTop (entryFrame m #[(.ref a1), (.int p2)] 5)) t := fun t k => castTop (ef_2_3 m a1 p2) (hA ▸ k)
  have k0 : ∀ t, Steps p.tables e below (s₁.setTop (mkF m 0 #[.val (.ref a1), .val (.int p2), .unset, .unset, .unset] [])) t → Steps p.tables e below A t := fun t k => hA ▸ k
  obtain ⟨cl1, Ar1, -, Sz1, Ng1, -, -⟩ := id Va
  obtain ⟨cl2, Ar2, -, Sz2, Ng2, Hs2, -⟩ := id Va
  have hin2 : ¬ ((0 : Int32) < 0 ∨ cl2.slots.size ≤ ((0 : Int32)).toNatClampNeg) := inb_of Sz2 ⟨by decide, by decide⟩
  have hat2 : cl2.slots[((0 : Int32)).toNatClampNeg]? = some (.int r1) := Hs2 _ (Nat.lt_of_not_le fun q => hin2 (Or.inr q))
  obtain ⟨cl3, Ar3, -, Sz3, Ng3, -, -⟩ := id Va
  obtain ⟨cl4, Ar4, -, Sz4, Ng4, Hs4, -⟩ := id Va
  have hin4 : ¬ ((1 : Int32) < 0 ∨ cl4.slots.size ≤ ((1 : Int32)).toNatClampNeg) := inb_of Sz4 ⟨by decide, by decide⟩
  have hat4 : cl4.slots[((1 : Int32)).toNatClampNeg]? = some (.int r2) := Hs4 _ (Nat.lt_of_not_le fun q => hin4 (Or.inr q))
  obtain ⟨cl5, Ar5, -, Sz5, Ng5, -, -⟩ := id Va
  obtain ⟨cl6, Ar6, -, Sz6, Ng6, Hs6, -⟩ := id Va
  have hin6 : ¬ ((2 : Int32) < 0 ∨ cl6.slots.size ≤ ((2 : Int32)).toNatClampNeg) := inb_of Sz6 ⟨by decide, by decide⟩
  have hat6 : cl6.slots[((2 : Int32)).toNatClampNeg]? = some (.int r3) := Hs6 _ (Nat.lt_of_not_le fun q => hin6 (Or.inr q))
  obtain ⟨cl7, Ar7, -, Sz7, Ng7, -, -⟩ := id Va
  obtain ⟨fs, hr, hrun, hended, hW, hsame⟩ := X0.leave (v := some (.double (FP.ddiv (FP.dadd (FP.dadd (FP.dadd (0 : UInt64) (FP.ddiv (4607182418800017408 : UInt64) (FP.i2d r1))) (FP.ddiv (4611686018427387904 : UInt64) (FP.i2d r2))) (FP.ddiv (4613937818241073152 : UInt64) (FP.i2d r3))) (FP.i2d p2)))) (fun h => by rw [Bd.returns] at h; cases h)
  refine ⟨_, _, ?_, hrun, hended, _, _, rfl, ?_, ⟨_, rfl⟩, hW, hsame.mono (by decide) (by decide)⟩
  · refine hA0 _ ?_
    refine k0 _ ?_
    refine own_f_iloadN X0.here hx (hb hby d_prog_11_9_0) rfl (rfl : _ = 1) ?_
    refine own_f_ifYes X0.here hx (hb hby d_prog_11_9_1) ((if0 _ _).trans (feq (hz)).2) (by decide) (by decide : _ = 6) ?_
    refine own_f_dconst0 X0.here hx (hb hby d_prog_11_9_6) (rfl : _ = (0 : UInt64)) (rfl : _ = 7) ?_
    refine own_f_dstoreN X0.here hx (hb hby d_prog_11_9_7) (rfl : storeLocals _ _ _ = some #[.val (.ref a1), .val (.int p2), .val (.double (0 : UInt64)), .second, .unset]) (rfl : _ = 8) ?_
    refine own_f_iconst X0.here hx (hb hby d_prog_11_9_8) (rfl : _ = (1 : Int32)) (rfl : _ = 9) ?_
    refine own_f_istore X0.here hx (hb hby d_prog_11_9_9) (rfl : storeLocals _ _ _ = some #[.val (.ref a1), .val (.int p2), .val (.double (0 : UInt64)), .second, .val (.int (1 : Int32))]) (rfl : _ = 11) ?_
    refine own_f_iload X0.here hx (hb hby d_prog_11_9_11) rfl (rfl : _ = 13) ?_
    refine own_f_aloadN X0.here hx (hb hby d_prog_11_9_13) rfl rfl (rfl : _ = 14) ?_
    refine X0.arraylength hx (by rw [e0]; exact Ar1.1) (State.isArrayOf_alike hZ.alike Ar1.2.1) (g := (mkF m 14 #[.val (.ref a1), .val (.int p2), .val (.double (0 : UInt64)), .second, .val (.int (1 : Int32))] [(.ref a1), (.int (1 : Int32))])) rfl rfl (hb hby d_prog_11_9_14) _ ?_
    rw [len_of Sz1 Ng1]
    show Steps p.tables e below (s₁.setTop (mkF m 15 #[.val (.ref a1), .val (.int p2), .val (.double (0 : UInt64)), .second, .val (.int (1 : Int32))] [(.int (3 : Int32)), (.int (1 : Int32))])) _
    refine own_f_icmpNo X0.here hx (hb hby d_prog_11_9_15) (flt (by decide)).2.2.1 (rfl : _ = 18) ?_
    refine own_f_dloadN X0.here hx (hb hby d_prog_11_9_18) rfl (rfl : _ = 19) ?_
    refine own_f_iload X0.here hx (hb hby d_prog_11_9_19) rfl (rfl : _ = 21) ?_
    refine own_f_i2d X0.here hx (hb hby d_prog_11_9_21) (own_i1 : _ = (4607182418800017408 : UInt64)) (rfl : _ = 22) ?_
    refine own_f_aloadN X0.here hx (hb hby d_prog_11_9_22) rfl rfl (rfl : _ = 23) ?_
    refine own_f_iload X0.here hx (hb hby d_prog_11_9_23) rfl (rfl : _ = 25) ?_
    refine own_f_iconst X0.here hx (hb hby d_prog_11_9_25) (rfl : _ = (1 : Int32)) (rfl : _ = 26) ?_
    refine own_f_isub X0.here hx (hb hby d_prog_11_9_26) (rfl : _ = (0 : Int32)) (rfl : _ = 27) ?_
    refine X0.iaload hx (j := (0 : Int32)) (v := (.int r1)) (by rw [e0]; exact Ar2.1) (State.isArrayOf_alike hZ.alike Ar2.2.1) Ar2.2.2 hin2 hat2 (g := (mkF m 27 #[.val (.ref a1), .val (.int p2), .val (.double (0 : UInt64)), .second, .val (.int (1 : Int32))] [(.int (0 : Int32)), (.ref a1), (.double (4607182418800017408 : UInt64)), (.double (0 : UInt64))])) rfl rfl (hb hby d_prog_11_9_27) _ ?_
    show Steps p.tables e below (s₁.setTop (mkF m 28 #[.val (.ref a1), .val (.int p2), .val (.double (0 : UInt64)), .second, .val (.int (1 : Int32))] [(.int r1), (.double (4607182418800017408 : UInt64)), (.double (0 : UInt64))])) _
    refine own_f_i2d X0.here hx (hb hby d_prog_11_9_28) rfl (rfl : _ = 29) ?_
    refine own_f_ddiv X0.here hx (hb hby d_prog_11_9_29) (own_qnn (own_cfin1) hr1) rfl (rfl : _ = 30) ?_
    refine own_f_dadd X0.here hx (hb hby d_prog_11_9_30) (hs1) rfl (rfl : _ = 31) ?_
    refine own_f_dstoreN X0.here hx (hb hby d_prog_11_9_31) (rfl : storeLocals _ _ _ = some #[.val (.ref a1), .val (.int p2), .val (.double (FP.dadd (0 : UInt64) (FP.ddiv (4607182418800017408 : UInt64) (FP.i2d r1)))), .second, .val (.int (1 : Int32))]) (rfl : _ = 32) ?_
    refine own_f_iinc X0.here hx (hb hby d_prog_11_9_32) rfl (rfl : storeLocals _ _ _ = some #[.val (.ref a1), .val (.int p2), .val (.double (FP.dadd (0 : UInt64) (FP.ddiv (4607182418800017408 : UInt64) (FP.i2d r1)))), .second, .val (.int (2 : Int32))]) (rfl : _ = 35) ?_
    refine own_f_goto X0.here hx (hb hby d_prog_11_9_35) (by decide) (by decide : _ = 11) ?_
    refine own_f_iload X0.here hx (hb hby d_prog_11_9_11) rfl (rfl : _ = 13) ?_
    refine own_f_aloadN X0.here hx (hb hby d_prog_11_9_13) rfl rfl (rfl : _ = 14) ?_
    refine X0.arraylength hx (by rw [e0]; exact Ar3.1) (State.isArrayOf_alike hZ.alike Ar3.2.1) (g := (mkF m 14 #[.val (.ref a1), .val (.int p2), .val (.double (FP.dadd (0 : UInt64) (FP.ddiv (4607182418800017408 : UInt64) (FP.i2d r1)))), .second, .val (.int (2 : Int32))] [(.ref a1), (.int (2 : Int32))])) rfl rfl (hb hby d_prog_11_9_14) _ ?_
    rw [len_of Sz3 Ng3]
    show Steps p.tables e below (s₁.setTop (mkF m 15 #[.val (.ref a1), .val (.int p2), .val (.double (FP.dadd (0 : UInt64) (FP.ddiv (4607182418800017408 : UInt64) (FP.i2d r1)))), .second, .val (.int (2 : Int32))] [(.int (3 : Int32)), (.int (2 : Int32))])) _
    refine own_f_icmpNo X0.here hx (hb hby d_prog_11_9_15) (flt (by decide)).2.2.1 (rfl : _ = 18) ?_
    refine own_f_dloadN X0.here hx (hb hby d_prog_11_9_18) rfl (rfl : _ = 19) ?_
    refine own_f_iload X0.here hx (hb hby d_prog_11_9_19) rfl (rfl : _ = 21) ?_
    refine own_f_i2d X0.here hx (hb hby d_prog_11_9_21) (own_i2 : _ = (4611686018427387904 : UInt64)) (rfl : _ = 22) ?_
    refine own_f_aloadN X0.here hx (hb hby d_prog_11_9_22) rfl rfl (rfl : _ = 23) ?_
    refine own_f_iload X0.here hx (hb hby d_prog_11_9_23) rfl (rfl : _ = 25) ?_
    refine own_f_iconst X0.here hx (hb hby d_prog_11_9_25) (rfl : _ = (1 : Int32)) (rfl : _ = 26) ?_
    refine own_f_isub X0.here hx (hb hby d_prog_11_9_26) (rfl : _ = (1 : Int32)) (rfl : _ = 27) ?_
    refine X0.iaload hx (j := (1 : Int32)) (v := (.int r2)) (by rw [e0]; exact Ar4.1) (State.isArrayOf_alike hZ.alike Ar4.2.1) Ar4.2.2 hin4 hat4 (g := (mkF m 27 #[.val (.ref a1), .val (.int p2), .val (.double (FP.dadd (0 : UInt64) (FP.ddiv (4607182418800017408 : UInt64) (FP.i2d r1)))), .second, .val (.int (2 : Int32))] [(.int (1 : Int32)), (.ref a1), (.double (4611686018427387904 : UInt64)), (.double (FP.dadd (0 : UInt64) (FP.ddiv (4607182418800017408 : UInt64) (FP.i2d r1))))])) rfl rfl (hb hby d_prog_11_9_27) _ ?_
    show Steps p.tables e below (s₁.setTop (mkF m 28 #[.val (.ref a1), .val (.int p2), .val (.double (FP.dadd (0 : UInt64) (FP.ddiv (4607182418800017408 : UInt64) (FP.i2d r1)))), .second, .val (.int (2 : Int32))] [(.int r2), (.double (4611686018427387904 : UInt64)), (.double (FP.dadd (0 : UInt64) (FP.ddiv (4607182418800017408 : UInt64) (FP.i2d r1))))])) _
    refine own_f_i2d X0.here hx (hb hby d_prog_11_9_28) rfl (rfl : _ = 29) ?_
    refine own_f_ddiv X0.here hx (hb hby d_prog_11_9_29) (own_qnn (own_cfin2) hr2) rfl (rfl : _ = 30) ?_
    refine own_f_dadd X0.here hx (hb hby d_prog_11_9_30) (hs2) rfl (rfl : _ = 31) ?_
    refine own_f_dstoreN X0.here hx (hb hby d_prog_11_9_31) (rfl : storeLocals _ _ _ = some #[.val (.ref a1), .val (.int p2), .val (.double (FP.dadd (FP.dadd (0 : UInt64) (FP.ddiv (4607182418800017408 : UInt64) (FP.i2d r1))) (FP.ddiv (4611686018427387904 : UInt64) (FP.i2d r2)))), .second, .val (.int (2 : Int32))]) (rfl : _ = 32) ?_
    refine own_f_iinc X0.here hx (hb hby d_prog_11_9_32) rfl (rfl : storeLocals _ _ _ = some #[.val (.ref a1), .val (.int p2), .val (.double (FP.dadd (FP.dadd (0 : UInt64) (FP.ddiv (4607182418800017408 : UInt64) (FP.i2d r1))) (FP.ddiv (4611686018427387904 : UInt64) (FP.i2d r2)))), .second, .val (.int (3 : Int32))]) (rfl : _ = 35) ?_
    refine own_f_goto X0.here hx (hb hby d_prog_11_9_35) (by decide) (by decide : _ = 11) ?_
    refine own_f_iload X0.here hx (hb hby d_prog_11_9_11) rfl (rfl : _ = 13) ?_
    refine own_f_aloadN X0.here hx (hb hby d_prog_11_9_13) rfl rfl (rfl : _ = 14) ?_
    refine X0.arraylength hx (by rw [e0]; exact Ar5.1) (State.isArrayOf_alike hZ.alike Ar5.2.1) (g := (mkF m 14 #[.val (.ref a1), .val (.int p2), .val (.double (FP.dadd (FP.dadd (0 : UInt64) (FP.ddiv (4607182418800017408 : UInt64) (FP.i2d r1))) (FP.ddiv (4611686018427387904 : UInt64) (FP.i2d r2)))), .second, .val (.int (3 : Int32))] [(.ref a1), (.int (3 : Int32))])) rfl rfl (hb hby d_prog_11_9_14) _ ?_
    rw [len_of Sz5 Ng5]
    show Steps p.tables e below (s₁.setTop (mkF m 15 #[.val (.ref a1), .val (.int p2), .val (.double (FP.dadd (FP.dadd (0 : UInt64) (FP.ddiv (4607182418800017408 : UInt64) (FP.i2d r1))) (FP.ddiv (4611686018427387904 : UInt64) (FP.i2d r2)))), .second, .val (.int (3 : Int32))] [(.int (3 : Int32)), (.int (3 : Int32))])) _
    refine own_f_icmpNo X0.here hx (hb hby d_prog_11_9_15) (flt (by decide)).2.2.1 (rfl : _ = 18) ?_
    refine own_f_dloadN X0.here hx (hb hby d_prog_11_9_18) rfl (rfl : _ = 19) ?_
    refine own_f_iload X0.here hx (hb hby d_prog_11_9_19) rfl (rfl : _ = 21) ?_
    refine own_f_i2d X0.here hx (hb hby d_prog_11_9_21) (own_i3 : _ = (4613937818241073152 : UInt64)) (rfl : _ = 22) ?_
    refine own_f_aloadN X0.here hx (hb hby d_prog_11_9_22) rfl rfl (rfl : _ = 23) ?_
    refine own_f_iload X0.here hx (hb hby d_prog_11_9_23) rfl (rfl : _ = 25) ?_
    refine own_f_iconst X0.here hx (hb hby d_prog_11_9_25) (rfl : _ = (1 : Int32)) (rfl : _ = 26) ?_
    refine own_f_isub X0.here hx (hb hby d_prog_11_9_26) (rfl : _ = (2 : Int32)) (rfl : _ = 27) ?_
    refine X0.iaload hx (j := (2 : Int32)) (v := (.int r3)) (by rw [e0]; exact Ar6.1) (State.isArrayOf_alike hZ.alike Ar6.2.1) Ar6.2.2 hin6 hat6 (g := (mkF m 27 #[.val (.ref a1), .val (.int p2), .val (.double (FP.dadd (FP.dadd (0 : UInt64) (FP.ddiv (4607182418800017408 : UInt64) (FP.i2d r1))) (FP.ddiv (4611686018427387904 : UInt64) (FP.i2d r2)))), .second, .val (.int (3 : Int32))] [(.int (2 : Int32)), (.ref a1), (.double (4613937818241073152 : UInt64)), (.double (FP.dadd (FP.dadd (0 : UInt64) (FP.ddiv (4607182418800017408 : UInt64) (FP.i2d r1))) (FP.ddiv (4611686018427387904 : UInt64) (FP.i2d r2))))])) rfl rfl (hb hby d_prog_11_9_27) _ ?_
    show Steps p.tables e below (s₁.setTop (mkF m 28 #[.val (.ref a1), .val (.int p2), .val (.double (FP.dadd (FP.dadd (0 : UInt64) (FP.ddiv (4607182418800017408 : UInt64) (FP.i2d r1))) (FP.ddiv (4611686018427387904 : UInt64) (FP.i2d r2)))), .second, .val (.int (3 : Int32))] [(.int r3), (.double (4613937818241073152 : UInt64)), (.double (FP.dadd (FP.dadd (0 : UInt64) (FP.ddiv (4607182418800017408 : UInt64) (FP.i2d r1))) (FP.ddiv (4611686018427387904 : UInt64) (FP.i2d r2))))])) _
    refine own_f_i2d X0.here hx (hb hby d_prog_11_9_28) rfl (rfl : _ = 29) ?_
    refine own_f_ddiv X0.here hx (hb hby d_prog_11_9_29) (own_qnn (own_cfin3) hr3) rfl (rfl : _ = 30) ?_
    refine own_f_dadd X0.here hx (hb hby d_prog_11_9_30) (hs3) rfl (rfl : _ = 31) ?_
    refine own_f_dstoreN X0.here hx (hb hby d_prog_11_9_31) (rfl : storeLocals _ _ _ = some #[.val (.ref a1), .val (.int p2), .val (.double (FP.dadd (FP.dadd (FP.dadd (0 : UInt64) (FP.ddiv (4607182418800017408 : UInt64) (FP.i2d r1))) (FP.ddiv (4611686018427387904 : UInt64) (FP.i2d r2))) (FP.ddiv (4613937818241073152 : UInt64) (FP.i2d r3)))), .second, .val (.int (3 : Int32))]) (rfl : _ = 32) ?_
    refine own_f_iinc X0.here hx (hb hby d_prog_11_9_32) rfl (rfl : storeLocals _ _ _ = some #[.val (.ref a1), .val (.int p2), .val (.double (FP.dadd (FP.dadd (FP.dadd (0 : UInt64) (FP.ddiv (4607182418800017408 : UInt64) (FP.i2d r1))) (FP.ddiv (4611686018427387904 : UInt64) (FP.i2d r2))) (FP.ddiv (4613937818241073152 : UInt64) (FP.i2d r3)))), .second, .val (.int (4 : Int32))]) (rfl : _ = 35) ?_
    refine own_f_goto X0.here hx (hb hby d_prog_11_9_35) (by decide) (by decide : _ = 11) ?_
    refine own_f_iload X0.here hx (hb hby d_prog_11_9_11) rfl (rfl : _ = 13) ?_
    refine own_f_aloadN X0.here hx (hb hby d_prog_11_9_13) rfl rfl (rfl : _ = 14) ?_
    refine X0.arraylength hx (by rw [e0]; exact Ar7.1) (State.isArrayOf_alike hZ.alike Ar7.2.1) (g := (mkF m 14 #[.val (.ref a1), .val (.int p2), .val (.double (FP.dadd (FP.dadd (FP.dadd (0 : UInt64) (FP.ddiv (4607182418800017408 : UInt64) (FP.i2d r1))) (FP.ddiv (4611686018427387904 : UInt64) (FP.i2d r2))) (FP.ddiv (4613937818241073152 : UInt64) (FP.i2d r3)))), .second, .val (.int (4 : Int32))] [(.ref a1), (.int (4 : Int32))])) rfl rfl (hb hby d_prog_11_9_14) _ ?_
    rw [len_of Sz7 Ng7]
    show Steps p.tables e below (s₁.setTop (mkF m 15 #[.val (.ref a1), .val (.int p2), .val (.double (FP.dadd (FP.dadd (FP.dadd (0 : UInt64) (FP.ddiv (4607182418800017408 : UInt64) (FP.i2d r1))) (FP.ddiv (4611686018427387904 : UInt64) (FP.i2d r2))) (FP.ddiv (4613937818241073152 : UInt64) (FP.i2d r3)))), .second, .val (.int (4 : Int32))] [(.int (3 : Int32)), (.int (4 : Int32))])) _
    refine own_f_icmpYes X0.here hx (hb hby d_prog_11_9_15) (tlt (by decide)).2.2.1 (by decide) (by decide : _ = 38) ?_
    refine own_f_dloadN X0.here hx (hb hby d_prog_11_9_38) rfl (rfl : _ = 39) ?_
    refine own_f_iloadN X0.here hx (hb hby d_prog_11_9_39) rfl (rfl : _ = 40) ?_
    refine own_f_i2d X0.here hx (hb hby d_prog_11_9_40) rfl (rfl : _ = 41) ?_
    refine own_f_ddiv X0.here hx (hb hby d_prog_11_9_41) (own_dnn hs3 hz) rfl (rfl : _ = 42) ?_
    exact retD X0 hx Bd.returns (hb hby d_prog_11_9_42) hr
  · show Q2_3 Z a1 p2 kc r1 r2 r3 h0 n0 _ s₁.heap _
    rw [e0]
    exact ⟨rfl, N0, rfl⟩
theorem ef_0 (m : MethodId) (x0 : Int32) (x1 : Int32) (x2 : Int32) (x3 : Int32) (x4 : Int32) : entryFrame m #[(.int x0), (.int x1), (.int x2), (.int x3), (.int x4)] maxLocals = mkF m 0 #[.val (.int x0), .val (.int x1), .val (.int x2), .val (.int x3), .val (.int x4), .unset, .unset, .unset, .unset, .unset, .unset, .unset, .unset, .unset, .unset, .unset, .unset, .unset, .unset, .unset, .unset, .unset, .unset] [] := by first | (simp [entryFrame, mkF, argsToLocals, Value.category, maxLocals]; done) | rfl
def Q0 (Z : State) (p1 : Int32) (p2 : Int32) (p3 : Int32) (p4 : Int32) (p5 : Int32) (h0 : Heap) (n0 : Nat) (v : Option Value) (h : Heap) (L : List Loc) : Prop := v = some (.int (1 : Int32)) ∧ Fr n0 L
set_option maxRecDepth 65536 in
set_option maxHeartbeats 40000000 in
theorem rm0 (l : Launch) (Z : State) (a0 : Array Value) (hw : ∀ d ∈ tables_1, d.before a0 Z = true) (ws : List Jvm.Cond) (p1 : Int32) (p2 : Int32) (p3 : Int32) (p4 : Int32) (p5 : Int32) (h0 : Heap) (n0 : Nat) (Z0 : n0 ≤ h0.size) :
    MetFree l x (head1 (Jvm.Cond.code x code maxLocals ret :: ws) room_1) (fun a U => a = #[(.int p1), (.int p2), (.int p3), (.int p4), (.int p5)] ∧ Z.Warmed39 U.vm ∧ U.heap = h0) (fun _ _ _ _ _ => True) (fun _ U o U' => ∃ v L, o = .returned v ∧ Q0 Z p1 p2 p3 p4 p5 h0 n0 v U'.heap L ∧ FrameEnd U o U' L room_1.cells room_1.slots) := by
  refine MetFree.of_bodySF (plainFor_of_name pn_1) hisR ?_
  intro p e s m args below meth c s₁ Bd hml0 hP hK
  obtain ⟨rfl, hZ, hh⟩ := hP
  have hx := Bd.exec
  have hby := Bd.bytes
  have hml : c.maxLocals = 23 := hml0
  have hown : s.vm.findClass "com/example/prose_to_query/prosetoquery/retrieval/MeasureAveragePrecisionPinLaw" = some m.cls := findClass_of_methodNamed Bd.named
  have hnm := (name_of_methodNamed Bd.named Bd.method).1
  have X0 : Stand p l e room_1 s m #[(.int p1), (.int p2), (.int p3), (.int p4), (.int p5)] below meth c s₁ [] 0 0 := Stand.of_body Bd
  have e0 : s₁.heap = h0 := by rw [← hh, Bd.state]; rfl
  have N0 := Fr.nil n0
  obtain ⟨A, hA⟩ : ∃ A, A = s₁.setTop (mkF m 0 #[.val (.int p1), .val (.int p2), .val (.int p3), .val (.int p4), .val (.int p5), .unset, .unset, .unset, .unset, .unset, .unset, .unset, .unset, .unset, .unset, .unset, .unset, .unset, .unset, .unset, .unset, .unset, .unset] []) := ⟨_, rfl⟩
  have hA0 : ∀ t, Steps p.tables e below A t → Steps p.tables e below (s₁.setTop (entryFrame m #[(.int p1), (.int p2), (.int p3), (.int p4), (.int p5)] maxLocals)) t := fun t k => castTop (ef_0 m p1 p2 p3 p4 p5) (hA ▸ k)
  have k0 : ∀ t, Steps p.tables e below (s₁.setTop (mkF m 0 #[.val (.int p1), .val (.int p2), .val (.int p3), .val (.int p4), .val (.int p5), .unset, .unset, .unset, .unset, .unset, .unset, .unset, .unset, .unset, .unset, .unset, .unset, .unset, .unset, .unset, .unset, .unset, .unset] [])) t → Steps p.tables e below A t := fun t k => hA ▸ k
  have k1 : ∀ t, Steps p.tables e below (s₁.setTop (mkF m 5 #[.val (.int p1), .val (.int p2), .val (.int p3), .val (.int p4), .val (.int p5), .val (.int (p1 &&& (3 : Int32))), .unset, .unset, .unset, .unset, .unset, .unset, .unset, .unset, .unset, .unset, .unset, .unset, .unset, .unset, .unset, .unset, .unset] [])) t → Steps p.tables e below A t := by
    intro t ht
    refine k0 t ?_
    refine own_f_iloadN X0.here hx (hb hby at_0) rfl (rfl : _ = 1) ?_
    refine own_f_iconst X0.here hx (hb hby at_1) (rfl : _ = (3 : Int32)) (rfl : _ = 2) ?_
    refine own_f_iand X0.here hx (hb hby at_2) rfl (rfl : _ = 3) ?_
    refine own_f_istore X0.here hx (hb hby at_3) (rfl : storeLocals _ _ _ = some #[.val (.int p1), .val (.int p2), .val (.int p3), .val (.int p4), .val (.int p5), .val (.int (p1 &&& (3 : Int32))), .unset, .unset, .unset, .unset, .unset, .unset, .unset, .unset, .unset, .unset, .unset, .unset, .unset, .unset, .unset, .unset, .unset]) (rfl : _ = 5) ?_
    exact ht
  obtain ⟨nn, hnn⟩ : ∃ z : Int32, z = (p1 &&& (3 : Int32)) := ⟨_, rfl⟩
  rw [← hnn] at k1
  have k2 : ∀ t, Steps p.tables e below (s₁.setTop (mkF m 13 #[.val (.int p1), .val (.int p2), .val (.int p3), .val (.int p4), .val (.int p5), .val (.int nn), .val (.int ((1 : Int32) + (p2 &&& (536870911 : Int32)))), .unset, .unset, .unset, .unset, .unset, .unset, .unset, .unset, .unset, .unset, .unset, .unset, .unset, .unset, .unset, .unset] [])) t → Steps p.tables e below A t := by
    intro t ht
    refine k1 t ?_
    refine own_f_iconst X0.here hx (hb hby at_5) (rfl : _ = (1 : Int32)) (rfl : _ = 6) ?_
    refine own_f_iloadN X0.here hx (hb hby at_6) rfl (rfl : _ = 7) ?_
    refine own_f_ldcInt X0 hx hown (mvT hZ (hw _ (List.mem_of_getElem? (i := 0) rfl))) (hb hby at_7) (rfl : _ = 9) ?_
    refine own_f_iand X0.here hx (hb hby at_9) rfl (rfl : _ = 10) ?_
    refine own_f_iadd X0.here hx (hb hby at_10) rfl (rfl : _ = 11) ?_
    refine own_f_istore X0.here hx (hb hby at_11) (rfl : storeLocals _ _ _ = some #[.val (.int p1), .val (.int p2), .val (.int p3), .val (.int p4), .val (.int p5), .val (.int nn), .val (.int ((1 : Int32) + (p2 &&& (536870911 : Int32)))), .unset, .unset, .unset, .unset, .unset, .unset, .unset, .unset, .unset, .unset, .unset, .unset, .unset, .unset, .unset, .unset]) (rfl : _ = 13) ?_
    exact ht
  obtain ⟨r1, hr1⟩ : ∃ z : Int32, z = ((1 : Int32) + (p2 &&& (536870911 : Int32))) := ⟨_, rfl⟩
  rw [← hr1] at k2
  have k3 : ∀ t, Steps p.tables e below (s₁.setTop (mkF m 24 #[.val (.int p1), .val (.int p2), .val (.int p3), .val (.int p4), .val (.int p5), .val (.int nn), .val (.int r1), .val (.int ((r1 + (1 : Int32)) + (p3 &&& (536870911 : Int32)))), .unset, .unset, .unset, .unset, .unset, .unset, .unset, .unset, .unset, .unset, .unset, .unset, .unset, .unset, .unset] [])) t → Steps p.tables e below A t := by
    intro t ht
    refine k2 t ?_
    refine own_f_iload X0.here hx (hb hby at_13) rfl (rfl : _ = 15) ?_
    refine own_f_iconst X0.here hx (hb hby at_15) (rfl : _ = (1 : Int32)) (rfl : _ = 16) ?_
    refine own_f_iadd X0.here hx (hb hby at_16) rfl (rfl : _ = 17) ?_
    refine own_f_iloadN X0.here hx (hb hby at_17) rfl (rfl : _ = 18) ?_
    refine own_f_ldcInt X0 hx hown (mvT hZ (hw _ (List.mem_of_getElem? (i := 0) rfl))) (hb hby at_18) (rfl : _ = 20) ?_
    refine own_f_iand X0.here hx (hb hby at_20) rfl (rfl : _ = 21) ?_
    refine own_f_iadd X0.here hx (hb hby at_21) rfl (rfl : _ = 22) ?_
    refine own_f_istore X0.here hx (hb hby at_22) (rfl : storeLocals _ _ _ = some #[.val (.int p1), .val (.int p2), .val (.int p3), .val (.int p4), .val (.int p5), .val (.int nn), .val (.int r1), .val (.int ((r1 + (1 : Int32)) + (p3 &&& (536870911 : Int32)))), .unset, .unset, .unset, .unset, .unset, .unset, .unset, .unset, .unset, .unset, .unset, .unset, .unset, .unset, .unset]) (rfl : _ = 24) ?_
    exact ht
  obtain ⟨r2, hr2⟩ : ∃ z : Int32, z = ((r1 + (1 : Int32)) + (p3 &&& (536870911 : Int32))) := ⟨_, rfl⟩
  rw [← hr2] at k3
  have k4 : ∀ t, Steps p.tables e below (s₁.setTop (mkF m 35 #[.val (.int p1), .val (.int p2), .val (.int p3), .val (.int p4), .val (.int p5), .val (.int nn), .val (.int r1), .val (.int r2), .val (.int ((r2 + (1 : Int32)) + (p4 &&& (536870911 : Int32)))), .unset, .unset, .unset, .unset, .unset, .unset, .unset, .unset, .unset, .unset, .unset, .unset, .unset, .unset] [])) t → Steps p.tables e below A t := by
    intro t ht
    refine k3 t ?_
    refine own_f_iload X0.here hx (hb hby at_24) rfl (rfl : _ = 26) ?_
    refine own_f_iconst X0.here hx (hb hby at_26) (rfl : _ = (1 : Int32)) (rfl : _ = 27) ?_
    refine own_f_iadd X0.here hx (hb hby at_27) rfl (rfl : _ = 28) ?_
    refine own_f_iloadN X0.here hx (hb hby at_28) rfl (rfl : _ = 29) ?_
    refine own_f_ldcInt X0 hx hown (mvT hZ (hw _ (List.mem_of_getElem? (i := 0) rfl))) (hb hby at_29) (rfl : _ = 31) ?_
    refine own_f_iand X0.here hx (hb hby at_31) rfl (rfl : _ = 32) ?_
    refine own_f_iadd X0.here hx (hb hby at_32) rfl (rfl : _ = 33) ?_
    refine own_f_istore X0.here hx (hb hby at_33) (rfl : storeLocals _ _ _ = some #[.val (.int p1), .val (.int p2), .val (.int p3), .val (.int p4), .val (.int p5), .val (.int nn), .val (.int r1), .val (.int r2), .val (.int ((r2 + (1 : Int32)) + (p4 &&& (536870911 : Int32)))), .unset, .unset, .unset, .unset, .unset, .unset, .unset, .unset, .unset, .unset, .unset, .unset, .unset, .unset]) (rfl : _ = 35) ?_
    exact ht
  obtain ⟨r3, hr3⟩ : ∃ z : Int32, z = ((r2 + (1 : Int32)) + (p4 &&& (536870911 : Int32))) := ⟨_, rfl⟩
  rw [← hr3] at k4
  obtain ⟨hr1, hr2, hr3⟩ := own_ranks hr1 hr2 hr3
  obtain ⟨_, _, ⟨T5, L5, k5_, n5⟩, -, X5, ⟨Lc5, hQ5, l5, y5, z5⟩, st5⟩ := Jvm.LawKit.callS X0 hx (y := (⟨"java/lang/Math", "max", "(II)I"⟩ : MethodName)) hown (mvT hZ (hw _ (List.mem_of_getElem? (i := 2) rfl))) (mvT hZ (hw _ (List.mem_of_getElem? (i := 3) rfl))) (mvT hZ (hw _ (List.mem_of_getElem? (i := 4) rfl))) (mvT hZ (hw _ (List.mem_of_getElem? (i := 5) rfl))) (by decide) (backOf (W := 0) (rm1 l Z a0 hw [] (p5 &&& (2147483647 : Int32)) nn  h0 n0 Z0) hZ (hw _ (List.mem_of_getElem? (i := 5) rfl)) (hw _ (List.mem_of_getElem? (i := 4) rfl)) (by decide) (by decide)) (g := (mkF m 42 #[.val (.int p1), .val (.int p2), .val (.int p3), .val (.int p4), .val (.int p5), .val (.int nn), .val (.int r1), .val (.int r2), .val (.int r3), .unset, .unset, .unset, .unset, .unset, .unset, .unset, .unset, .unset, .unset, .unset, .unset, .unset, .unset] [(.int nn), (.int (p5 &&& (2147483647 : Int32)))])) rfl (by rw [hml]; rfl) (argsL := [(.int (p5 &&& (2147483647 : Int32))), (.int nn)]) (rest := []) (lenOf pd_0 rfl) rfl (by show 2 * 0 + _ ≤ _; exact Nat.le_of_eq rfl) (hb hby at_42) (fun _ _ => ⟨rfl, e0, (by decide : 0 + 0 ≤ _), (by decide : 0 + 0 ≤ _)⟩)
  dsimp only [Pt.U, Pt.locs, Pt.cells, Pt.slots] at X5 l5 y5 z5 st5 hQ5
  subst l5 y5 z5
  obtain ⟨rfl, Nq5, e5⟩ := hQ5
  have N5 := Fr.app N0 Nq5
  have k6 : ∀ t, Steps p.tables e below (T5.setTop (mkF m 47 #[.val (.int p1), .val (.int p2), .val (.int p3), .val (.int p4), .val (.int p5), .val (.int nn), .val (.int r1), .val (.int r2), .val (.int r3), .val (.int (if (p5 &&& (2147483647 : Int32)) < nn then nn else (p5 &&& (2147483647 : Int32)))), .unset, .unset, .unset, .unset, .unset, .unset, .unset, .unset, .unset, .unset, .unset, .unset, .unset] [])) t → Steps p.tables e below A t := by
    intro t ht
    refine k4 t ?_
    refine own_f_iload X0.here hx (hb hby at_35) rfl (rfl : _ = 37) ?_
    refine own_f_ldcInt X0 hx hown (mvT hZ (hw _ (List.mem_of_getElem? (i := 1) rfl))) (hb hby at_37) (rfl : _ = 39) ?_
    refine own_f_iand X0.here hx (hb hby at_39) rfl (rfl : _ = 40) ?_
    refine own_f_iload X0.here hx (hb hby at_40) rfl (rfl : _ = 42) ?_
    refine st5 _ ?_
    show Steps p.tables e below (T5.setTop (mkF m 45 #[.val (.int p1), .val (.int p2), .val (.int p3), .val (.int p4), .val (.int p5), .val (.int nn), .val (.int r1), .val (.int r2), .val (.int r3), .unset, .unset, .unset, .unset, .unset, .unset, .unset, .unset, .unset, .unset, .unset, .unset, .unset, .unset] [(.int (if (p5 &&& (2147483647 : Int32)) < nn then nn else (p5 &&& (2147483647 : Int32))))])) t
    refine own_f_istore X5.here hx (hb hby at_45) (rfl : storeLocals _ _ _ = some #[.val (.int p1), .val (.int p2), .val (.int p3), .val (.int p4), .val (.int p5), .val (.int nn), .val (.int r1), .val (.int r2), .val (.int r3), .val (.int (if (p5 &&& (2147483647 : Int32)) < nn then nn else (p5 &&& (2147483647 : Int32)))), .unset, .unset, .unset, .unset, .unset, .unset, .unset, .unset, .unset, .unset, .unset, .unset, .unset]) (rfl : _ = 47) ?_
    exact ht
  obtain ⟨rel, hrel⟩ : ∃ z : Int32, z = (if (p5 &&& (2147483647 : Int32)) < nn then nn else (p5 &&& (2147483647 : Int32))) := ⟨_, rfl⟩
  rw [← hrel] at k6
  have hs1 := own_s1 hr1
  have hs2 := own_s2 hr1 hr2
  have hs3 := own_s3 hr1 hr2 hr3
  have hpos := own_rel hrel hnn
  rcases own_n4 hnn with rfl | rfl | rfl | rfl
  · obtain ⟨T7, h7, c7, X7, e7, E7, A7, st7⟩ := newP X5 hx hZ (hw _ (List.mem_of_getElem? (i := 6) rfl)) e5 (g := (mkF m 49 #[.val (.int p1), .val (.int p2), .val (.int p3), .val (.int p4), .val (.int p5), .val (.int (0 : Int32)), .val (.int r1), .val (.int r2), .val (.int r3), .val (.int rel), .unset, .unset, .unset, .unset, .unset, .unset, .unset, .unset, .unset, .unset, .unset, .unset, .unset] [(.int (0 : Int32))])) rfl (hb hby at_49) rfl (by decide) (cap := 0) (by decide) (by decide) (by decide) (by decide)
    obtain ⟨b7, g7⟩ : ∃ z, z = h0.size := ⟨_, rfl⟩
    rw [← g7] at A7 st7
    have g_b7 : n0 ≤ b7 := Nat.le_trans Z0 (Nat.le_of_eq g7.symm)
    have Zs7 := Nat.le_trans Z0 E7.1
    have V_b7 : Arv Z h7 b7 c7 .int (0 : Int32) [] (.int (0 : Int32)) := Arv.new A7 (by decide)
    have k8 : ∀ t, Steps p.tables e below (T7.setTop (mkF m 93 #[.val (.int p1), .val (.int p2), .val (.int p3), .val (.int p4), .val (.int p5), .val (.int (0 : Int32)), .val (.int r1), .val (.int r2), .val (.int r3), .val (.int rel), .val (.ref b7), .unset, .unset, .unset, .unset, .unset, .unset, .unset, .unset, .unset, .unset, .unset, .unset] [(.int rel), (.ref b7)])) t → Steps p.tables e below A t := by
      intro t ht
      refine k6 t ?_
      refine own_f_iload X5.here hx (hb hby at_47) rfl (rfl : _ = 49) ?_
      refine st7 _ ?_
      show Steps p.tables e below (T7.setTop (mkF m 51 #[.val (.int p1), .val (.int p2), .val (.int p3), .val (.int p4), .val (.int p5), .val (.int (0 : Int32)), .val (.int r1), .val (.int r2), .val (.int r3), .val (.int rel), .unset, .unset, .unset, .unset, .unset, .unset, .unset, .unset, .unset, .unset, .unset, .unset, .unset] [(.ref b7)])) t
      refine own_f_astore X7.here hx (hb hby at_51) rfl (rfl : storeLocals _ _ _ = some #[.val (.int p1), .val (.int p2), .val (.int p3), .val (.int p4), .val (.int p5), .val (.int (0 : Int32)), .val (.int r1), .val (.int r2), .val (.int r3), .val (.int rel), .val (.ref b7), .unset, .unset, .unset, .unset, .unset, .unset, .unset, .unset, .unset, .unset, .unset, .unset]) (rfl : _ = 53) ?_
      refine own_f_iload X7.here hx (hb hby at_53) rfl (rfl : _ = 55) ?_
      refine own_f_iconst X7.here hx (hb hby at_55) (rfl : _ = (1 : Int32)) (rfl : _ = 56) ?_
      refine own_f_icmpYes X7.here hx (hb hby at_56) (tlt (by decide)).1 (by decide) (by decide : _ = 65) ?_
      refine own_f_iload X7.here hx (hb hby at_65) rfl (rfl : _ = 67) ?_
      refine own_f_iconst X7.here hx (hb hby at_67) (rfl : _ = (2 : Int32)) (rfl : _ = 68) ?_
      refine own_f_icmpYes X7.here hx (hb hby at_68) (tlt (by decide)).1 (by decide) (by decide : _ = 77) ?_
      refine own_f_iload X7.here hx (hb hby at_77) rfl (rfl : _ = 79) ?_
      refine own_f_iconst X7.here hx (hb hby at_79) (rfl : _ = (3 : Int32)) (rfl : _ = 80) ?_
      refine own_f_icmpYes X7.here hx (hb hby at_80) (tlt (by decide)).1 (by decide) (by decide : _ = 89) ?_
      refine own_f_aload X7.here hx (hb hby at_89) rfl rfl (rfl : _ = 91) ?_
      refine own_f_iload X7.here hx (hb hby at_91) rfl (rfl : _ = 93) ?_
      exact ht
    by_cases hz : rel = (0 : Int32)
    · obtain ⟨_, _, ⟨T9, L9, k9_, n9⟩, -, X9, ⟨Lc9, hQ9, l9, y9, z9⟩, st9⟩ := Jvm.LawKit.callS X7 hx (y := (⟨"com/example/prose_to_query/prosetoquery/retrieval/Measure", "averagePrecision", "([II)D"⟩ : MethodName)) hown (mvT hZ (hw _ (List.mem_of_getElem? (i := 7) rfl))) (mvT hZ (hw _ (List.mem_of_getElem? (i := 8) rfl))) (mvT hZ (hw _ (List.mem_of_getElem? (i := 9) rfl))) (mvT hZ (hw _ (List.mem_of_getElem? (i := 10) rfl))) (by decide) (backOf (W := 0) (rm2z l Z a0 hw [] b7 rel  h7 n0 Zs7 hz) hZ (hw _ (List.mem_of_getElem? (i := 10) rfl)) (hw _ (List.mem_of_getElem? (i := 9) rfl)) (by decide) (by decide)) (g := (mkF m 93 #[.val (.int p1), .val (.int p2), .val (.int p3), .val (.int p4), .val (.int p5), .val (.int (0 : Int32)), .val (.int r1), .val (.int r2), .val (.int r3), .val (.int rel), .val (.ref b7), .unset, .unset, .unset, .unset, .unset, .unset, .unset, .unset, .unset, .unset, .unset, .unset] [(.int rel), (.ref b7)])) rfl (by rw [hml]; rfl) (argsL := [(.ref b7), (.int rel)]) (rest := []) (lenOf pd_1 rfl) rfl (by show 2 * 0 + _ ≤ _; exact Nat.le_of_eq rfl) (hb hby at_93) (fun _ _ => ⟨rfl, e7, (by decide : 1 + 0 ≤ _), (by decide : 0 + 0 ≤ _)⟩)
      dsimp only [Pt.U, Pt.locs, Pt.cells, Pt.slots] at X9 l9 y9 z9 st9 hQ9
      subst l9 y9 z9
      obtain ⟨rfl, Nq9, e9⟩ := hQ9
      have N9 := Fr.app N5 Nq9
      obtain ⟨fs, hr, hrun, hended, hW, hsame⟩ := X9.leave (v := some (.int (1 : Int32))) (fun h => by rw [Bd.returns] at h; cases h)
      refine ⟨_, _, ?_, hrun, hended, _, _, rfl, ?_, ⟨_, rfl⟩, hW, hsame.mono (by decide) (by decide)⟩
      · refine hA0 _ ?_
        refine k8 _ ?_
        refine st9 _ ?_
        show Steps p.tables e below (T9.setTop (mkF m 96 #[.val (.int p1), .val (.int p2), .val (.int p3), .val (.int p4), .val (.int p5), .val (.int (0 : Int32)), .val (.int r1), .val (.int r2), .val (.int r3), .val (.int rel), .val (.ref b7), .unset, .unset, .unset, .unset, .unset, .unset, .unset, .unset, .unset, .unset, .unset, .unset] [(.double (0 : UInt64))])) _
        refine own_f_dstore X9.here hx (hb hby at_96) (rfl : storeLocals _ _ _ = some #[.val (.int p1), .val (.int p2), .val (.int p3), .val (.int p4), .val (.int p5), .val (.int (0 : Int32)), .val (.int r1), .val (.int r2), .val (.int r3), .val (.int rel), .val (.ref b7), .val (.double (0 : UInt64)), .second, .unset, .unset, .unset, .unset, .unset, .unset, .unset, .unset, .unset, .unset]) (rfl : _ = 98) ?_
        refine own_f_iload X9.here hx (hb hby at_98) rfl (rfl : _ = 100) ?_
        refine own_f_ifNo X9.here hx (hb hby at_100) ((if0 _ _).trans (teq (hz)).2) (rfl : _ = 103) ?_
        refine own_f_dconst0 X9.here hx (hb hby at_103) (rfl : _ = (0 : UInt64)) (rfl : _ = 104) ?_
        refine own_f_dstore X9.here hx (hb hby at_104) (rfl : storeLocals _ _ _ = some #[.val (.int p1), .val (.int p2), .val (.int p3), .val (.int p4), .val (.int p5), .val (.int (0 : Int32)), .val (.int r1), .val (.int r2), .val (.int r3), .val (.int rel), .val (.ref b7), .val (.double (0 : UInt64)), .second, .val (.double (0 : UInt64)), .second, .unset, .unset, .unset, .unset, .unset, .unset, .unset, .unset]) (rfl : _ = 106) ?_
        refine own_f_goto X9.here hx (hb hby at_106) (by decide) (by decide : _ = 184) ?_
        refine own_f_dload X9.here hx (hb hby at_184) rfl (rfl : _ = 186) ?_
        refine own_f_dload X9.here hx (hb hby at_186) rfl (rfl : _ = 188) ?_
        refine own_f_dcmp X9.here hx (hb hby at_188) rfl (rfl : _ = 189) ?_
        refine own_f_ifNo X9.here hx (hb hby at_189) ((if0 _ _).trans (teq (dcmpV_self own_z0 .l)).2) (rfl : _ = 192) ?_
        refine own_f_iconst X9.here hx (hb hby at_192) (rfl : _ = (1 : Int32)) (rfl : _ = 193) ?_
        refine own_f_goto X9.here hx (hb hby at_193) (by decide) (by decide : _ = 197) ?_
        exact retN X9 hx (t := .boolean) Bd.returns (by simp) (hb hby at_197) hr
      · show Q0 Z p1 p2 p3 p4 p5 h0 n0 _ T9.heap _
        rw [e9]
        exact ⟨rfl, N9⟩
    · obtain ⟨_, _, ⟨T10, L10, k10_, n10⟩, -, X10, ⟨Lc10, hQ10, l10, y10, z10⟩, st10⟩ := Jvm.LawKit.callS X7 hx (y := (⟨"com/example/prose_to_query/prosetoquery/retrieval/Measure", "averagePrecision", "([II)D"⟩ : MethodName)) hown (mvT hZ (hw _ (List.mem_of_getElem? (i := 7) rfl))) (mvT hZ (hw _ (List.mem_of_getElem? (i := 8) rfl))) (mvT hZ (hw _ (List.mem_of_getElem? (i := 9) rfl))) (mvT hZ (hw _ (List.mem_of_getElem? (i := 10) rfl))) (by decide) (backOf (W := 0) (rm2_0 l Z a0 hw [] b7 rel _  h7 n0 Zs7 V_b7 hz  ) hZ (hw _ (List.mem_of_getElem? (i := 10) rfl)) (hw _ (List.mem_of_getElem? (i := 9) rfl)) (by decide) (by decide)) (g := (mkF m 93 #[.val (.int p1), .val (.int p2), .val (.int p3), .val (.int p4), .val (.int p5), .val (.int (0 : Int32)), .val (.int r1), .val (.int r2), .val (.int r3), .val (.int rel), .val (.ref b7), .unset, .unset, .unset, .unset, .unset, .unset, .unset, .unset, .unset, .unset, .unset, .unset] [(.int rel), (.ref b7)])) rfl (by rw [hml]; rfl) (argsL := [(.ref b7), (.int rel)]) (rest := []) (lenOf pd_1 rfl) rfl (by show 2 * 0 + _ ≤ _; exact Nat.le_of_eq rfl) (hb hby at_93) (fun _ _ => ⟨rfl, e7, (by decide : 1 + 0 ≤ _), (by decide : 0 + 0 ≤ _)⟩)
      dsimp only [Pt.U, Pt.locs, Pt.cells, Pt.slots] at X10 l10 y10 z10 st10 hQ10
      subst l10 y10 z10
      obtain ⟨rfl, Nq10, e10⟩ := hQ10
      have N10 := Fr.app N5 Nq10
      obtain ⟨fs, hr, hrun, hended, hW, hsame⟩ := X10.leave (v := some (.int (1 : Int32))) (fun h => by rw [Bd.returns] at h; cases h)
      refine ⟨_, _, ?_, hrun, hended, _, _, rfl, ?_, ⟨_, rfl⟩, hW, hsame.mono (by decide) (by decide)⟩
      · refine hA0 _ ?_
        refine k8 _ ?_
        refine st10 _ ?_
        show Steps p.tables e below (T10.setTop (mkF m 96 #[.val (.int p1), .val (.int p2), .val (.int p3), .val (.int p4), .val (.int p5), .val (.int (0 : Int32)), .val (.int r1), .val (.int r2), .val (.int r3), .val (.int rel), .val (.ref b7), .unset, .unset, .unset, .unset, .unset, .unset, .unset, .unset, .unset, .unset, .unset, .unset] [(.double (FP.ddiv (0 : UInt64) (FP.i2d rel)))])) _
        refine own_f_dstore X10.here hx (hb hby at_96) (rfl : storeLocals _ _ _ = some #[.val (.int p1), .val (.int p2), .val (.int p3), .val (.int p4), .val (.int p5), .val (.int (0 : Int32)), .val (.int r1), .val (.int r2), .val (.int r3), .val (.int rel), .val (.ref b7), .val (.double (FP.ddiv (0 : UInt64) (FP.i2d rel))), .second, .unset, .unset, .unset, .unset, .unset, .unset, .unset, .unset, .unset, .unset]) (rfl : _ = 98) ?_
        refine own_f_iload X10.here hx (hb hby at_98) rfl (rfl : _ = 100) ?_
        refine own_f_ifYes X10.here hx (hb hby at_100) ((if0 _ _).trans (feq (hz)).2) (by decide) (by decide : _ = 109) ?_
        refine own_f_dconst1 X10.here hx (hb hby at_109) (rfl : _ = (4607182418800017408 : UInt64)) (rfl : _ = 110) ?_
        refine own_f_iload X10.here hx (hb hby at_110) rfl (rfl : _ = 112) ?_
        refine own_f_i2d X10.here hx (hb hby at_112) rfl (rfl : _ = 113) ?_
        refine own_f_ddiv X10.here hx (hb hby at_113) (own_qnn own_cfin1 hr1) rfl (rfl : _ = 114) ?_
        refine own_f_dstore X10.here hx (hb hby at_114) (rfl : storeLocals _ _ _ = some #[.val (.int p1), .val (.int p2), .val (.int p3), .val (.int p4), .val (.int p5), .val (.int (0 : Int32)), .val (.int r1), .val (.int r2), .val (.int r3), .val (.int rel), .val (.ref b7), .val (.double (FP.ddiv (0 : UInt64) (FP.i2d rel))), .second, .unset, .unset, .val (.double (FP.ddiv (4607182418800017408 : UInt64) (FP.i2d r1))), .second, .unset, .unset, .unset, .unset, .unset, .unset]) (rfl : _ = 116) ?_
        refine own_f_ldc2DoubleC X10 hx hown (mvT hZ (hw _ (List.mem_of_getElem? (i := 11) rfl))) (hb hby at_116) (rfl : _ = 119) ?_
        refine own_f_iload X10.here hx (hb hby at_119) rfl (rfl : _ = 121) ?_
        refine own_f_i2d X10.here hx (hb hby at_121) rfl (rfl : _ = 122) ?_
        refine own_f_ddiv X10.here hx (hb hby at_122) (own_qnn own_cfin2 hr2) rfl (rfl : _ = 123) ?_
        refine own_f_dstore X10.here hx (hb hby at_123) (rfl : storeLocals _ _ _ = some #[.val (.int p1), .val (.int p2), .val (.int p3), .val (.int p4), .val (.int p5), .val (.int (0 : Int32)), .val (.int r1), .val (.int r2), .val (.int r3), .val (.int rel), .val (.ref b7), .val (.double (FP.ddiv (0 : UInt64) (FP.i2d rel))), .second, .unset, .unset, .val (.double (FP.ddiv (4607182418800017408 : UInt64) (FP.i2d r1))), .second, .val (.double (FP.ddiv (4611686018427387904 : UInt64) (FP.i2d r2))), .second, .unset, .unset, .unset, .unset]) (rfl : _ = 125) ?_
        refine own_f_ldc2DoubleC X10 hx hown (mvT hZ (hw _ (List.mem_of_getElem? (i := 12) rfl))) (hb hby at_125) (rfl : _ = 128) ?_
        refine own_f_iload X10.here hx (hb hby at_128) rfl (rfl : _ = 130) ?_
        refine own_f_i2d X10.here hx (hb hby at_130) rfl (rfl : _ = 131) ?_
        refine own_f_ddiv X10.here hx (hb hby at_131) (own_qnn own_cfin3 hr3) rfl (rfl : _ = 132) ?_
        refine own_f_dstore X10.here hx (hb hby at_132) (rfl : storeLocals _ _ _ = some #[.val (.int p1), .val (.int p2), .val (.int p3), .val (.int p4), .val (.int p5), .val (.int (0 : Int32)), .val (.int r1), .val (.int r2), .val (.int r3), .val (.int rel), .val (.ref b7), .val (.double (FP.ddiv (0 : UInt64) (FP.i2d rel))), .second, .unset, .unset, .val (.double (FP.ddiv (4607182418800017408 : UInt64) (FP.i2d r1))), .second, .val (.double (FP.ddiv (4611686018427387904 : UInt64) (FP.i2d r2))), .second, .val (.double (FP.ddiv (4613937818241073152 : UInt64) (FP.i2d r3))), .second, .unset, .unset]) (rfl : _ = 134) ?_
        refine own_f_dconst0 X10.here hx (hb hby at_134) (rfl : _ = (0 : UInt64)) (rfl : _ = 135) ?_
        refine own_f_dstore X10.here hx (hb hby at_135) (rfl : storeLocals _ _ _ = some #[.val (.int p1), .val (.int p2), .val (.int p3), .val (.int p4), .val (.int p5), .val (.int (0 : Int32)), .val (.int r1), .val (.int r2), .val (.int r3), .val (.int rel), .val (.ref b7), .val (.double (FP.ddiv (0 : UInt64) (FP.i2d rel))), .second, .unset, .unset, .val (.double (FP.ddiv (4607182418800017408 : UInt64) (FP.i2d r1))), .second, .val (.double (FP.ddiv (4611686018427387904 : UInt64) (FP.i2d r2))), .second, .val (.double (FP.ddiv (4613937818241073152 : UInt64) (FP.i2d r3))), .second, .val (.double (0 : UInt64)), .second]) (rfl : _ = 137) ?_
        refine own_f_iload X10.here hx (hb hby at_137) rfl (rfl : _ = 139) ?_
        refine own_f_iconst X10.here hx (hb hby at_139) (rfl : _ = (1 : Int32)) (rfl : _ = 140) ?_
        refine own_f_icmpYes X10.here hx (hb hby at_140) (tlt (by decide)).1 (by decide) (by decide : _ = 150) ?_
        refine own_f_iload X10.here hx (hb hby at_150) rfl (rfl : _ = 152) ?_
        refine own_f_iconst X10.here hx (hb hby at_152) (rfl : _ = (2 : Int32)) (rfl : _ = 153) ?_
        refine own_f_icmpYes X10.here hx (hb hby at_153) (tlt (by decide)).1 (by decide) (by decide : _ = 163) ?_
        refine own_f_iload X10.here hx (hb hby at_163) rfl (rfl : _ = 165) ?_
        refine own_f_iconst X10.here hx (hb hby at_165) (rfl : _ = (3 : Int32)) (rfl : _ = 166) ?_
        refine own_f_icmpYes X10.here hx (hb hby at_166) (tlt (by decide)).1 (by decide) (by decide : _ = 176) ?_
        refine own_f_dload X10.here hx (hb hby at_176) rfl (rfl : _ = 178) ?_
        refine own_f_iload X10.here hx (hb hby at_178) rfl (rfl : _ = 180) ?_
        refine own_f_i2d X10.here hx (hb hby at_180) rfl (rfl : _ = 181) ?_
        refine own_f_ddiv X10.here hx (hb hby at_181) (own_dnn own_z0 hz) rfl (rfl : _ = 182) ?_
        refine own_f_dstore X10.here hx (hb hby at_182) (rfl : storeLocals _ _ _ = some #[.val (.int p1), .val (.int p2), .val (.int p3), .val (.int p4), .val (.int p5), .val (.int (0 : Int32)), .val (.int r1), .val (.int r2), .val (.int r3), .val (.int rel), .val (.ref b7), .val (.double (FP.ddiv (0 : UInt64) (FP.i2d rel))), .second, .val (.double (FP.ddiv (0 : UInt64) (FP.i2d rel))), .second, .val (.double (FP.ddiv (4607182418800017408 : UInt64) (FP.i2d r1))), .second, .val (.double (FP.ddiv (4611686018427387904 : UInt64) (FP.i2d r2))), .second, .val (.double (FP.ddiv (4613937818241073152 : UInt64) (FP.i2d r3))), .second, .val (.double (0 : UInt64)), .second]) (rfl : _ = 184) ?_
        refine own_f_dload X10.here hx (hb hby at_184) rfl (rfl : _ = 186) ?_
        refine own_f_dload X10.here hx (hb hby at_186) rfl (rfl : _ = 188) ?_
        refine own_f_dcmp X10.here hx (hb hby at_188) rfl (rfl : _ = 189) ?_
        refine own_f_ifNo X10.here hx (hb hby at_189) ((if0 _ _).trans (teq (dcmpV_self (own_dnn own_z0 hz) .l)).2) (rfl : _ = 192) ?_
        refine own_f_iconst X10.here hx (hb hby at_192) (rfl : _ = (1 : Int32)) (rfl : _ = 193) ?_
        refine own_f_goto X10.here hx (hb hby at_193) (by decide) (by decide : _ = 197) ?_
        exact retN X10 hx (t := .boolean) Bd.returns (by simp) (hb hby at_197) hr
      · show Q0 Z p1 p2 p3 p4 p5 h0 n0 _ T10.heap _
        rw [e10]
        exact ⟨rfl, N10⟩
  · obtain ⟨T11, h11, c11, X11, e11, E11, A11, st11⟩ := newP X5 hx hZ (hw _ (List.mem_of_getElem? (i := 6) rfl)) e5 (g := (mkF m 49 #[.val (.int p1), .val (.int p2), .val (.int p3), .val (.int p4), .val (.int p5), .val (.int (1 : Int32)), .val (.int r1), .val (.int r2), .val (.int r3), .val (.int rel), .unset, .unset, .unset, .unset, .unset, .unset, .unset, .unset, .unset, .unset, .unset, .unset, .unset] [(.int (1 : Int32))])) rfl (hb hby at_49) rfl (by decide) (cap := 1) (by decide) (by decide) (by decide) (by decide)
    obtain ⟨b11, g11⟩ : ∃ z, z = h0.size := ⟨_, rfl⟩
    rw [← g11] at A11 st11
    have g_b11 : n0 ≤ b11 := Nat.le_trans Z0 (Nat.le_of_eq g11.symm)
    have Zs11 := Nat.le_trans Z0 E11.1
    have V_b11 : Arv Z h11 b11 c11 .int (1 : Int32) [(.int (0 : Int32))] (.int (0 : Int32)) := (Arv.new A11 (by decide)).pad (pad_rep [] (.int (0 : Int32)) 1)
    obtain ⟨cl12, Ar12, q12, Sz12, Ng12, Hs12, Gs12⟩ := V_b11
    have hin12 : ¬ ((0 : Int32) < 0 ∨ cl12.slots.size ≤ ((0 : Int32)).toNatClampNeg) := inb_of Sz12 ⟨by decide, by decide⟩
    obtain ⟨T13, h13, X13, e13, W13, st13⟩ := stI X11 hx hZ e11 Ar12 (j := (0 : Int32)) hin12 (g := (mkF m 64 #[.val (.int p1), .val (.int p2), .val (.int p3), .val (.int p4), .val (.int p5), .val (.int (1 : Int32)), .val (.int r1), .val (.int r2), .val (.int r3), .val (.int rel), .val (.ref b11), .unset, .unset, .unset, .unset, .unset, .unset, .unset, .unset, .unset, .unset, .unset, .unset] [(.int r1), (.int (0 : Int32)), (.ref b11)])) rfl rfl (hb hby at_64)
    have Zs13 := Nat.le_trans Zs11 (Keep.of_wr W13).1
    have V_b11 : Arv Z h13 b11 c11 .int (1 : Int32) [(.int r1)] (.int (0 : Int32)) := Arv.set Ar12 q12 Sz12 Ng12 Hs12 Gs12 rfl W13 0 rfl (Nat.le_of_ble_eq_true rfl)
    have N13 := Fr.snoc X13 N5 g_b11
    have hz : ¬ (rel = (0 : Int32)) := hpos (by decide)
    obtain ⟨_, _, ⟨T14, L14, k14_, n14⟩, -, X14, ⟨Lc14, hQ14, l14, y14, z14⟩, st14⟩ := Jvm.LawKit.callS X13 hx (y := (⟨"com/example/prose_to_query/prosetoquery/retrieval/Measure", "averagePrecision", "([II)D"⟩ : MethodName)) hown (mvT hZ (hw _ (List.mem_of_getElem? (i := 7) rfl))) (mvT hZ (hw _ (List.mem_of_getElem? (i := 8) rfl))) (mvT hZ (hw _ (List.mem_of_getElem? (i := 9) rfl))) (mvT hZ (hw _ (List.mem_of_getElem? (i := 10) rfl))) (by decide) (backOf (W := 0) (rm2_1 l Z a0 hw [] b11 rel _ r1 h13 n0 Zs13 V_b11 hz hr1 hs1) hZ (hw _ (List.mem_of_getElem? (i := 10) rfl)) (hw _ (List.mem_of_getElem? (i := 9) rfl)) (by decide) (by decide)) (g := (mkF m 93 #[.val (.int p1), .val (.int p2), .val (.int p3), .val (.int p4), .val (.int p5), .val (.int (1 : Int32)), .val (.int r1), .val (.int r2), .val (.int r3), .val (.int rel), .val (.ref b11), .unset, .unset, .unset, .unset, .unset, .unset, .unset, .unset, .unset, .unset, .unset, .unset] [(.int rel), (.ref b11)])) rfl (by rw [hml]; rfl) (argsL := [(.ref b11), (.int rel)]) (rest := []) (lenOf pd_1 rfl) rfl (by show 2 * 0 + _ ≤ _; exact Nat.le_of_eq rfl) (hb hby at_93) (fun _ _ => ⟨rfl, e13, (by decide : 1 + 0 ≤ _), (by decide : 1 + 0 ≤ _)⟩)
    dsimp only [Pt.U, Pt.locs, Pt.cells, Pt.slots] at X14 l14 y14 z14 st14 hQ14
    subst l14 y14 z14
    obtain ⟨rfl, Nq14, e14⟩ := hQ14
    have N14 := Fr.app N13 Nq14
    obtain ⟨fs, hr, hrun, hended, hW, hsame⟩ := X14.leave (v := some (.int (1 : Int32))) (fun h => by rw [Bd.returns] at h; cases h)
    refine ⟨_, _, ?_, hrun, hended, _, _, rfl, ?_, ⟨_, rfl⟩, hW, hsame.mono (by decide) (by decide)⟩
    · refine hA0 _ ?_
      refine k6 _ ?_
      refine own_f_iload X5.here hx (hb hby at_47) rfl (rfl : _ = 49) ?_
      refine st11 _ ?_
      show Steps p.tables e below (T11.setTop (mkF m 51 #[.val (.int p1), .val (.int p2), .val (.int p3), .val (.int p4), .val (.int p5), .val (.int (1 : Int32)), .val (.int r1), .val (.int r2), .val (.int r3), .val (.int rel), .unset, .unset, .unset, .unset, .unset, .unset, .unset, .unset, .unset, .unset, .unset, .unset, .unset] [(.ref b11)])) _
      refine own_f_astore X11.here hx (hb hby at_51) rfl (rfl : storeLocals _ _ _ = some #[.val (.int p1), .val (.int p2), .val (.int p3), .val (.int p4), .val (.int p5), .val (.int (1 : Int32)), .val (.int r1), .val (.int r2), .val (.int r3), .val (.int rel), .val (.ref b11), .unset, .unset, .unset, .unset, .unset, .unset, .unset, .unset, .unset, .unset, .unset, .unset]) (rfl : _ = 53) ?_
      refine own_f_iload X11.here hx (hb hby at_53) rfl (rfl : _ = 55) ?_
      refine own_f_iconst X11.here hx (hb hby at_55) (rfl : _ = (1 : Int32)) (rfl : _ = 56) ?_
      refine own_f_icmpNo X11.here hx (hb hby at_56) (flt (by decide)).1 (rfl : _ = 59) ?_
      refine own_f_aload X11.here hx (hb hby at_59) rfl rfl (rfl : _ = 61) ?_
      refine own_f_iconst X11.here hx (hb hby at_61) (rfl : _ = (0 : Int32)) (rfl : _ = 62) ?_
      refine own_f_iload X11.here hx (hb hby at_62) rfl (rfl : _ = 64) ?_
      refine st13 _ ?_
      show Steps p.tables e below (T13.setTop (mkF m 65 #[.val (.int p1), .val (.int p2), .val (.int p3), .val (.int p4), .val (.int p5), .val (.int (1 : Int32)), .val (.int r1), .val (.int r2), .val (.int r3), .val (.int rel), .val (.ref b11), .unset, .unset, .unset, .unset, .unset, .unset, .unset, .unset, .unset, .unset, .unset, .unset] [])) _
      refine own_f_iload X13.here hx (hb hby at_65) rfl (rfl : _ = 67) ?_
      refine own_f_iconst X13.here hx (hb hby at_67) (rfl : _ = (2 : Int32)) (rfl : _ = 68) ?_
      refine own_f_icmpYes X13.here hx (hb hby at_68) (tlt (by decide)).1 (by decide) (by decide : _ = 77) ?_
      refine own_f_iload X13.here hx (hb hby at_77) rfl (rfl : _ = 79) ?_
      refine own_f_iconst X13.here hx (hb hby at_79) (rfl : _ = (3 : Int32)) (rfl : _ = 80) ?_
      refine own_f_icmpYes X13.here hx (hb hby at_80) (tlt (by decide)).1 (by decide) (by decide : _ = 89) ?_
      refine own_f_aload X13.here hx (hb hby at_89) rfl rfl (rfl : _ = 91) ?_
      refine own_f_iload X13.here hx (hb hby at_91) rfl (rfl : _ = 93) ?_
      refine st14 _ ?_
      show Steps p.tables e below (T14.setTop (mkF m 96 #[.val (.int p1), .val (.int p2), .val (.int p3), .val (.int p4), .val (.int p5), .val (.int (1 : Int32)), .val (.int r1), .val (.int r2), .val (.int r3), .val (.int rel), .val (.ref b11), .unset, .unset, .unset, .unset, .unset, .unset, .unset, .unset, .unset, .unset, .unset, .unset] [(.double (FP.ddiv (FP.dadd (0 : UInt64) (FP.ddiv (4607182418800017408 : UInt64) (FP.i2d r1))) (FP.i2d rel)))])) _
      refine own_f_dstore X14.here hx (hb hby at_96) (rfl : storeLocals _ _ _ = some #[.val (.int p1), .val (.int p2), .val (.int p3), .val (.int p4), .val (.int p5), .val (.int (1 : Int32)), .val (.int r1), .val (.int r2), .val (.int r3), .val (.int rel), .val (.ref b11), .val (.double (FP.ddiv (FP.dadd (0 : UInt64) (FP.ddiv (4607182418800017408 : UInt64) (FP.i2d r1))) (FP.i2d rel))), .second, .unset, .unset, .unset, .unset, .unset, .unset, .unset, .unset, .unset, .unset]) (rfl : _ = 98) ?_
      refine own_f_iload X14.here hx (hb hby at_98) rfl (rfl : _ = 100) ?_
      refine own_f_ifYes X14.here hx (hb hby at_100) ((if0 _ _).trans (feq (hz)).2) (by decide) (by decide : _ = 109) ?_
      refine own_f_dconst1 X14.here hx (hb hby at_109) (rfl : _ = (4607182418800017408 : UInt64)) (rfl : _ = 110) ?_
      refine own_f_iload X14.here hx (hb hby at_110) rfl (rfl : _ = 112) ?_
      refine own_f_i2d X14.here hx (hb hby at_112) rfl (rfl : _ = 113) ?_
      refine own_f_ddiv X14.here hx (hb hby at_113) (own_qnn own_cfin1 hr1) rfl (rfl : _ = 114) ?_
      refine own_f_dstore X14.here hx (hb hby at_114) (rfl : storeLocals _ _ _ = some #[.val (.int p1), .val (.int p2), .val (.int p3), .val (.int p4), .val (.int p5), .val (.int (1 : Int32)), .val (.int r1), .val (.int r2), .val (.int r3), .val (.int rel), .val (.ref b11), .val (.double (FP.ddiv (FP.dadd (0 : UInt64) (FP.ddiv (4607182418800017408 : UInt64) (FP.i2d r1))) (FP.i2d rel))), .second, .unset, .unset, .val (.double (FP.ddiv (4607182418800017408 : UInt64) (FP.i2d r1))), .second, .unset, .unset, .unset, .unset, .unset, .unset]) (rfl : _ = 116) ?_
      refine own_f_ldc2DoubleC X14 hx hown (mvT hZ (hw _ (List.mem_of_getElem? (i := 11) rfl))) (hb hby at_116) (rfl : _ = 119) ?_
      refine own_f_iload X14.here hx (hb hby at_119) rfl (rfl : _ = 121) ?_
      refine own_f_i2d X14.here hx (hb hby at_121) rfl (rfl : _ = 122) ?_
      refine own_f_ddiv X14.here hx (hb hby at_122) (own_qnn own_cfin2 hr2) rfl (rfl : _ = 123) ?_
      refine own_f_dstore X14.here hx (hb hby at_123) (rfl : storeLocals _ _ _ = some #[.val (.int p1), .val (.int p2), .val (.int p3), .val (.int p4), .val (.int p5), .val (.int (1 : Int32)), .val (.int r1), .val (.int r2), .val (.int r3), .val (.int rel), .val (.ref b11), .val (.double (FP.ddiv (FP.dadd (0 : UInt64) (FP.ddiv (4607182418800017408 : UInt64) (FP.i2d r1))) (FP.i2d rel))), .second, .unset, .unset, .val (.double (FP.ddiv (4607182418800017408 : UInt64) (FP.i2d r1))), .second, .val (.double (FP.ddiv (4611686018427387904 : UInt64) (FP.i2d r2))), .second, .unset, .unset, .unset, .unset]) (rfl : _ = 125) ?_
      refine own_f_ldc2DoubleC X14 hx hown (mvT hZ (hw _ (List.mem_of_getElem? (i := 12) rfl))) (hb hby at_125) (rfl : _ = 128) ?_
      refine own_f_iload X14.here hx (hb hby at_128) rfl (rfl : _ = 130) ?_
      refine own_f_i2d X14.here hx (hb hby at_130) rfl (rfl : _ = 131) ?_
      refine own_f_ddiv X14.here hx (hb hby at_131) (own_qnn own_cfin3 hr3) rfl (rfl : _ = 132) ?_
      refine own_f_dstore X14.here hx (hb hby at_132) (rfl : storeLocals _ _ _ = some #[.val (.int p1), .val (.int p2), .val (.int p3), .val (.int p4), .val (.int p5), .val (.int (1 : Int32)), .val (.int r1), .val (.int r2), .val (.int r3), .val (.int rel), .val (.ref b11), .val (.double (FP.ddiv (FP.dadd (0 : UInt64) (FP.ddiv (4607182418800017408 : UInt64) (FP.i2d r1))) (FP.i2d rel))), .second, .unset, .unset, .val (.double (FP.ddiv (4607182418800017408 : UInt64) (FP.i2d r1))), .second, .val (.double (FP.ddiv (4611686018427387904 : UInt64) (FP.i2d r2))), .second, .val (.double (FP.ddiv (4613937818241073152 : UInt64) (FP.i2d r3))), .second, .unset, .unset]) (rfl : _ = 134) ?_
      refine own_f_dconst0 X14.here hx (hb hby at_134) (rfl : _ = (0 : UInt64)) (rfl : _ = 135) ?_
      refine own_f_dstore X14.here hx (hb hby at_135) (rfl : storeLocals _ _ _ = some #[.val (.int p1), .val (.int p2), .val (.int p3), .val (.int p4), .val (.int p5), .val (.int (1 : Int32)), .val (.int r1), .val (.int r2), .val (.int r3), .val (.int rel), .val (.ref b11), .val (.double (FP.ddiv (FP.dadd (0 : UInt64) (FP.ddiv (4607182418800017408 : UInt64) (FP.i2d r1))) (FP.i2d rel))), .second, .unset, .unset, .val (.double (FP.ddiv (4607182418800017408 : UInt64) (FP.i2d r1))), .second, .val (.double (FP.ddiv (4611686018427387904 : UInt64) (FP.i2d r2))), .second, .val (.double (FP.ddiv (4613937818241073152 : UInt64) (FP.i2d r3))), .second, .val (.double (0 : UInt64)), .second]) (rfl : _ = 137) ?_
      refine own_f_iload X14.here hx (hb hby at_137) rfl (rfl : _ = 139) ?_
      refine own_f_iconst X14.here hx (hb hby at_139) (rfl : _ = (1 : Int32)) (rfl : _ = 140) ?_
      refine own_f_icmpNo X14.here hx (hb hby at_140) (flt (by decide)).1 (rfl : _ = 143) ?_
      refine own_f_dload X14.here hx (hb hby at_143) rfl (rfl : _ = 145) ?_
      refine own_f_dload X14.here hx (hb hby at_145) rfl (rfl : _ = 147) ?_
      refine own_f_dadd X14.here hx (hb hby at_147) (hs1) rfl (rfl : _ = 148) ?_
      refine own_f_dstore X14.here hx (hb hby at_148) (rfl : storeLocals _ _ _ = some #[.val (.int p1), .val (.int p2), .val (.int p3), .val (.int p4), .val (.int p5), .val (.int (1 : Int32)), .val (.int r1), .val (.int r2), .val (.int r3), .val (.int rel), .val (.ref b11), .val (.double (FP.ddiv (FP.dadd (0 : UInt64) (FP.ddiv (4607182418800017408 : UInt64) (FP.i2d r1))) (FP.i2d rel))), .second, .unset, .unset, .val (.double (FP.ddiv (4607182418800017408 : UInt64) (FP.i2d r1))), .second, .val (.double (FP.ddiv (4611686018427387904 : UInt64) (FP.i2d r2))), .second, .val (.double (FP.ddiv (4613937818241073152 : UInt64) (FP.i2d r3))), .second, .val (.double (FP.dadd (0 : UInt64) (FP.ddiv (4607182418800017408 : UInt64) (FP.i2d r1)))), .second]) (rfl : _ = 150) ?_
      refine own_f_iload X14.here hx (hb hby at_150) rfl (rfl : _ = 152) ?_
      refine own_f_iconst X14.here hx (hb hby at_152) (rfl : _ = (2 : Int32)) (rfl : _ = 153) ?_
      refine own_f_icmpYes X14.here hx (hb hby at_153) (tlt (by decide)).1 (by decide) (by decide : _ = 163) ?_
      refine own_f_iload X14.here hx (hb hby at_163) rfl (rfl : _ = 165) ?_
      refine own_f_iconst X14.here hx (hb hby at_165) (rfl : _ = (3 : Int32)) (rfl : _ = 166) ?_
      refine own_f_icmpYes X14.here hx (hb hby at_166) (tlt (by decide)).1 (by decide) (by decide : _ = 176) ?_
      refine own_f_dload X14.here hx (hb hby at_176) rfl (rfl : _ = 178) ?_
      refine own_f_iload X14.here hx (hb hby at_178) rfl (rfl : _ = 180) ?_
      refine own_f_i2d X14.here hx (hb hby at_180) rfl (rfl : _ = 181) ?_
      refine own_f_ddiv X14.here hx (hb hby at_181) (own_dnn hs1 hz) rfl (rfl : _ = 182) ?_
      refine own_f_dstore X14.here hx (hb hby at_182) (rfl : storeLocals _ _ _ = some #[.val (.int p1), .val (.int p2), .val (.int p3), .val (.int p4), .val (.int p5), .val (.int (1 : Int32)), .val (.int r1), .val (.int r2), .val (.int r3), .val (.int rel), .val (.ref b11), .val (.double (FP.ddiv (FP.dadd (0 : UInt64) (FP.ddiv (4607182418800017408 : UInt64) (FP.i2d r1))) (FP.i2d rel))), .second, .val (.double (FP.ddiv (FP.dadd (0 : UInt64) (FP.ddiv (4607182418800017408 : UInt64) (FP.i2d r1))) (FP.i2d rel))), .second, .val (.double (FP.ddiv (4607182418800017408 : UInt64) (FP.i2d r1))), .second, .val (.double (FP.ddiv (4611686018427387904 : UInt64) (FP.i2d r2))), .second, .val (.double (FP.ddiv (4613937818241073152 : UInt64) (FP.i2d r3))), .second, .val (.double (FP.dadd (0 : UInt64) (FP.ddiv (4607182418800017408 : UInt64) (FP.i2d r1)))), .second]) (rfl : _ = 184) ?_
      refine own_f_dload X14.here hx (hb hby at_184) rfl (rfl : _ = 186) ?_
      refine own_f_dload X14.here hx (hb hby at_186) rfl (rfl : _ = 188) ?_
      refine own_f_dcmp X14.here hx (hb hby at_188) rfl (rfl : _ = 189) ?_
      refine own_f_ifNo X14.here hx (hb hby at_189) ((if0 _ _).trans (teq (dcmpV_self (own_dnn hs1 hz) .l)).2) (rfl : _ = 192) ?_
      refine own_f_iconst X14.here hx (hb hby at_192) (rfl : _ = (1 : Int32)) (rfl : _ = 193) ?_
      refine own_f_goto X14.here hx (hb hby at_193) (by decide) (by decide : _ = 197) ?_
      exact retN X14 hx (t := .boolean) Bd.returns (by simp) (hb hby at_197) hr
    · show Q0 Z p1 p2 p3 p4 p5 h0 n0 _ T14.heap _
      rw [e14]
      exact ⟨rfl, N14⟩
  · obtain ⟨T15, h15, c15, X15, e15, E15, A15, st15⟩ := newP X5 hx hZ (hw _ (List.mem_of_getElem? (i := 6) rfl)) e5 (g := (mkF m 49 #[.val (.int p1), .val (.int p2), .val (.int p3), .val (.int p4), .val (.int p5), .val (.int (2 : Int32)), .val (.int r1), .val (.int r2), .val (.int r3), .val (.int rel), .unset, .unset, .unset, .unset, .unset, .unset, .unset, .unset, .unset, .unset, .unset, .unset, .unset] [(.int (2 : Int32))])) rfl (hb hby at_49) rfl (by decide) (cap := 2) (by decide) (by decide) (by decide) (by decide)
    obtain ⟨b15, g15⟩ : ∃ z, z = h0.size := ⟨_, rfl⟩
    rw [← g15] at A15 st15
    have g_b15 : n0 ≤ b15 := Nat.le_trans Z0 (Nat.le_of_eq g15.symm)
    have Zs15 := Nat.le_trans Z0 E15.1
    have V_b15 : Arv Z h15 b15 c15 .int (2 : Int32) [(.int (0 : Int32)), (.int (0 : Int32))] (.int (0 : Int32)) := (Arv.new A15 (by decide)).pad (pad_rep [] (.int (0 : Int32)) 2)
    obtain ⟨cl16, Ar16, q16, Sz16, Ng16, Hs16, Gs16⟩ := V_b15
    have hin16 : ¬ ((0 : Int32) < 0 ∨ cl16.slots.size ≤ ((0 : Int32)).toNatClampNeg) := inb_of Sz16 ⟨by decide, by decide⟩
    obtain ⟨T17, h17, X17, e17, W17, st17⟩ := stI X15 hx hZ e15 Ar16 (j := (0 : Int32)) hin16 (g := (mkF m 64 #[.val (.int p1), .val (.int p2), .val (.int p3), .val (.int p4), .val (.int p5), .val (.int (2 : Int32)), .val (.int r1), .val (.int r2), .val (.int r3), .val (.int rel), .val (.ref b15), .unset, .unset, .unset, .unset, .unset, .unset, .unset, .unset, .unset, .unset, .unset, .unset] [(.int r1), (.int (0 : Int32)), (.ref b15)])) rfl rfl (hb hby at_64)
    have Zs17 := Nat.le_trans Zs15 (Keep.of_wr W17).1
    have V_b15 : Arv Z h17 b15 c15 .int (2 : Int32) [(.int r1), (.int (0 : Int32))] (.int (0 : Int32)) := Arv.set Ar16 q16 Sz16 Ng16 Hs16 Gs16 rfl W17 0 rfl (Nat.le_of_ble_eq_true rfl)
    have N17 := Fr.snoc X17 N5 g_b15
    obtain ⟨cl18, Ar18, q18, Sz18, Ng18, Hs18, Gs18⟩ := V_b15
    have hin18 : ¬ ((1 : Int32) < 0 ∨ cl18.slots.size ≤ ((1 : Int32)).toNatClampNeg) := inb_of Sz18 ⟨by decide, by decide⟩
    obtain ⟨T19, h19, X19, e19, W19, st19⟩ := stI X17 hx hZ e17 Ar18 (j := (1 : Int32)) hin18 (g := (mkF m 76 #[.val (.int p1), .val (.int p2), .val (.int p3), .val (.int p4), .val (.int p5), .val (.int (2 : Int32)), .val (.int r1), .val (.int r2), .val (.int r3), .val (.int rel), .val (.ref b15), .unset, .unset, .unset, .unset, .unset, .unset, .unset, .unset, .unset, .unset, .unset, .unset] [(.int r2), (.int (1 : Int32)), (.ref b15)])) rfl rfl (hb hby at_76)
    have Zs19 := Nat.le_trans Zs17 (Keep.of_wr W19).1
    have V_b15 : Arv Z h19 b15 c15 .int (2 : Int32) [(.int r1), (.int r2)] (.int (0 : Int32)) := Arv.set Ar18 q18 Sz18 Ng18 Hs18 Gs18 rfl W19 1 rfl (Nat.le_of_ble_eq_true rfl)
    have N19 := Fr.snoc X19 N17 g_b15
    have hz : ¬ (rel = (0 : Int32)) := hpos (by decide)
    obtain ⟨_, _, ⟨T20, L20, k20_, n20⟩, -, X20, ⟨Lc20, hQ20, l20, y20, z20⟩, st20⟩ := Jvm.LawKit.callS X19 hx (y := (⟨"com/example/prose_to_query/prosetoquery/retrieval/Measure", "averagePrecision", "([II)D"⟩ : MethodName)) hown (mvT hZ (hw _ (List.mem_of_getElem? (i := 7) rfl))) (mvT hZ (hw _ (List.mem_of_getElem? (i := 8) rfl))) (mvT hZ (hw _ (List.mem_of_getElem? (i := 9) rfl))) (mvT hZ (hw _ (List.mem_of_getElem? (i := 10) rfl))) (by decide) (backOf (W := 0) (rm2_2 l Z a0 hw [] b15 rel _ r1 r2 h19 n0 Zs19 V_b15 hz hr1 hr2 hs1 hs2) hZ (hw _ (List.mem_of_getElem? (i := 10) rfl)) (hw _ (List.mem_of_getElem? (i := 9) rfl)) (by decide) (by decide)) (g := (mkF m 93 #[.val (.int p1), .val (.int p2), .val (.int p3), .val (.int p4), .val (.int p5), .val (.int (2 : Int32)), .val (.int r1), .val (.int r2), .val (.int r3), .val (.int rel), .val (.ref b15), .unset, .unset, .unset, .unset, .unset, .unset, .unset, .unset, .unset, .unset, .unset, .unset] [(.int rel), (.ref b15)])) rfl (by rw [hml]; rfl) (argsL := [(.ref b15), (.int rel)]) (rest := []) (lenOf pd_1 rfl) rfl (by show 2 * 0 + _ ≤ _; exact Nat.le_of_eq rfl) (hb hby at_93) (fun _ _ => ⟨rfl, e19, (by decide : 1 + 0 ≤ _), (by decide : 2 + 0 ≤ _)⟩)
    dsimp only [Pt.U, Pt.locs, Pt.cells, Pt.slots] at X20 l20 y20 z20 st20 hQ20
    subst l20 y20 z20
    obtain ⟨rfl, Nq20, e20⟩ := hQ20
    have N20 := Fr.app N19 Nq20
    obtain ⟨fs, hr, hrun, hended, hW, hsame⟩ := X20.leave (v := some (.int (1 : Int32))) (fun h => by rw [Bd.returns] at h; cases h)
    refine ⟨_, _, ?_, hrun, hended, _, _, rfl, ?_, ⟨_, rfl⟩, hW, hsame.mono (by decide) (by decide)⟩
    · refine hA0 _ ?_
      refine k6 _ ?_
      refine own_f_iload X5.here hx (hb hby at_47) rfl (rfl : _ = 49) ?_
      refine st15 _ ?_
      show Steps p.tables e below (T15.setTop (mkF m 51 #[.val (.int p1), .val (.int p2), .val (.int p3), .val (.int p4), .val (.int p5), .val (.int (2 : Int32)), .val (.int r1), .val (.int r2), .val (.int r3), .val (.int rel), .unset, .unset, .unset, .unset, .unset, .unset, .unset, .unset, .unset, .unset, .unset, .unset, .unset] [(.ref b15)])) _
      refine own_f_astore X15.here hx (hb hby at_51) rfl (rfl : storeLocals _ _ _ = some #[.val (.int p1), .val (.int p2), .val (.int p3), .val (.int p4), .val (.int p5), .val (.int (2 : Int32)), .val (.int r1), .val (.int r2), .val (.int r3), .val (.int rel), .val (.ref b15), .unset, .unset, .unset, .unset, .unset, .unset, .unset, .unset, .unset, .unset, .unset, .unset]) (rfl : _ = 53) ?_
      refine own_f_iload X15.here hx (hb hby at_53) rfl (rfl : _ = 55) ?_
      refine own_f_iconst X15.here hx (hb hby at_55) (rfl : _ = (1 : Int32)) (rfl : _ = 56) ?_
      refine own_f_icmpNo X15.here hx (hb hby at_56) (flt (by decide)).1 (rfl : _ = 59) ?_
      refine own_f_aload X15.here hx (hb hby at_59) rfl rfl (rfl : _ = 61) ?_
      refine own_f_iconst X15.here hx (hb hby at_61) (rfl : _ = (0 : Int32)) (rfl : _ = 62) ?_
      refine own_f_iload X15.here hx (hb hby at_62) rfl (rfl : _ = 64) ?_
      refine st17 _ ?_
      show Steps p.tables e below (T17.setTop (mkF m 65 #[.val (.int p1), .val (.int p2), .val (.int p3), .val (.int p4), .val (.int p5), .val (.int (2 : Int32)), .val (.int r1), .val (.int r2), .val (.int r3), .val (.int rel), .val (.ref b15), .unset, .unset, .unset, .unset, .unset, .unset, .unset, .unset, .unset, .unset, .unset, .unset] [])) _
      refine own_f_iload X17.here hx (hb hby at_65) rfl (rfl : _ = 67) ?_
      refine own_f_iconst X17.here hx (hb hby at_67) (rfl : _ = (2 : Int32)) (rfl : _ = 68) ?_
      refine own_f_icmpNo X17.here hx (hb hby at_68) (flt (by decide)).1 (rfl : _ = 71) ?_
      refine own_f_aload X17.here hx (hb hby at_71) rfl rfl (rfl : _ = 73) ?_
      refine own_f_iconst X17.here hx (hb hby at_73) (rfl : _ = (1 : Int32)) (rfl : _ = 74) ?_
      refine own_f_iload X17.here hx (hb hby at_74) rfl (rfl : _ = 76) ?_
      refine st19 _ ?_
      show Steps p.tables e below (T19.setTop (mkF m 77 #[.val (.int p1), .val (.int p2), .val (.int p3), .val (.int p4), .val (.int p5), .val (.int (2 : Int32)), .val (.int r1), .val (.int r2), .val (.int r3), .val (.int rel), .val (.ref b15), .unset, .unset, .unset, .unset, .unset, .unset, .unset, .unset, .unset, .unset, .unset, .unset] [])) _
      refine own_f_iload X19.here hx (hb hby at_77) rfl (rfl : _ = 79) ?_
      refine own_f_iconst X19.here hx (hb hby at_79) (rfl : _ = (3 : Int32)) (rfl : _ = 80) ?_
      refine own_f_icmpYes X19.here hx (hb hby at_80) (tlt (by decide)).1 (by decide) (by decide : _ = 89) ?_
      refine own_f_aload X19.here hx (hb hby at_89) rfl rfl (rfl : _ = 91) ?_
      refine own_f_iload X19.here hx (hb hby at_91) rfl (rfl : _ = 93) ?_
      refine st20 _ ?_
      show Steps p.tables e below (T20.setTop (mkF m 96 #[.val (.int p1), .val (.int p2), .val (.int p3), .val (.int p4), .val (.int p5), .val (.int (2 : Int32)), .val (.int r1), .val (.int r2), .val (.int r3), .val (.int rel), .val (.ref b15), .unset, .unset, .unset, .unset, .unset, .unset, .unset, .unset, .unset, .unset, .unset, .unset] [(.double (FP.ddiv (FP.dadd (FP.dadd (0 : UInt64) (FP.ddiv (4607182418800017408 : UInt64) (FP.i2d r1))) (FP.ddiv (4611686018427387904 : UInt64) (FP.i2d r2))) (FP.i2d rel)))])) _
      refine own_f_dstore X20.here hx (hb hby at_96) (rfl : storeLocals _ _ _ = some #[.val (.int p1), .val (.int p2), .val (.int p3), .val (.int p4), .val (.int p5), .val (.int (2 : Int32)), .val (.int r1), .val (.int r2), .val (.int r3), .val (.int rel), .val (.ref b15), .val (.double (FP.ddiv (FP.dadd (FP.dadd (0 : UInt64) (FP.ddiv (4607182418800017408 : UInt64) (FP.i2d r1))) (FP.ddiv (4611686018427387904 : UInt64) (FP.i2d r2))) (FP.i2d rel))), .second, .unset, .unset, .unset, .unset, .unset, .unset, .unset, .unset, .unset, .unset]) (rfl : _ = 98) ?_
      refine own_f_iload X20.here hx (hb hby at_98) rfl (rfl : _ = 100) ?_
      refine own_f_ifYes X20.here hx (hb hby at_100) ((if0 _ _).trans (feq (hz)).2) (by decide) (by decide : _ = 109) ?_
      refine own_f_dconst1 X20.here hx (hb hby at_109) (rfl : _ = (4607182418800017408 : UInt64)) (rfl : _ = 110) ?_
      refine own_f_iload X20.here hx (hb hby at_110) rfl (rfl : _ = 112) ?_
      refine own_f_i2d X20.here hx (hb hby at_112) rfl (rfl : _ = 113) ?_
      refine own_f_ddiv X20.here hx (hb hby at_113) (own_qnn own_cfin1 hr1) rfl (rfl : _ = 114) ?_
      refine own_f_dstore X20.here hx (hb hby at_114) (rfl : storeLocals _ _ _ = some #[.val (.int p1), .val (.int p2), .val (.int p3), .val (.int p4), .val (.int p5), .val (.int (2 : Int32)), .val (.int r1), .val (.int r2), .val (.int r3), .val (.int rel), .val (.ref b15), .val (.double (FP.ddiv (FP.dadd (FP.dadd (0 : UInt64) (FP.ddiv (4607182418800017408 : UInt64) (FP.i2d r1))) (FP.ddiv (4611686018427387904 : UInt64) (FP.i2d r2))) (FP.i2d rel))), .second, .unset, .unset, .val (.double (FP.ddiv (4607182418800017408 : UInt64) (FP.i2d r1))), .second, .unset, .unset, .unset, .unset, .unset, .unset]) (rfl : _ = 116) ?_
      refine own_f_ldc2DoubleC X20 hx hown (mvT hZ (hw _ (List.mem_of_getElem? (i := 11) rfl))) (hb hby at_116) (rfl : _ = 119) ?_
      refine own_f_iload X20.here hx (hb hby at_119) rfl (rfl : _ = 121) ?_
      refine own_f_i2d X20.here hx (hb hby at_121) rfl (rfl : _ = 122) ?_
      refine own_f_ddiv X20.here hx (hb hby at_122) (own_qnn own_cfin2 hr2) rfl (rfl : _ = 123) ?_
      refine own_f_dstore X20.here hx (hb hby at_123) (rfl : storeLocals _ _ _ = some #[.val (.int p1), .val (.int p2), .val (.int p3), .val (.int p4), .val (.int p5), .val (.int (2 : Int32)), .val (.int r1), .val (.int r2), .val (.int r3), .val (.int rel), .val (.ref b15), .val (.double (FP.ddiv (FP.dadd (FP.dadd (0 : UInt64) (FP.ddiv (4607182418800017408 : UInt64) (FP.i2d r1))) (FP.ddiv (4611686018427387904 : UInt64) (FP.i2d r2))) (FP.i2d rel))), .second, .unset, .unset, .val (.double (FP.ddiv (4607182418800017408 : UInt64) (FP.i2d r1))), .second, .val (.double (FP.ddiv (4611686018427387904 : UInt64) (FP.i2d r2))), .second, .unset, .unset, .unset, .unset]) (rfl : _ = 125) ?_
      refine own_f_ldc2DoubleC X20 hx hown (mvT hZ (hw _ (List.mem_of_getElem? (i := 12) rfl))) (hb hby at_125) (rfl : _ = 128) ?_
      refine own_f_iload X20.here hx (hb hby at_128) rfl (rfl : _ = 130) ?_
      refine own_f_i2d X20.here hx (hb hby at_130) rfl (rfl : _ = 131) ?_
      refine own_f_ddiv X20.here hx (hb hby at_131) (own_qnn own_cfin3 hr3) rfl (rfl : _ = 132) ?_
      refine own_f_dstore X20.here hx (hb hby at_132) (rfl : storeLocals _ _ _ = some #[.val (.int p1), .val (.int p2), .val (.int p3), .val (.int p4), .val (.int p5), .val (.int (2 : Int32)), .val (.int r1), .val (.int r2), .val (.int r3), .val (.int rel), .val (.ref b15), .val (.double (FP.ddiv (FP.dadd (FP.dadd (0 : UInt64) (FP.ddiv (4607182418800017408 : UInt64) (FP.i2d r1))) (FP.ddiv (4611686018427387904 : UInt64) (FP.i2d r2))) (FP.i2d rel))), .second, .unset, .unset, .val (.double (FP.ddiv (4607182418800017408 : UInt64) (FP.i2d r1))), .second, .val (.double (FP.ddiv (4611686018427387904 : UInt64) (FP.i2d r2))), .second, .val (.double (FP.ddiv (4613937818241073152 : UInt64) (FP.i2d r3))), .second, .unset, .unset]) (rfl : _ = 134) ?_
      refine own_f_dconst0 X20.here hx (hb hby at_134) (rfl : _ = (0 : UInt64)) (rfl : _ = 135) ?_
      refine own_f_dstore X20.here hx (hb hby at_135) (rfl : storeLocals _ _ _ = some #[.val (.int p1), .val (.int p2), .val (.int p3), .val (.int p4), .val (.int p5), .val (.int (2 : Int32)), .val (.int r1), .val (.int r2), .val (.int r3), .val (.int rel), .val (.ref b15), .val (.double (FP.ddiv (FP.dadd (FP.dadd (0 : UInt64) (FP.ddiv (4607182418800017408 : UInt64) (FP.i2d r1))) (FP.ddiv (4611686018427387904 : UInt64) (FP.i2d r2))) (FP.i2d rel))), .second, .unset, .unset, .val (.double (FP.ddiv (4607182418800017408 : UInt64) (FP.i2d r1))), .second, .val (.double (FP.ddiv (4611686018427387904 : UInt64) (FP.i2d r2))), .second, .val (.double (FP.ddiv (4613937818241073152 : UInt64) (FP.i2d r3))), .second, .val (.double (0 : UInt64)), .second]) (rfl : _ = 137) ?_
      refine own_f_iload X20.here hx (hb hby at_137) rfl (rfl : _ = 139) ?_
      refine own_f_iconst X20.here hx (hb hby at_139) (rfl : _ = (1 : Int32)) (rfl : _ = 140) ?_
      refine own_f_icmpNo X20.here hx (hb hby at_140) (flt (by decide)).1 (rfl : _ = 143) ?_
      refine own_f_dload X20.here hx (hb hby at_143) rfl (rfl : _ = 145) ?_
      refine own_f_dload X20.here hx (hb hby at_145) rfl (rfl : _ = 147) ?_
      refine own_f_dadd X20.here hx (hb hby at_147) (hs1) rfl (rfl : _ = 148) ?_
      refine own_f_dstore X20.here hx (hb hby at_148) (rfl : storeLocals _ _ _ = some #[.val (.int p1), .val (.int p2), .val (.int p3), .val (.int p4), .val (.int p5), .val (.int (2 : Int32)), .val (.int r1), .val (.int r2), .val (.int r3), .val (.int rel), .val (.ref b15), .val (.double (FP.ddiv (FP.dadd (FP.dadd (0 : UInt64) (FP.ddiv (4607182418800017408 : UInt64) (FP.i2d r1))) (FP.ddiv (4611686018427387904 : UInt64) (FP.i2d r2))) (FP.i2d rel))), .second, .unset, .unset, .val (.double (FP.ddiv (4607182418800017408 : UInt64) (FP.i2d r1))), .second, .val (.double (FP.ddiv (4611686018427387904 : UInt64) (FP.i2d r2))), .second, .val (.double (FP.ddiv (4613937818241073152 : UInt64) (FP.i2d r3))), .second, .val (.double (FP.dadd (0 : UInt64) (FP.ddiv (4607182418800017408 : UInt64) (FP.i2d r1)))), .second]) (rfl : _ = 150) ?_
      refine own_f_iload X20.here hx (hb hby at_150) rfl (rfl : _ = 152) ?_
      refine own_f_iconst X20.here hx (hb hby at_152) (rfl : _ = (2 : Int32)) (rfl : _ = 153) ?_
      refine own_f_icmpNo X20.here hx (hb hby at_153) (flt (by decide)).1 (rfl : _ = 156) ?_
      refine own_f_dload X20.here hx (hb hby at_156) rfl (rfl : _ = 158) ?_
      refine own_f_dload X20.here hx (hb hby at_158) rfl (rfl : _ = 160) ?_
      refine own_f_dadd X20.here hx (hb hby at_160) (hs2) rfl (rfl : _ = 161) ?_
      refine own_f_dstore X20.here hx (hb hby at_161) (rfl : storeLocals _ _ _ = some #[.val (.int p1), .val (.int p2), .val (.int p3), .val (.int p4), .val (.int p5), .val (.int (2 : Int32)), .val (.int r1), .val (.int r2), .val (.int r3), .val (.int rel), .val (.ref b15), .val (.double (FP.ddiv (FP.dadd (FP.dadd (0 : UInt64) (FP.ddiv (4607182418800017408 : UInt64) (FP.i2d r1))) (FP.ddiv (4611686018427387904 : UInt64) (FP.i2d r2))) (FP.i2d rel))), .second, .unset, .unset, .val (.double (FP.ddiv (4607182418800017408 : UInt64) (FP.i2d r1))), .second, .val (.double (FP.ddiv (4611686018427387904 : UInt64) (FP.i2d r2))), .second, .val (.double (FP.ddiv (4613937818241073152 : UInt64) (FP.i2d r3))), .second, .val (.double (FP.dadd (FP.dadd (0 : UInt64) (FP.ddiv (4607182418800017408 : UInt64) (FP.i2d r1))) (FP.ddiv (4611686018427387904 : UInt64) (FP.i2d r2)))), .second]) (rfl : _ = 163) ?_
      refine own_f_iload X20.here hx (hb hby at_163) rfl (rfl : _ = 165) ?_
      refine own_f_iconst X20.here hx (hb hby at_165) (rfl : _ = (3 : Int32)) (rfl : _ = 166) ?_
      refine own_f_icmpYes X20.here hx (hb hby at_166) (tlt (by decide)).1 (by decide) (by decide : _ = 176) ?_
      refine own_f_dload X20.here hx (hb hby at_176) rfl (rfl : _ = 178) ?_
      refine own_f_iload X20.here hx (hb hby at_178) rfl (rfl : _ = 180) ?_
      refine own_f_i2d X20.here hx (hb hby at_180) rfl (rfl : _ = 181) ?_
      refine own_f_ddiv X20.here hx (hb hby at_181) (own_dnn hs2 hz) rfl (rfl : _ = 182) ?_
      refine own_f_dstore X20.here hx (hb hby at_182) (rfl : storeLocals _ _ _ = some #[.val (.int p1), .val (.int p2), .val (.int p3), .val (.int p4), .val (.int p5), .val (.int (2 : Int32)), .val (.int r1), .val (.int r2), .val (.int r3), .val (.int rel), .val (.ref b15), .val (.double (FP.ddiv (FP.dadd (FP.dadd (0 : UInt64) (FP.ddiv (4607182418800017408 : UInt64) (FP.i2d r1))) (FP.ddiv (4611686018427387904 : UInt64) (FP.i2d r2))) (FP.i2d rel))), .second, .val (.double (FP.ddiv (FP.dadd (FP.dadd (0 : UInt64) (FP.ddiv (4607182418800017408 : UInt64) (FP.i2d r1))) (FP.ddiv (4611686018427387904 : UInt64) (FP.i2d r2))) (FP.i2d rel))), .second, .val (.double (FP.ddiv (4607182418800017408 : UInt64) (FP.i2d r1))), .second, .val (.double (FP.ddiv (4611686018427387904 : UInt64) (FP.i2d r2))), .second, .val (.double (FP.ddiv (4613937818241073152 : UInt64) (FP.i2d r3))), .second, .val (.double (FP.dadd (FP.dadd (0 : UInt64) (FP.ddiv (4607182418800017408 : UInt64) (FP.i2d r1))) (FP.ddiv (4611686018427387904 : UInt64) (FP.i2d r2)))), .second]) (rfl : _ = 184) ?_
      refine own_f_dload X20.here hx (hb hby at_184) rfl (rfl : _ = 186) ?_
      refine own_f_dload X20.here hx (hb hby at_186) rfl (rfl : _ = 188) ?_
      refine own_f_dcmp X20.here hx (hb hby at_188) rfl (rfl : _ = 189) ?_
      refine own_f_ifNo X20.here hx (hb hby at_189) ((if0 _ _).trans (teq (dcmpV_self (own_dnn hs2 hz) .l)).2) (rfl : _ = 192) ?_
      refine own_f_iconst X20.here hx (hb hby at_192) (rfl : _ = (1 : Int32)) (rfl : _ = 193) ?_
      refine own_f_goto X20.here hx (hb hby at_193) (by decide) (by decide : _ = 197) ?_
      exact retN X20 hx (t := .boolean) Bd.returns (by simp) (hb hby at_197) hr
    · show Q0 Z p1 p2 p3 p4 p5 h0 n0 _ T20.heap _
      rw [e20]
      exact ⟨rfl, N20⟩
  · obtain ⟨T21, h21, c21, X21, e21, E21, A21, st21⟩ := newP X5 hx hZ (hw _ (List.mem_of_getElem? (i := 6) rfl)) e5 (g := (mkF m 49 #[.val (.int p1), .val (.int p2), .val (.int p3), .val (.int p4), .val (.int p5), .val (.int (3 : Int32)), .val (.int r1), .val (.int r2), .val (.int r3), .val (.int rel), .unset, .unset, .unset, .unset, .unset, .unset, .unset, .unset, .unset, .unset, .unset, .unset, .unset] [(.int (3 : Int32))])) rfl (hb hby at_49) rfl (by decide) (cap := 3) (by decide) (by decide) (by decide) (by decide)
    obtain ⟨b21, g21⟩ : ∃ z, z = h0.size := ⟨_, rfl⟩
    rw [← g21] at A21 st21
    have g_b21 : n0 ≤ b21 := Nat.le_trans Z0 (Nat.le_of_eq g21.symm)
    have Zs21 := Nat.le_trans Z0 E21.1
    have V_b21 : Arv Z h21 b21 c21 .int (3 : Int32) [(.int (0 : Int32)), (.int (0 : Int32)), (.int (0 : Int32))] (.int (0 : Int32)) := (Arv.new A21 (by decide)).pad (pad_rep [] (.int (0 : Int32)) 3)
    obtain ⟨cl22, Ar22, q22, Sz22, Ng22, Hs22, Gs22⟩ := V_b21
    have hin22 : ¬ ((0 : Int32) < 0 ∨ cl22.slots.size ≤ ((0 : Int32)).toNatClampNeg) := inb_of Sz22 ⟨by decide, by decide⟩
    obtain ⟨T23, h23, X23, e23, W23, st23⟩ := stI X21 hx hZ e21 Ar22 (j := (0 : Int32)) hin22 (g := (mkF m 64 #[.val (.int p1), .val (.int p2), .val (.int p3), .val (.int p4), .val (.int p5), .val (.int (3 : Int32)), .val (.int r1), .val (.int r2), .val (.int r3), .val (.int rel), .val (.ref b21), .unset, .unset, .unset, .unset, .unset, .unset, .unset, .unset, .unset, .unset, .unset, .unset] [(.int r1), (.int (0 : Int32)), (.ref b21)])) rfl rfl (hb hby at_64)
    have Zs23 := Nat.le_trans Zs21 (Keep.of_wr W23).1
    have V_b21 : Arv Z h23 b21 c21 .int (3 : Int32) [(.int r1), (.int (0 : Int32)), (.int (0 : Int32))] (.int (0 : Int32)) := Arv.set Ar22 q22 Sz22 Ng22 Hs22 Gs22 rfl W23 0 rfl (Nat.le_of_ble_eq_true rfl)
    have N23 := Fr.snoc X23 N5 g_b21
    obtain ⟨cl24, Ar24, q24, Sz24, Ng24, Hs24, Gs24⟩ := V_b21
    have hin24 : ¬ ((1 : Int32) < 0 ∨ cl24.slots.size ≤ ((1 : Int32)).toNatClampNeg) := inb_of Sz24 ⟨by decide, by decide⟩
    obtain ⟨T25, h25, X25, e25, W25, st25⟩ := stI X23 hx hZ e23 Ar24 (j := (1 : Int32)) hin24 (g := (mkF m 76 #[.val (.int p1), .val (.int p2), .val (.int p3), .val (.int p4), .val (.int p5), .val (.int (3 : Int32)), .val (.int r1), .val (.int r2), .val (.int r3), .val (.int rel), .val (.ref b21), .unset, .unset, .unset, .unset, .unset, .unset, .unset, .unset, .unset, .unset, .unset, .unset] [(.int r2), (.int (1 : Int32)), (.ref b21)])) rfl rfl (hb hby at_76)
    have Zs25 := Nat.le_trans Zs23 (Keep.of_wr W25).1
    have V_b21 : Arv Z h25 b21 c21 .int (3 : Int32) [(.int r1), (.int r2), (.int (0 : Int32))] (.int (0 : Int32)) := Arv.set Ar24 q24 Sz24 Ng24 Hs24 Gs24 rfl W25 1 rfl (Nat.le_of_ble_eq_true rfl)
    have N25 := Fr.snoc X25 N23 g_b21
    obtain ⟨cl26, Ar26, q26, Sz26, Ng26, Hs26, Gs26⟩ := V_b21
    have hin26 : ¬ ((2 : Int32) < 0 ∨ cl26.slots.size ≤ ((2 : Int32)).toNatClampNeg) := inb_of Sz26 ⟨by decide, by decide⟩
    obtain ⟨T27, h27, X27, e27, W27, st27⟩ := stI X25 hx hZ e25 Ar26 (j := (2 : Int32)) hin26 (g := (mkF m 88 #[.val (.int p1), .val (.int p2), .val (.int p3), .val (.int p4), .val (.int p5), .val (.int (3 : Int32)), .val (.int r1), .val (.int r2), .val (.int r3), .val (.int rel), .val (.ref b21), .unset, .unset, .unset, .unset, .unset, .unset, .unset, .unset, .unset, .unset, .unset, .unset] [(.int r3), (.int (2 : Int32)), (.ref b21)])) rfl rfl (hb hby at_88)
    have Zs27 := Nat.le_trans Zs25 (Keep.of_wr W27).1
    have V_b21 : Arv Z h27 b21 c21 .int (3 : Int32) [(.int r1), (.int r2), (.int r3)] (.int (0 : Int32)) := Arv.set Ar26 q26 Sz26 Ng26 Hs26 Gs26 rfl W27 2 rfl (Nat.le_of_ble_eq_true rfl)
    have N27 := Fr.snoc X27 N25 g_b21
    have hz : ¬ (rel = (0 : Int32)) := hpos (by decide)
    obtain ⟨_, _, ⟨T28, L28, k28_, n28⟩, -, X28, ⟨Lc28, hQ28, l28, y28, z28⟩, st28⟩ := Jvm.LawKit.callS X27 hx (y := (⟨"com/example/prose_to_query/prosetoquery/retrieval/Measure", "averagePrecision", "([II)D"⟩ : MethodName)) hown (mvT hZ (hw _ (List.mem_of_getElem? (i := 7) rfl))) (mvT hZ (hw _ (List.mem_of_getElem? (i := 8) rfl))) (mvT hZ (hw _ (List.mem_of_getElem? (i := 9) rfl))) (mvT hZ (hw _ (List.mem_of_getElem? (i := 10) rfl))) (by decide) (backOf (W := 0) (rm2_3 l Z a0 hw [] b21 rel _ r1 r2 r3 h27 n0 Zs27 V_b21 hz hr1 hr2 hr3 hs1 hs2 hs3) hZ (hw _ (List.mem_of_getElem? (i := 10) rfl)) (hw _ (List.mem_of_getElem? (i := 9) rfl)) (by decide) (by decide)) (g := (mkF m 93 #[.val (.int p1), .val (.int p2), .val (.int p3), .val (.int p4), .val (.int p5), .val (.int (3 : Int32)), .val (.int r1), .val (.int r2), .val (.int r3), .val (.int rel), .val (.ref b21), .unset, .unset, .unset, .unset, .unset, .unset, .unset, .unset, .unset, .unset, .unset, .unset] [(.int rel), (.ref b21)])) rfl (by rw [hml]; rfl) (argsL := [(.ref b21), (.int rel)]) (rest := []) (lenOf pd_1 rfl) rfl (by show 2 * 0 + _ ≤ _; exact Nat.le_of_eq rfl) (hb hby at_93) (fun _ _ => ⟨rfl, e27, (by decide : 1 + 0 ≤ _), (by decide : 3 + 0 ≤ _)⟩)
    dsimp only [Pt.U, Pt.locs, Pt.cells, Pt.slots] at X28 l28 y28 z28 st28 hQ28
    subst l28 y28 z28
    obtain ⟨rfl, Nq28, e28⟩ := hQ28
    have N28 := Fr.app N27 Nq28
    obtain ⟨fs, hr, hrun, hended, hW, hsame⟩ := X28.leave (v := some (.int (1 : Int32))) (fun h => by rw [Bd.returns] at h; cases h)
    refine ⟨_, _, ?_, hrun, hended, _, _, rfl, ?_, ⟨_, rfl⟩, hW, hsame.mono (by decide) (by decide)⟩
    · refine hA0 _ ?_
      refine k6 _ ?_
      refine own_f_iload X5.here hx (hb hby at_47) rfl (rfl : _ = 49) ?_
      refine st21 _ ?_
      show Steps p.tables e below (T21.setTop (mkF m 51 #[.val (.int p1), .val (.int p2), .val (.int p3), .val (.int p4), .val (.int p5), .val (.int (3 : Int32)), .val (.int r1), .val (.int r2), .val (.int r3), .val (.int rel), .unset, .unset, .unset, .unset, .unset, .unset, .unset, .unset, .unset, .unset, .unset, .unset, .unset] [(.ref b21)])) _
      refine own_f_astore X21.here hx (hb hby at_51) rfl (rfl : storeLocals _ _ _ = some #[.val (.int p1), .val (.int p2), .val (.int p3), .val (.int p4), .val (.int p5), .val (.int (3 : Int32)), .val (.int r1), .val (.int r2), .val (.int r3), .val (.int rel), .val (.ref b21), .unset, .unset, .unset, .unset, .unset, .unset, .unset, .unset, .unset, .unset, .unset, .unset]) (rfl : _ = 53) ?_
      refine own_f_iload X21.here hx (hb hby at_53) rfl (rfl : _ = 55) ?_
      refine own_f_iconst X21.here hx (hb hby at_55) (rfl : _ = (1 : Int32)) (rfl : _ = 56) ?_
      refine own_f_icmpNo X21.here hx (hb hby at_56) (flt (by decide)).1 (rfl : _ = 59) ?_
      refine own_f_aload X21.here hx (hb hby at_59) rfl rfl (rfl : _ = 61) ?_
      refine own_f_iconst X21.here hx (hb hby at_61) (rfl : _ = (0 : Int32)) (rfl : _ = 62) ?_
      refine own_f_iload X21.here hx (hb hby at_62) rfl (rfl : _ = 64) ?_
      refine st23 _ ?_
      show Steps p.tables e below (T23.setTop (mkF m 65 #[.val (.int p1), .val (.int p2), .val (.int p3), .val (.int p4), .val (.int p5), .val (.int (3 : Int32)), .val (.int r1), .val (.int r2), .val (.int r3), .val (.int rel), .val (.ref b21), .unset, .unset, .unset, .unset, .unset, .unset, .unset, .unset, .unset, .unset, .unset, .unset] [])) _
      refine own_f_iload X23.here hx (hb hby at_65) rfl (rfl : _ = 67) ?_
      refine own_f_iconst X23.here hx (hb hby at_67) (rfl : _ = (2 : Int32)) (rfl : _ = 68) ?_
      refine own_f_icmpNo X23.here hx (hb hby at_68) (flt (by decide)).1 (rfl : _ = 71) ?_
      refine own_f_aload X23.here hx (hb hby at_71) rfl rfl (rfl : _ = 73) ?_
      refine own_f_iconst X23.here hx (hb hby at_73) (rfl : _ = (1 : Int32)) (rfl : _ = 74) ?_
      refine own_f_iload X23.here hx (hb hby at_74) rfl (rfl : _ = 76) ?_
      refine st25 _ ?_
      show Steps p.tables e below (T25.setTop (mkF m 77 #[.val (.int p1), .val (.int p2), .val (.int p3), .val (.int p4), .val (.int p5), .val (.int (3 : Int32)), .val (.int r1), .val (.int r2), .val (.int r3), .val (.int rel), .val (.ref b21), .unset, .unset, .unset, .unset, .unset, .unset, .unset, .unset, .unset, .unset, .unset, .unset] [])) _
      refine own_f_iload X25.here hx (hb hby at_77) rfl (rfl : _ = 79) ?_
      refine own_f_iconst X25.here hx (hb hby at_79) (rfl : _ = (3 : Int32)) (rfl : _ = 80) ?_
      refine own_f_icmpNo X25.here hx (hb hby at_80) (flt (by decide)).1 (rfl : _ = 83) ?_
      refine own_f_aload X25.here hx (hb hby at_83) rfl rfl (rfl : _ = 85) ?_
      refine own_f_iconst X25.here hx (hb hby at_85) (rfl : _ = (2 : Int32)) (rfl : _ = 86) ?_
      refine own_f_iload X25.here hx (hb hby at_86) rfl (rfl : _ = 88) ?_
      refine st27 _ ?_
      show Steps p.tables e below (T27.setTop (mkF m 89 #[.val (.int p1), .val (.int p2), .val (.int p3), .val (.int p4), .val (.int p5), .val (.int (3 : Int32)), .val (.int r1), .val (.int r2), .val (.int r3), .val (.int rel), .val (.ref b21), .unset, .unset, .unset, .unset, .unset, .unset, .unset, .unset, .unset, .unset, .unset, .unset] [])) _
      refine own_f_aload X27.here hx (hb hby at_89) rfl rfl (rfl : _ = 91) ?_
      refine own_f_iload X27.here hx (hb hby at_91) rfl (rfl : _ = 93) ?_
      refine st28 _ ?_
      show Steps p.tables e below (T28.setTop (mkF m 96 #[.val (.int p1), .val (.int p2), .val (.int p3), .val (.int p4), .val (.int p5), .val (.int (3 : Int32)), .val (.int r1), .val (.int r2), .val (.int r3), .val (.int rel), .val (.ref b21), .unset, .unset, .unset, .unset, .unset, .unset, .unset, .unset, .unset, .unset, .unset, .unset] [(.double (FP.ddiv (FP.dadd (FP.dadd (FP.dadd (0 : UInt64) (FP.ddiv (4607182418800017408 : UInt64) (FP.i2d r1))) (FP.ddiv (4611686018427387904 : UInt64) (FP.i2d r2))) (FP.ddiv (4613937818241073152 : UInt64) (FP.i2d r3))) (FP.i2d rel)))])) _
      refine own_f_dstore X28.here hx (hb hby at_96) (rfl : storeLocals _ _ _ = some #[.val (.int p1), .val (.int p2), .val (.int p3), .val (.int p4), .val (.int p5), .val (.int (3 : Int32)), .val (.int r1), .val (.int r2), .val (.int r3), .val (.int rel), .val (.ref b21), .val (.double (FP.ddiv (FP.dadd (FP.dadd (FP.dadd (0 : UInt64) (FP.ddiv (4607182418800017408 : UInt64) (FP.i2d r1))) (FP.ddiv (4611686018427387904 : UInt64) (FP.i2d r2))) (FP.ddiv (4613937818241073152 : UInt64) (FP.i2d r3))) (FP.i2d rel))), .second, .unset, .unset, .unset, .unset, .unset, .unset, .unset, .unset, .unset, .unset]) (rfl : _ = 98) ?_
      refine own_f_iload X28.here hx (hb hby at_98) rfl (rfl : _ = 100) ?_
      refine own_f_ifYes X28.here hx (hb hby at_100) ((if0 _ _).trans (feq (hz)).2) (by decide) (by decide : _ = 109) ?_
      refine own_f_dconst1 X28.here hx (hb hby at_109) (rfl : _ = (4607182418800017408 : UInt64)) (rfl : _ = 110) ?_
      refine own_f_iload X28.here hx (hb hby at_110) rfl (rfl : _ = 112) ?_
      refine own_f_i2d X28.here hx (hb hby at_112) rfl (rfl : _ = 113) ?_
      refine own_f_ddiv X28.here hx (hb hby at_113) (own_qnn own_cfin1 hr1) rfl (rfl : _ = 114) ?_
      refine own_f_dstore X28.here hx (hb hby at_114) (rfl : storeLocals _ _ _ = some #[.val (.int p1), .val (.int p2), .val (.int p3), .val (.int p4), .val (.int p5), .val (.int (3 : Int32)), .val (.int r1), .val (.int r2), .val (.int r3), .val (.int rel), .val (.ref b21), .val (.double (FP.ddiv (FP.dadd (FP.dadd (FP.dadd (0 : UInt64) (FP.ddiv (4607182418800017408 : UInt64) (FP.i2d r1))) (FP.ddiv (4611686018427387904 : UInt64) (FP.i2d r2))) (FP.ddiv (4613937818241073152 : UInt64) (FP.i2d r3))) (FP.i2d rel))), .second, .unset, .unset, .val (.double (FP.ddiv (4607182418800017408 : UInt64) (FP.i2d r1))), .second, .unset, .unset, .unset, .unset, .unset, .unset]) (rfl : _ = 116) ?_
      refine own_f_ldc2DoubleC X28 hx hown (mvT hZ (hw _ (List.mem_of_getElem? (i := 11) rfl))) (hb hby at_116) (rfl : _ = 119) ?_
      refine own_f_iload X28.here hx (hb hby at_119) rfl (rfl : _ = 121) ?_
      refine own_f_i2d X28.here hx (hb hby at_121) rfl (rfl : _ = 122) ?_
      refine own_f_ddiv X28.here hx (hb hby at_122) (own_qnn own_cfin2 hr2) rfl (rfl : _ = 123) ?_
      refine own_f_dstore X28.here hx (hb hby at_123) (rfl : storeLocals _ _ _ = some #[.val (.int p1), .val (.int p2), .val (.int p3), .val (.int p4), .val (.int p5), .val (.int (3 : Int32)), .val (.int r1), .val (.int r2), .val (.int r3), .val (.int rel), .val (.ref b21), .val (.double (FP.ddiv (FP.dadd (FP.dadd (FP.dadd (0 : UInt64) (FP.ddiv (4607182418800017408 : UInt64) (FP.i2d r1))) (FP.ddiv (4611686018427387904 : UInt64) (FP.i2d r2))) (FP.ddiv (4613937818241073152 : UInt64) (FP.i2d r3))) (FP.i2d rel))), .second, .unset, .unset, .val (.double (FP.ddiv (4607182418800017408 : UInt64) (FP.i2d r1))), .second, .val (.double (FP.ddiv (4611686018427387904 : UInt64) (FP.i2d r2))), .second, .unset, .unset, .unset, .unset]) (rfl : _ = 125) ?_
      refine own_f_ldc2DoubleC X28 hx hown (mvT hZ (hw _ (List.mem_of_getElem? (i := 12) rfl))) (hb hby at_125) (rfl : _ = 128) ?_
      refine own_f_iload X28.here hx (hb hby at_128) rfl (rfl : _ = 130) ?_
      refine own_f_i2d X28.here hx (hb hby at_130) rfl (rfl : _ = 131) ?_
      refine own_f_ddiv X28.here hx (hb hby at_131) (own_qnn own_cfin3 hr3) rfl (rfl : _ = 132) ?_
      refine own_f_dstore X28.here hx (hb hby at_132) (rfl : storeLocals _ _ _ = some #[.val (.int p1), .val (.int p2), .val (.int p3), .val (.int p4), .val (.int p5), .val (.int (3 : Int32)), .val (.int r1), .val (.int r2), .val (.int r3), .val (.int rel), .val (.ref b21), .val (.double (FP.ddiv (FP.dadd (FP.dadd (FP.dadd (0 : UInt64) (FP.ddiv (4607182418800017408 : UInt64) (FP.i2d r1))) (FP.ddiv (4611686018427387904 : UInt64) (FP.i2d r2))) (FP.ddiv (4613937818241073152 : UInt64) (FP.i2d r3))) (FP.i2d rel))), .second, .unset, .unset, .val (.double (FP.ddiv (4607182418800017408 : UInt64) (FP.i2d r1))), .second, .val (.double (FP.ddiv (4611686018427387904 : UInt64) (FP.i2d r2))), .second, .val (.double (FP.ddiv (4613937818241073152 : UInt64) (FP.i2d r3))), .second, .unset, .unset]) (rfl : _ = 134) ?_
      refine own_f_dconst0 X28.here hx (hb hby at_134) (rfl : _ = (0 : UInt64)) (rfl : _ = 135) ?_
      refine own_f_dstore X28.here hx (hb hby at_135) (rfl : storeLocals _ _ _ = some #[.val (.int p1), .val (.int p2), .val (.int p3), .val (.int p4), .val (.int p5), .val (.int (3 : Int32)), .val (.int r1), .val (.int r2), .val (.int r3), .val (.int rel), .val (.ref b21), .val (.double (FP.ddiv (FP.dadd (FP.dadd (FP.dadd (0 : UInt64) (FP.ddiv (4607182418800017408 : UInt64) (FP.i2d r1))) (FP.ddiv (4611686018427387904 : UInt64) (FP.i2d r2))) (FP.ddiv (4613937818241073152 : UInt64) (FP.i2d r3))) (FP.i2d rel))), .second, .unset, .unset, .val (.double (FP.ddiv (4607182418800017408 : UInt64) (FP.i2d r1))), .second, .val (.double (FP.ddiv (4611686018427387904 : UInt64) (FP.i2d r2))), .second, .val (.double (FP.ddiv (4613937818241073152 : UInt64) (FP.i2d r3))), .second, .val (.double (0 : UInt64)), .second]) (rfl : _ = 137) ?_
      refine own_f_iload X28.here hx (hb hby at_137) rfl (rfl : _ = 139) ?_
      refine own_f_iconst X28.here hx (hb hby at_139) (rfl : _ = (1 : Int32)) (rfl : _ = 140) ?_
      refine own_f_icmpNo X28.here hx (hb hby at_140) (flt (by decide)).1 (rfl : _ = 143) ?_
      refine own_f_dload X28.here hx (hb hby at_143) rfl (rfl : _ = 145) ?_
      refine own_f_dload X28.here hx (hb hby at_145) rfl (rfl : _ = 147) ?_
      refine own_f_dadd X28.here hx (hb hby at_147) (hs1) rfl (rfl : _ = 148) ?_
      refine own_f_dstore X28.here hx (hb hby at_148) (rfl : storeLocals _ _ _ = some #[.val (.int p1), .val (.int p2), .val (.int p3), .val (.int p4), .val (.int p5), .val (.int (3 : Int32)), .val (.int r1), .val (.int r2), .val (.int r3), .val (.int rel), .val (.ref b21), .val (.double (FP.ddiv (FP.dadd (FP.dadd (FP.dadd (0 : UInt64) (FP.ddiv (4607182418800017408 : UInt64) (FP.i2d r1))) (FP.ddiv (4611686018427387904 : UInt64) (FP.i2d r2))) (FP.ddiv (4613937818241073152 : UInt64) (FP.i2d r3))) (FP.i2d rel))), .second, .unset, .unset, .val (.double (FP.ddiv (4607182418800017408 : UInt64) (FP.i2d r1))), .second, .val (.double (FP.ddiv (4611686018427387904 : UInt64) (FP.i2d r2))), .second, .val (.double (FP.ddiv (4613937818241073152 : UInt64) (FP.i2d r3))), .second, .val (.double (FP.dadd (0 : UInt64) (FP.ddiv (4607182418800017408 : UInt64) (FP.i2d r1)))), .second]) (rfl : _ = 150) ?_
      refine own_f_iload X28.here hx (hb hby at_150) rfl (rfl : _ = 152) ?_
      refine own_f_iconst X28.here hx (hb hby at_152) (rfl : _ = (2 : Int32)) (rfl : _ = 153) ?_
      refine own_f_icmpNo X28.here hx (hb hby at_153) (flt (by decide)).1 (rfl : _ = 156) ?_
      refine own_f_dload X28.here hx (hb hby at_156) rfl (rfl : _ = 158) ?_
      refine own_f_dload X28.here hx (hb hby at_158) rfl (rfl : _ = 160) ?_
      refine own_f_dadd X28.here hx (hb hby at_160) (hs2) rfl (rfl : _ = 161) ?_
      refine own_f_dstore X28.here hx (hb hby at_161) (rfl : storeLocals _ _ _ = some #[.val (.int p1), .val (.int p2), .val (.int p3), .val (.int p4), .val (.int p5), .val (.int (3 : Int32)), .val (.int r1), .val (.int r2), .val (.int r3), .val (.int rel), .val (.ref b21), .val (.double (FP.ddiv (FP.dadd (FP.dadd (FP.dadd (0 : UInt64) (FP.ddiv (4607182418800017408 : UInt64) (FP.i2d r1))) (FP.ddiv (4611686018427387904 : UInt64) (FP.i2d r2))) (FP.ddiv (4613937818241073152 : UInt64) (FP.i2d r3))) (FP.i2d rel))), .second, .unset, .unset, .val (.double (FP.ddiv (4607182418800017408 : UInt64) (FP.i2d r1))), .second, .val (.double (FP.ddiv (4611686018427387904 : UInt64) (FP.i2d r2))), .second, .val (.double (FP.ddiv (4613937818241073152 : UInt64) (FP.i2d r3))), .second, .val (.double (FP.dadd (FP.dadd (0 : UInt64) (FP.ddiv (4607182418800017408 : UInt64) (FP.i2d r1))) (FP.ddiv (4611686018427387904 : UInt64) (FP.i2d r2)))), .second]) (rfl : _ = 163) ?_
      refine own_f_iload X28.here hx (hb hby at_163) rfl (rfl : _ = 165) ?_
      refine own_f_iconst X28.here hx (hb hby at_165) (rfl : _ = (3 : Int32)) (rfl : _ = 166) ?_
      refine own_f_icmpNo X28.here hx (hb hby at_166) (flt (by decide)).1 (rfl : _ = 169) ?_
      refine own_f_dload X28.here hx (hb hby at_169) rfl (rfl : _ = 171) ?_
      refine own_f_dload X28.here hx (hb hby at_171) rfl (rfl : _ = 173) ?_
      refine own_f_dadd X28.here hx (hb hby at_173) (hs3) rfl (rfl : _ = 174) ?_
      refine own_f_dstore X28.here hx (hb hby at_174) (rfl : storeLocals _ _ _ = some #[.val (.int p1), .val (.int p2), .val (.int p3), .val (.int p4), .val (.int p5), .val (.int (3 : Int32)), .val (.int r1), .val (.int r2), .val (.int r3), .val (.int rel), .val (.ref b21), .val (.double (FP.ddiv (FP.dadd (FP.dadd (FP.dadd (0 : UInt64) (FP.ddiv (4607182418800017408 : UInt64) (FP.i2d r1))) (FP.ddiv (4611686018427387904 : UInt64) (FP.i2d r2))) (FP.ddiv (4613937818241073152 : UInt64) (FP.i2d r3))) (FP.i2d rel))), .second, .unset, .unset, .val (.double (FP.ddiv (4607182418800017408 : UInt64) (FP.i2d r1))), .second, .val (.double (FP.ddiv (4611686018427387904 : UInt64) (FP.i2d r2))), .second, .val (.double (FP.ddiv (4613937818241073152 : UInt64) (FP.i2d r3))), .second, .val (.double (FP.dadd (FP.dadd (FP.dadd (0 : UInt64) (FP.ddiv (4607182418800017408 : UInt64) (FP.i2d r1))) (FP.ddiv (4611686018427387904 : UInt64) (FP.i2d r2))) (FP.ddiv (4613937818241073152 : UInt64) (FP.i2d r3)))), .second]) (rfl : _ = 176) ?_
      refine own_f_dload X28.here hx (hb hby at_176) rfl (rfl : _ = 178) ?_
      refine own_f_iload X28.here hx (hb hby at_178) rfl (rfl : _ = 180) ?_
      refine own_f_i2d X28.here hx (hb hby at_180) rfl (rfl : _ = 181) ?_
      refine own_f_ddiv X28.here hx (hb hby at_181) (own_dnn hs3 hz) rfl (rfl : _ = 182) ?_
      refine own_f_dstore X28.here hx (hb hby at_182) (rfl : storeLocals _ _ _ = some #[.val (.int p1), .val (.int p2), .val (.int p3), .val (.int p4), .val (.int p5), .val (.int (3 : Int32)), .val (.int r1), .val (.int r2), .val (.int r3), .val (.int rel), .val (.ref b21), .val (.double (FP.ddiv (FP.dadd (FP.dadd (FP.dadd (0 : UInt64) (FP.ddiv (4607182418800017408 : UInt64) (FP.i2d r1))) (FP.ddiv (4611686018427387904 : UInt64) (FP.i2d r2))) (FP.ddiv (4613937818241073152 : UInt64) (FP.i2d r3))) (FP.i2d rel))), .second, .val (.double (FP.ddiv (FP.dadd (FP.dadd (FP.dadd (0 : UInt64) (FP.ddiv (4607182418800017408 : UInt64) (FP.i2d r1))) (FP.ddiv (4611686018427387904 : UInt64) (FP.i2d r2))) (FP.ddiv (4613937818241073152 : UInt64) (FP.i2d r3))) (FP.i2d rel))), .second, .val (.double (FP.ddiv (4607182418800017408 : UInt64) (FP.i2d r1))), .second, .val (.double (FP.ddiv (4611686018427387904 : UInt64) (FP.i2d r2))), .second, .val (.double (FP.ddiv (4613937818241073152 : UInt64) (FP.i2d r3))), .second, .val (.double (FP.dadd (FP.dadd (FP.dadd (0 : UInt64) (FP.ddiv (4607182418800017408 : UInt64) (FP.i2d r1))) (FP.ddiv (4611686018427387904 : UInt64) (FP.i2d r2))) (FP.ddiv (4613937818241073152 : UInt64) (FP.i2d r3)))), .second]) (rfl : _ = 184) ?_
      refine own_f_dload X28.here hx (hb hby at_184) rfl (rfl : _ = 186) ?_
      refine own_f_dload X28.here hx (hb hby at_186) rfl (rfl : _ = 188) ?_
      refine own_f_dcmp X28.here hx (hb hby at_188) rfl (rfl : _ = 189) ?_
      refine own_f_ifNo X28.here hx (hb hby at_189) ((if0 _ _).trans (teq (dcmpV_self (own_dnn hs3 hz) .l)).2) (rfl : _ = 192) ?_
      refine own_f_iconst X28.here hx (hb hby at_192) (rfl : _ = (1 : Int32)) (rfl : _ = 193) ?_
      refine own_f_goto X28.here hx (hb hby at_193) (by decide) (by decide : _ = 197) ?_
      exact retN X28 hx (t := .boolean) Bd.returns (by simp) (hb hby at_197) hr
    · show Q0 Z p1 p2 p3 p4 p5 h0 n0 _ T28.heap _
      rw [e28]
      exact ⟨rfl, N28⟩
set_option maxRecDepth 65536 in
set_option maxHeartbeats 40000000 in
theorem comes_1 {Post : Tables → Env → Array Value → State → Outcome → State → Prop} (hpost : ∀ tb e args s v u, (limb_1_1.after args s (.returned v) u = true ∧ limb_1_2.after args s (.returned v) u = true ∧ True) → FrameEnd s (.returned v) u (Jvm.fieldLocs frame_1_writes args s ++ Jvm.arrayLocs frame_1_arrays args s ++ Jvm.staticLocs frame_1_statics s) 16 128 → Post tb e args s (.returned v) u) :
    ArmFor flags0 classFile x code maxLocals ret World_1 tables_1 room_1 Calls_1 rest_1 Pre_1 Post := by
  intro l hfl _ _ p e ha hc hk s m args below hf hA hF happ hP
  obtain ⟨hcalls, hrest, hpre⟩ := hP
  obtain ⟨-, -, -, hnamed, -, -, -, hat⟩ := (Spec.applies_iff hf).mp happ
  obtain ⟨hg, hn⟩ := and_e (Cond.before_iff.mp (show (Jvm.Cond.and given_1 narrow_1).before args s = true from hpre))
  obtain ⟨gc, gr0⟩ := and_e hg
  obtain ⟨g0, gr1⟩ := and_e gr0
  obtain ⟨g1, gr2⟩ := and_e gr1
  obtain ⟨g2, gr3⟩ := and_e gr2
  obtain ⟨g3, gr4⟩ := and_e gr3
  have g4 := gr4
  obtain ⟨w0, w1, w2, w3, w4, rfl⟩ : ∃ w0 w1 w2 w3 w4 : Value, args = #[w0, w1, w2, w3, w4] := by
    have hs : args.size = 5 := by simpa [Cond.value, given_1] using gc
    obtain ⟨L⟩ := args
    match L, hs with
    | [w0, w1, w2, w3, w4], _ => exact ⟨w0, w1, w2, w3, w4, rfl⟩
  have hw := fun d (hd : d ∈ tables_1) => atoms_spec (ws := Jvm.Cond.code x code maxLocals ret :: tables_1) hat d (List.mem_cons_of_mem _ hd)
  have hfit : Fit s := fun {y c} hc i hi => by
    obtain ⟨ha, rfl⟩ := Array.getElem?_eq_some_iff.mp hc
    have q := List.all_eq_true.mp ((Array.all_eq_true_iff_forall_mem.mp hF) _ (Array.getElem_mem ha)) i (List.mem_range.mpr hi)
    simpa [Array.getElem?_eq_getElem hi] using q
  obtain ⟨i0, ei0⟩ := is_v g0
  obtain rfl : w0 = (.int i0) := Option.some.inj ei0
  obtain ⟨i1, ei1⟩ := is_v g1
  obtain rfl : w1 = (.int i1) := Option.some.inj ei1
  obtain ⟨i2, ei2⟩ := is_v g2
  obtain rfl : w2 = (.int i2) := Option.some.inj ei2
  obtain ⟨i3, ei3⟩ := is_v g3
  obtain rfl : w3 = (.int i3) := Option.some.inj ei3
  obtain ⟨i4, ei4⟩ := is_v g4
  obtain rfl : w4 = (.int i4) := Option.some.inj ei4
  obtain ⟨n, o, h1, h2, h3, _, L, rfl, ⟨rfl, N⟩, hq⟩ := rm0 l s _ hw tables_1 i0 i1 i2 i3 i4  s.heap s.heap.size (Nat.le_refl _)  p e ha hc hk s m _ below hf ((Spec.applies_iff_loose hf).mp happ).1 ⟨rfl, State.Warmed39.refl s, rfl⟩ trivial
  refine ⟨n, _, h1, h2, h3, hpost _ _ _ _ _ _ ⟨Cond.after_iff.mpr rfl, Cond.after_iff.mpr (eq_i res_at (Term.int_eval (1)) rfl), trivial⟩ ⟨hq.1, hq.2.1, (hq.2.2.sift fun y hy => Or.inr (N y hy)).mono (by decide) (by decide)⟩⟩
theorem main_1_1 : Claimed_1_1 := comes_1 fun _ _ _ _ _ _ h hF => ⟨h.1, hF⟩
theorem main_1_2 : Claimed_1_2 := comes_1 fun _ _ _ _ _ _ h hF => ⟨h.2.1, hF⟩
end Jvm.Pilot.@@N@@
namespace Jvm.Pilot.@@N@@
open Jvm Jvm.ClassFile Sem Op Lib Jvm.Free Jvm.Stand Jvm.Pilot.@@N@@.Jvm.D
/-! MADE BY PROGRAM (witnessworld.py) out of the Statement's table words and the real class files: 13 classes; the members and pool entries that the words name. The judged class is class 1, her method 1. -/
namespace start1
open Jvm.ClassFile
def u (s : String) : CpInfo := .utf8 (stringToUtf16 s)
/-- a pool by its gaps: so many unusable entries, then the entry; so many at the end -/
def gap : Nat → List CpInfo → List CpInfo
  | 0, r => r
  | n + 1, r => .unusable :: gap n r
def poolList (es : List (Nat × CpInfo)) (last : Nat) : List CpInfo := es.foldr (fun e r => gap e.1 (e.2 :: r)) (gap last [])
def pool (es : List (Nat × CpInfo)) (last : Nat) : Array CpInfo := ⟨poolList es last⟩
def fileOf (pool : Array CpInfo) (this : Nat) (attrs : Array Attribute := #[]) (ms : Array MethodInfo := #[]) (fl : Nat := 33) (sup : Nat := 0) (ifs : Array Nat := #[]) (fds : Array FieldInfo := #[]) : ClassFile where
  minorVersion := 0
  majorVersion := 65
  constantPool := pool
  accessFlags := fl
  thisClass := this
  superClass := sup
  interfaces := ifs
  fields := fds
  methods := ms
  attributes := attrs
def plain (name : String) (sup : Option ClassId) : Class where
  name := name
  kind := .ordinary
  loader := none
  accessFlags := 33
  super := sup
  interfaces := #[]
  cf := none
  fields := #[]
  methods := #[]
  instanceTypes := #[]
  staticTypes := #[]
  resolved := #[]
  callSites := []
  init := .initialized
  statics := none
  mirror := none

def pool0 : Array CpInfo := pool [(5, u "<init>"), (0, u "()V"), (1, .class_ 10), (1, u "java/lang/Object")] 113

def k0m0 : Method := { name := "<init>", desc := "()V", sig := { parameters := [], returnType := none }, accessFlags := 1, code := none }
/-- java/lang/Object -/
def k0 : Class := { plain "java/lang/Object" none with
  accessFlags := 33
  interfaces := #[]
  cf := some (fileOf pool0 8 #[] #[{ accessFlags := 1, nameIndex := 5, descriptorIndex := 6, attributes := #[] }] 33 0 #[] #[])
  fields := #[]
  methods := #[k0m0]
  instanceTypes := #[]
  staticTypes := #[]
  resolved := Array.replicate 124 none
  statics := none }

def pool1 : Array CpInfo := pool [(2, .class_ 4), (1, u "java/lang/Object"), (0, u "<init>"), (0, u "()V"), (0, .integer 536870911), (0, .integer 2147483647), (0, .methodref 10 11), (0, .class_ 12), (0, .nameAndType 13 14), (0, u "java/lang/Math"), (0, u "max"), (0, u "(II)I"), (0, .methodref 16 17), (0, .class_ 18), (0, .nameAndType 19 20), (0, u "com/example/prose_to_query/prosetoquery/retrieval/Measure"), (0, u "averagePrecision"), (0, u "([II)D"), (0, .double 4611686018427387904), (1, .double 4613937818241073152), (1, .class_ 26), (0, u "com/example/prose_to_query/prosetoquery/retrieval/MeasureAveragePrecisionPinLaw"), (2, u "law"), (0, u "(IIIII)Z")] 5

def k1m0 : Method := { name := "<init>", desc := "()V", sig := { parameters := [], returnType := none }, accessFlags := 1, code := none }
def k1c1 : Code := { maxStack := 4, maxLocals := 23, code := code, exceptionTable := #[], attributes := #[] }
def k1m1 : Method := { name := "law", desc := "(IIIII)Z", sig := { parameters := [.int, .int, .int, .int, .int], returnType := some .boolean }, accessFlags := 9, code := some k1c1 }
/-- com/example/prose_to_query/prosetoquery/retrieval/MeasureAveragePrecisionPinLaw -/
def k1 : Class := { plain "com/example/prose_to_query/prosetoquery/retrieval/MeasureAveragePrecisionPinLaw" (some 0) with
  accessFlags := 49
  interfaces := #[]
  cf := some (fileOf pool1 25 #[] #[{ accessFlags := 1, nameIndex := 5, descriptorIndex := 6, attributes := #[] }, { accessFlags := 9, nameIndex := 29, descriptorIndex := 30, attributes := #[] }] 49 2 #[] #[])
  fields := #[]
  methods := #[k1m0, k1m1]
  instanceTypes := #[]
  staticTypes := #[]
  resolved := Array.replicate 36 none
  statics := none }

def pool2 : Array CpInfo := pool [(1, .class_ 2), (0, u "java/lang/Math"), (1, .class_ 6), (1, u "java/lang/Object"), (0, u "<init>"), (0, u "()V"), (89, .class_ 100), (1, u "java/lang/Math$RandomNumberGeneratorHolder"), (71, u "negativeZeroFloatBits"), (0, u "J"), (2, u "negativeZeroDoubleBits"), (21, u "max"), (46, u "$assertionsDisabled"), (0, u "Z"), (88, u "(II)I"), (2, u "twoToTheDoubleScaleDown"), (0, u "D"), (4, u "twoToTheDoubleScaleUp"), (9, u "E"), (3, u "PI"), (2, u "TAU"), (2, u "DEGREES_TO_RADIANS"), (0, u "RADIANS_TO_DEGREES")] 94

def k2m0 : Method := { name := "<init>", desc := "()V", sig := { parameters := [], returnType := none }, accessFlags := 2, code := none }
def k2c1 : Code := { maxStack := 2, maxLocals := 2, code := jdk_29_method_65_code, exceptionTable := #[], attributes := #[] }
def k2m1 : Method := { name := "max", desc := "(II)I", sig := { parameters := [.int, .int], returnType := some .int }, accessFlags := 9, code := some k2c1 }
/-- java/lang/Math -/
def k2 : Class := { plain "java/lang/Math" (some 0) with
  accessFlags := 49
  interfaces := #[]
  cf := some (fileOf pool2 1 #[.nestMembers #[98]] #[{ accessFlags := 2, nameIndex := 7, descriptorIndex := 8, attributes := #[] }, { accessFlags := 9, nameIndex := 198, descriptorIndex := 335, attributes := #[] }] 49 4 #[] #[{ accessFlags := 25, nameIndex := 354, descriptorIndex := 339, attributes := #[] }, { accessFlags := 25, nameIndex := 358, descriptorIndex := 339, attributes := #[] }, { accessFlags := 25, nameIndex := 361, descriptorIndex := 339, attributes := #[] }, { accessFlags := 26, nameIndex := 364, descriptorIndex := 339, attributes := #[] }, { accessFlags := 26, nameIndex := 365, descriptorIndex := 339, attributes := #[] }, { accessFlags := 26, nameIndex := 172, descriptorIndex := 173, attributes := #[] }, { accessFlags := 26, nameIndex := 176, descriptorIndex := 173, attributes := #[] }, { accessFlags := 8, nameIndex := 344, descriptorIndex := 339, attributes := #[] }, { accessFlags := 8, nameIndex := 338, descriptorIndex := 339, attributes := #[] }, { accessFlags := 4120, nameIndex := 245, descriptorIndex := 246, attributes := #[] }])
  fields := #[{ name := "E", type := .double, accessFlags := 25, slot := 0, constantValue := 0 }, { name := "PI", type := .double, accessFlags := 25, slot := 1, constantValue := 0 }, { name := "TAU", type := .double, accessFlags := 25, slot := 2, constantValue := 0 }, { name := "DEGREES_TO_RADIANS", type := .double, accessFlags := 26, slot := 3, constantValue := 0 }, { name := "RADIANS_TO_DEGREES", type := .double, accessFlags := 26, slot := 4, constantValue := 0 }, { name := "negativeZeroFloatBits", type := .long, accessFlags := 26, slot := 5, constantValue := 0 }, { name := "negativeZeroDoubleBits", type := .long, accessFlags := 26, slot := 6, constantValue := 0 }, { name := "twoToTheDoubleScaleUp", type := .double, accessFlags := 8, slot := 7, constantValue := 0 }, { name := "twoToTheDoubleScaleDown", type := .double, accessFlags := 8, slot := 8, constantValue := 0 }, { name := "$assertionsDisabled", type := .boolean, accessFlags := 4120, slot := 9, constantValue := 0 }]
  methods := #[k2m0, k2m1]
  instanceTypes := #[]
  staticTypes := #[.double, .double, .double, .double, .double, .long, .long, .double, .double, .boolean]
  resolved := Array.replicate 460 none
  statics := none }

def pool3 : Array CpInfo := pool [(1, .class_ 2), (0, u "java/lang/constant/Constable"), (0, .class_ 4), (0, u "java/lang/Object")] 6

/-- java/lang/constant/Constable -/
def k3 : Class := { plain "java/lang/constant/Constable" (some 0) with
  accessFlags := 1537
  interfaces := #[]
  cf := some (fileOf pool3 1 #[] #[] 1537 3 #[] #[])
  fields := #[]
  methods := #[]
  instanceTypes := #[]
  staticTypes := #[]
  resolved := Array.replicate 11 none
  statics := none }

def pool4 : Array CpInfo := pool [(1, .class_ 2), (0, u "java/lang/Comparable"), (0, .class_ 4), (0, u "java/lang/Object")] 7

/-- java/lang/Comparable -/
def k4 : Class := { plain "java/lang/Comparable" (some 0) with
  accessFlags := 1537
  interfaces := #[]
  cf := some (fileOf pool4 1 #[] #[] 1537 3 #[] #[])
  fields := #[]
  methods := #[]
  instanceTypes := #[]
  staticTypes := #[]
  resolved := Array.replicate 12 none
  statics := none }

def pool5 : Array CpInfo := pool [(1, .class_ 2), (0, u "java/io/Serializable"), (0, .class_ 4), (0, u "java/lang/Object")] 2

/-- java/io/Serializable -/
def k5 : Class := { plain "java/io/Serializable" (some 0) with
  accessFlags := 1537
  interfaces := #[]
  cf := some (fileOf pool5 1 #[] #[] 1537 3 #[] #[])
  fields := #[]
  methods := #[]
  instanceTypes := #[]
  staticTypes := #[]
  resolved := Array.replicate 7 none
  statics := none }

def pool6 : Array CpInfo := pool [(2, .class_ 4), (1, u "java/lang/Enum"), (0, u "name"), (0, u "Ljava/lang/String;"), (2, u "ordinal"), (0, u "I"), (1, .class_ 14), (1, u "java/lang/Object"), (4, u "hash"), (86, .class_ 108), (1, u "java/lang/Enum$EnumDesc"), (2, .class_ 112), (0, u "java/lang/constant/Constable"), (0, .class_ 114), (0, u "java/lang/Comparable"), (0, .class_ 116), (0, u "java/io/Serializable")] 87

/-- java/lang/Enum -/
def k6 : Class := { plain "java/lang/Enum" (some 0) with
  accessFlags := 1057
  interfaces := #[3, 4, 5]
  cf := some (fileOf pool6 2 #[.nestMembers #[106]] #[] 1057 12 #[111, 113, 115] #[{ accessFlags := 18, nameIndex := 5, descriptorIndex := 6, attributes := #[] }, { accessFlags := 18, nameIndex := 9, descriptorIndex := 10, attributes := #[] }, { accessFlags := 2, nameIndex := 19, descriptorIndex := 10, attributes := #[] }])
  fields := #[{ name := "name", type := (.object "java/lang/String"), accessFlags := 18, slot := 0, constantValue := 0 }, { name := "ordinal", type := .int, accessFlags := 18, slot := 1, constantValue := 0 }, { name := "hash", type := .int, accessFlags := 2, slot := 2, constantValue := 0 }]
  methods := #[]
  instanceTypes := #[(.object "java/lang/String"), .int, .int]
  staticTypes := #[]
  resolved := Array.replicate 204 none
  statics := none }

def pool7 : Array CpInfo := pool [(1, .class_ 2), (0, u "com/example/prose_to_query/prosetoquery/retrieval/Measure"), (2, u "MAP"), (0, u "Lcom/example/prose_to_query/prosetoquery/retrieval/Measure;"), (2, u "GM_MAP"), (2, u "P_10"), (2, u "NDCG_CUT_20"), (2, u "RECALL_1000"), (2, u "$VALUES"), (0, u "[Lcom/example/prose_to_query/prosetoquery/retrieval/Measure;"), (6, .class_ 31), (1, u "java/lang/Enum"), (8, u "label"), (0, u "Ljava/lang/String;"), (2, u "cutoff"), (0, u "I"), (11, u "averagePrecision"), (97, u "([II)D"), (39, u "LN_2"), (0, u "D"), (22, u "GM_FLOOR")] 23

def k7c0 : Code := { maxStack := 7, maxLocals := 5, code := prog_11_method_9_code, exceptionTable := #[], attributes := #[] }
def k7m0 : Method := { name := "averagePrecision", desc := "([II)D", sig := { parameters := [(.array .int), .int], returnType := some .double }, accessFlags := 9, code := some k7c0 }
/-- com/example/prose_to_query/prosetoquery/retrieval/Measure -/
def k7 : Class := { plain "com/example/prose_to_query/prosetoquery/retrieval/Measure" (some 6) with
  accessFlags := 16433
  interfaces := #[]
  cf := some (fileOf pool7 1 #[] #[{ accessFlags := 9, nameIndex := 57, descriptorIndex := 155, attributes := #[] }] 16433 29 #[] #[{ accessFlags := 16409, nameIndex := 5, descriptorIndex := 6, attributes := #[] }, { accessFlags := 16409, nameIndex := 9, descriptorIndex := 6, attributes := #[] }, { accessFlags := 16409, nameIndex := 12, descriptorIndex := 6, attributes := #[] }, { accessFlags := 16409, nameIndex := 15, descriptorIndex := 6, attributes := #[] }, { accessFlags := 16409, nameIndex := 18, descriptorIndex := 6, attributes := #[] }, { accessFlags := 26, nameIndex := 219, descriptorIndex := 196, attributes := #[] }, { accessFlags := 26, nameIndex := 195, descriptorIndex := 196, attributes := #[] }, { accessFlags := 18, nameIndex := 40, descriptorIndex := 41, attributes := #[] }, { accessFlags := 18, nameIndex := 44, descriptorIndex := 45, attributes := #[] }, { accessFlags := 4122, nameIndex := 21, descriptorIndex := 22, attributes := #[] }])
  fields := #[{ name := "MAP", type := (.object "com/example/prose_to_query/prosetoquery/retrieval/Measure"), accessFlags := 16409, slot := 0, constantValue := 0 }, { name := "GM_MAP", type := (.object "com/example/prose_to_query/prosetoquery/retrieval/Measure"), accessFlags := 16409, slot := 1, constantValue := 0 }, { name := "P_10", type := (.object "com/example/prose_to_query/prosetoquery/retrieval/Measure"), accessFlags := 16409, slot := 2, constantValue := 0 }, { name := "NDCG_CUT_20", type := (.object "com/example/prose_to_query/prosetoquery/retrieval/Measure"), accessFlags := 16409, slot := 3, constantValue := 0 }, { name := "RECALL_1000", type := (.object "com/example/prose_to_query/prosetoquery/retrieval/Measure"), accessFlags := 16409, slot := 4, constantValue := 0 }, { name := "GM_FLOOR", type := .double, accessFlags := 26, slot := 5, constantValue := 0 }, { name := "LN_2", type := .double, accessFlags := 26, slot := 6, constantValue := 0 }, { name := "label", type := (.object "java/lang/String"), accessFlags := 18, slot := 3, constantValue := 0 }, { name := "cutoff", type := .int, accessFlags := 18, slot := 4, constantValue := 0 }, { name := "$VALUES", type := (.array (.object "com/example/prose_to_query/prosetoquery/retrieval/Measure")), accessFlags := 4122, slot := 7, constantValue := 0 }]
  methods := #[k7m0]
  instanceTypes := #[(.object "java/lang/String"), .int, .int, (.object "java/lang/String"), .int]
  staticTypes := #[(.object "com/example/prose_to_query/prosetoquery/retrieval/Measure"), (.object "com/example/prose_to_query/prosetoquery/retrieval/Measure"), (.object "com/example/prose_to_query/prosetoquery/retrieval/Measure"), (.object "com/example/prose_to_query/prosetoquery/retrieval/Measure"), (.object "com/example/prose_to_query/prosetoquery/retrieval/Measure"), .double, .double, (.array (.object "com/example/prose_to_query/prosetoquery/retrieval/Measure"))]
  resolved := Array.replicate 243 none
  statics := none }

def pool8 : Array CpInfo := pool [(1, u "java/lang/Cloneable"), (0, .class_ 1), (0, u "java/lang/Object"), (0, .class_ 3)] 3

/-- java/lang/Cloneable -/
def k8 : Class := { plain "java/lang/Cloneable" (some 0) with
  accessFlags := 1537
  interfaces := #[]
  cf := some (fileOf pool8 2 #[] #[] 1537 4 #[] #[])
  fields := #[]
  methods := #[]
  instanceTypes := #[]
  staticTypes := #[]
  resolved := Array.replicate 8 none
  statics := none }

/-- the primitive byte -/
def k9 : Class := { plain "byte" none with kind := .primitive 'B', accessFlags := 0x411 }
/-- [B -/
def k10 : Class := { plain "[B" (some 0) with kind := .array 9 .byte, interfaces := #[8, 5], accessFlags := 1041 }

/-- the primitive int -/
def k11 : Class := { plain "int" none with kind := .primitive 'I', accessFlags := 0x411 }
/-- [I -/
def k12 : Class := { plain "[I" (some 0) with kind := .array 11 .int, interfaces := #[8, 5], accessFlags := 1041 }

def heap : Heap := #[]
def classes : Array Class := #[k0, k1, k2, k3, k4, k5, k6, k7, k8, k9, k10, k11, k12]
def interned : List (Array UInt16 × Addr) := []
def slotsUsed : Nat := 0
def theMethod : MethodId := ⟨1, 1⟩
def args0 : Array Value := #[.int 3, .int 4, .int 5, .int 6, .int 7]
def aboutOver (below : List Frame) : State where
  vm := { classes := classes, interned := interned.toArray }
  heap := heap
  slotsUsed := slotsUsed
  threads := #[{ frames := .invoking theMethod args0 :: below }]
def below0 : List Frame := [.native { method := ⟨0, 0⟩, args := #[] }]
def about1 : State := aboutOver below0
def p0 : Program := .bare "" "" ""
def e0 : Env := launch0.env 0 0 0
theorem w_frames : about1.frames = Frame.invoking theMethod args0 :: below0 := rfl
set_option maxRecDepth 65536 in
theorem w_args : argsFit about1.vm theMethod args0 = true := by decide +kernel
set_option maxRecDepth 65536 in
theorem w_heap : heapFits about1 = true := by decide +kernel
set_option maxRecDepth 65536 in
theorem w_runnable : about1.curStatus? = some .runnable := by decide +kernel
set_option maxRecDepth 65536 in
theorem w_alone : about1.alone = true := by decide +kernel
set_option maxRecDepth 65536 in
theorem w_named : about1.methodNamed? x = some theMethod := by decide +kernel
set_option maxRecDepth 65536 in
theorem w_hears : about1.hears theMethod below0 = true := by decide +kernel
set_option maxRecDepth 65536 in
theorem w_ripe : about1.ripe theMethod args0 below0 = true := by decide +kernel
theorem w_running : about1.status = .running := rfl
set_option maxRecDepth 65536 in
theorem w_room : about1.hasRoom e0.platform room_1 = true :=
  launch0.hasRoom_least _ room_1 (by decide +kernel) (by decide +kernel) (by decide +kernel) (by decide +kernel) (by decide +kernel) (by decide +kernel)
theorem allAtoms_all (ts : List Jvm.Cond) (a : Array Jvm.Value) (st : Jvm.State) : (allAtoms ts).before a st = ts.all (fun c => c.before a st) := by
  induction ts with
  | nil => rfl
  | cons c t ih =>
    show (Jvm.Cond.and c (allAtoms t)).before a st = _
    rw [Jvm.Cond.before_and, ih, List.all_cons]
def words1 : List Jvm.Cond := Jvm.Cond.code x code maxLocals ret :: tables_1
/-- a 'code' word, met by the world's own term for the bytes: nothing is compared byte by byte -/
theorem code_word {y : MethodName} {bytes : ByteArray} {mx : Nat} {rt : Option FieldType} {a : Array Value} {s : State} {m : MethodId} {meth : Method} {c : Code} (h1 : s.methodNamed? y = some m) (h2 : s.vm.method? m = some meth) (h3 : meth.code = some c) (h4 : c.code = bytes)
    (h5 : (c.maxLocals == mx && c.exceptionTable.isEmpty && decide (c.maxStack ≤ mostOperands) && decide (meth.sig.returnType = rt) && !meth.locks && decide (parseMethodDescriptor y.desc = some meth.sig)) = true) : (Jvm.Cond.code y bytes mx rt).before a s = true := by
  simp only [Bool.and_eq_true, beq_iff_eq, Bool.not_eq_true', decide_eq_true_eq] at h5
  obtain ⟨⟨⟨⟨⟨g1, g2⟩, g3⟩, g4⟩, g5⟩, g6⟩ := h5
  simp [Cond.before, Cond.holds, Cond.value, h1, h2, h3, h4, g1, g2, g3, g4, g5, g6]
def isCode : Jvm.Cond → Bool
  | .code _ _ _ _ => true
  | _ => false
theorem all_split {L : List Jvm.Cond} {P : Jvm.Cond → Bool} (h1 : L.all (fun c => isCode c || P c) = true) (h2 : ∀ c ∈ L.filter isCode, P c = true) : L.all P = true := by
  refine List.all_eq_true.mpr fun c hc => ?_
  have h := List.all_eq_true.mp h1 c hc
  rcases Bool.eq_false_or_eq_true (isCode c) with hi | hi
  · exact h2 c (List.mem_filter.mpr ⟨hc, hi⟩)
  · simpa [hi] using h
set_option maxRecDepth 65536 in
theorem w_c0 : (Jvm.Cond.code x code maxLocals ret).before args0 about1 = true := code_word (m := ⟨1, 1⟩) (meth := k1m1) (c := k1c1) (by decide +kernel) rfl rfl rfl (by decide +kernel)
set_option maxRecDepth 65536 in
theorem w_c1 : (Jvm.Cond.code ({ cls := "java/lang/Math", name := "max", desc := "(II)I" } : Jvm.MethodName) jdk_29_method_65_code (2 : Nat) (Option.some Jvm.ClassFile.FieldType.int)).before args0 about1 = true := code_word (m := ⟨2, 1⟩) (meth := k2m1) (c := k2c1) (by decide +kernel) rfl rfl rfl (by decide +kernel)
set_option maxRecDepth 65536 in
theorem w_c2 : (Jvm.Cond.code ({ cls := "com/example/prose_to_query/prosetoquery/retrieval/Measure", name := "averagePrecision", desc := "([II)D" } : Jvm.MethodName) prog_11_method_9_code (5 : Nat) (Option.some Jvm.ClassFile.FieldType.double)).before args0 about1 = true := code_word (m := ⟨7, 0⟩) (meth := k7m0) (c := k7c0) (by decide +kernel) rfl rfl rfl (by decide +kernel)
def codes1 : List Jvm.Cond := [Jvm.Cond.code x code maxLocals ret, Jvm.Cond.code ({ cls := "java/lang/Math", name := "max", desc := "(II)I" } : Jvm.MethodName) jdk_29_method_65_code (2 : Nat) (Option.some Jvm.ClassFile.FieldType.int), Jvm.Cond.code ({ cls := "com/example/prose_to_query/prosetoquery/retrieval/Measure", name := "averagePrecision", desc := "([II)D" } : Jvm.MethodName) prog_11_method_9_code (5 : Nat) (Option.some Jvm.ClassFile.FieldType.double)]
set_option maxRecDepth 65536 in
theorem codes_eq : words1.filter isCode = codes1 := rfl
theorem w_codes : ∀ c ∈ words1.filter isCode, c.before args0 about1 = true := by
  rw [codes_eq]
  intro c hc
  simp only [codes1, List.mem_cons, List.not_mem_nil, or_false] at hc
  rcases hc with rfl | rfl | rfl
  · exact w_c0
  · exact w_c1
  · exact w_c2
set_option maxRecDepth 65536 in
theorem w_t1 : words1.all (fun c => isCode c || c.before args0 about1) = true := by decide +kernel
theorem w_tables : (allAtoms (Jvm.Cond.code x code maxLocals ret :: tables_1)).before args0 about1 = true := by
  rw [allAtoms_all]
  show words1.all (fun c => c.before args0 about1) = true
  refine all_split ?_ w_codes
  rw [w_t1]
set_option maxRecDepth 65536 in
theorem w_case : (Jvm.Cond.and given_1 narrow_1).before args0 about1 = true := by decide +kernel
theorem w_applies : (headSpec (Jvm.Cond.code x code maxLocals ret :: tables_1) room_1).applies x e0.platform about1 = true :=
  (Spec.applies_iff w_frames).mpr ⟨w_running, w_runnable, w_alone, w_named, w_hears, w_ripe, w_room, w_tables⟩
theorem atStart : AtStart classFile x code maxLocals ret World_1 tables_1 room_1 Calls_1 rest_1 Pre_1 launch0 p0 e0 about1 theMethod args0 below0 :=
  ⟨lists_1, trivial, launch0.admits_env _ _ _, launch0.least_env, fairChoices_fair.cas, fairChoices_fair.clock, w_frames, w_args, w_heap, w_applies, trivial, trivial, w_case⟩
end start1
theorem witness_1 : WitnessClaimed_1 := ⟨start1.p0, start1.e0, start1.about1, start1.theMethod, start1.args0, start1.below0, start1.atStart⟩
end Jvm.Pilot.@@N@@
