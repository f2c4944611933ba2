import JvmDerived
import JvmDerived.Pilot.@@N@@Statement
import JvmDerived.Pilot.@@N@@Code
set_option linter.unusedVariables false
set_option linter.unusedSimpArgs false
namespace Jvm.RoadKit
open Sem ClassFile Op Lib Jvm.Stand Jvm.Free Jvm.LawKit
section New
variable {p : Program} {l : Launch} {e : Env} {R : Room} {s : State} {m : MethodId} {args : Array Value} {below : List Frame} {meth : Method} {c : Code} {T : State} {locs : List Loc} {cells slots : Nat}
theorem retI (X : Stand p l e R s m args below meth c T locs cells slots) (hx : p.tables.exec = Jvm.exec) {pc : Nat} {Ls : Array Slot} {z : Int32} {rest : List Value} (hret : meth.sig.returnType = some .int) (hd : decode c.code pc = .ok (.ireturn, 1)) {fs : List Frame}
    (hl : ∀ (f : JFrame) (acts : List Action), f.method = m → f.locked = none → f.entered = [] → (doReturn e (T.setTop f) acts (some (.int z))).1 = T.setFrames fs) : Steps p.tables e below (T.setTop (mkF m pc Ls (.int z :: rest))) (T.setFrames fs) := by
  have hm' : T.vm.method? m = some meth := X.method'
  have hn : narrow .int (.int z) = .int z := rfl
  show Steps p.tables e below (T.setTop { method := m, pc := pc, locals := Ls, stack := _ :: rest, locked := none }) _
  jvm_step X.here [X.here.top, hx, hd, hm', hret, hn]
  first | (intro acts; rw [hl _ acts rfl rfl rfl]) | rw [hl _ _ rfl rfl rfl]
  exact Steps.refl _
theorem retD (X : Stand p l e R s m args below meth c T locs cells slots) (hx : p.tables.exec = Jvm.exec) {pc : Nat} {Ls : Array Slot} {z : UInt64} {rest : List Value} (hret : meth.sig.returnType = some .double) (hd : decode c.code pc = .ok (.dreturn, 1)) {fs : List Frame}
    (hl : ∀ (f : JFrame) (acts : List Action), f.method = m → f.locked = none → f.entered = [] → (doReturn e (T.setTop f) acts (some (.double z))).1 = T.setFrames fs) : Steps p.tables e below (T.setTop (mkF m pc Ls (.double z :: rest))) (T.setFrames fs) := by
  have hm' : T.vm.method? m = some meth := X.method'
  show Steps p.tables e below (T.setTop { method := m, pc := pc, locals := Ls, stack := _ :: rest, locked := none }) _
  jvm_step X.here [X.here.top, hx, hd, hm', hret]
  first | (intro acts; rw [hl _ acts rfl rfl rfl]) | rw [hl _ _ rfl rfl rfl]
  exact Steps.refl _
end New
end Jvm.RoadKit
namespace Jvm.Pilot.@@N@@
open Jvm
section OwnSteps
open Jvm Jvm.ClassFile Sem Op Lib Jvm.Free Jvm.Stand
open Jvm.RoadKit (lcmpW)
theorem own_f_iload {tb : Tables} [Ours tb] {e : Env} {below : List Frame} {T target : State} {m : MethodId} {c : Code} {Ls : Array Slot} {S : List Value} {pc pc' : Nat} {k : Nat} {v : Int32} (h : At T m c below) (hx : tb.exec = Jvm.exec) (hd : decode c.code pc = .ok (.iload k, 2)) (hl : Ls[k]? = some (.val (.int v))) (hp : pc + 2 = pc') (hr : Steps tb e below (T.setTop (mkF m pc' Ls (.int v :: S))) target) : Steps tb e below (T.setTop (mkF m pc Ls (S))) target := by subst hp; exact XS.iload h hx rfl hd hl hr
theorem own_f_iloadN {tb : Tables} [Ours tb] {e : Env} {below : List Frame} {T target : State} {m : MethodId} {c : Code} {Ls : Array Slot} {S : List Value} {pc pc' : Nat} {k : Fin 4} {v : Int32} (h : At T m c below) (hx : tb.exec = Jvm.exec) (hd : decode c.code pc = .ok (.iload_n k, 1)) (hl : Ls[k.val]? = some (.val (.int v))) (hp : pc + 1 = pc') (hr : Steps tb e below (T.setTop (mkF m pc' Ls (.int v :: S))) target) : Steps tb e below (T.setTop (mkF m pc Ls (S))) target := by subst hp; exact XS.iloadN h hx rfl hd hl hr
theorem own_f_istore {tb : Tables} [Ours tb] {e : Env} {below : List Frame} {T target : State} {m : MethodId} {c : Code} {Ls : Array Slot} {S : List Value} {pc pc' : Nat} {k : Nat} {v : Int32} {Ls' : Array Slot} (h : At T m c below) (hx : tb.exec = Jvm.exec) (hd : decode c.code pc = .ok (.istore k, 2)) (hl : storeLocals Ls k (.int v) = some Ls') (hp : pc + 2 = pc') (hr : Steps tb e below (T.setTop (mkF m pc' Ls' (S))) target) : Steps tb e below (T.setTop (mkF m pc Ls (.int v :: S))) target := by subst hp; exact XS.istore h hx rfl hd rfl hl hr
theorem own_f_istoreN {tb : Tables} [Ours tb] {e : Env} {below : List Frame} {T target : State} {m : MethodId} {c : Code} {Ls : Array Slot} {S : List Value} {pc pc' : Nat} {k : Fin 4} {v : Int32} {Ls' : Array Slot} (h : At T m c below) (hx : tb.exec = Jvm.exec) (hd : decode c.code pc = .ok (.istore_n k, 1)) (hl : storeLocals Ls k.val (.int v) = some Ls') (hp : pc + 1 = pc') (hr : Steps tb e below (T.setTop (mkF m pc' Ls' (S))) target) : Steps tb e below (T.setTop (mkF m pc Ls (.int v :: S))) target := by subst hp; exact XS.istoreN h hx rfl hd rfl hl hr
theorem own_f_lload {tb : Tables} [Ours tb] {e : Env} {below : List Frame} {T target : State} {m : MethodId} {c : Code} {Ls : Array Slot} {S : List Value} {pc pc' : Nat} {k : Nat} {v : Int64} (h : At T m c below) (hx : tb.exec = Jvm.exec) (hd : decode c.code pc = .ok (.lload k, 2)) (hl : Ls[k]? = some (.val (.long v))) (hp : pc + 2 = pc') (hr : Steps tb e below (T.setTop (mkF m pc' Ls (.long v :: S))) target) : Steps tb e below (T.setTop (mkF m pc Ls (S))) target := by subst hp; exact XS.lload h hx rfl hd hl hr
theorem own_f_lloadN {tb : Tables} [Ours tb] {e : Env} {below : List Frame} {T target : State} {m : MethodId} {c : Code} {Ls : Array Slot} {S : List Value} {pc pc' : Nat} {k : Fin 4} {v : Int64} (h : At T m c below) (hx : tb.exec = Jvm.exec) (hd : decode c.code pc = .ok (.lload_n k, 1)) (hl : Ls[k.val]? = some (.val (.long v))) (hp : pc + 1 = pc') (hr : Steps tb e below (T.setTop (mkF m pc' Ls (.long v :: S))) target) : Steps tb e below (T.setTop (mkF m pc Ls (S))) target := by subst hp; exact XS.lloadN h hx rfl hd hl hr
theorem own_f_lstore {tb : Tables} [Ours tb] {e : Env} {below : List Frame} {T target : State} {m : MethodId} {c : Code} {Ls : Array Slot} {S : List Value} {pc pc' : Nat} {k : Nat} {v : Int64} {Ls' : Array Slot} (h : At T m c below) (hx : tb.exec = Jvm.exec) (hd : decode c.code pc = .ok (.lstore k, 2)) (hl : storeLocals Ls k (.long v) = some Ls') (hp : pc + 2 = pc') (hr : Steps tb e below (T.setTop (mkF m pc' Ls' (S))) target) : Steps tb e below (T.setTop (mkF m pc Ls (.long v :: S))) target := by subst hp; exact XS.lstore h hx rfl hd rfl hl hr
theorem own_f_lstoreN {tb : Tables} [Ours tb] {e : Env} {below : List Frame} {T target : State} {m : MethodId} {c : Code} {Ls : Array Slot} {S : List Value} {pc pc' : Nat} {k : Fin 4} {v : Int64} {Ls' : Array Slot} (h : At T m c below) (hx : tb.exec = Jvm.exec) (hd : decode c.code pc = .ok (.lstore_n k, 1)) (hl : storeLocals Ls k.val (.long v) = some Ls') (hp : pc + 1 = pc') (hr : Steps tb e below (T.setTop (mkF m pc' Ls' (S))) target) : Steps tb e below (T.setTop (mkF m pc Ls (.long v :: S))) target := by subst hp; exact XS.lstoreN h hx rfl hd rfl hl hr
theorem own_f_dload {tb : Tables} [Ours tb] {e : Env} {below : List Frame} {T target : State} {m : MethodId} {c : Code} {Ls : Array Slot} {S : List Value} {pc pc' : Nat} {k : Nat} {v : UInt64} (h : At T m c below) (hx : tb.exec = Jvm.exec) (hd : decode c.code pc = .ok (.dload k, 2)) (hl : Ls[k]? = some (.val (.double v))) (hp : pc + 2 = pc') (hr : Steps tb e below (T.setTop (mkF m pc' Ls (.double v :: S))) target) : Steps tb e below (T.setTop (mkF m pc Ls (S))) target := by subst hp; exact XS.dload h hx rfl hd hl hr
theorem own_f_dloadN {tb : Tables} [Ours tb] {e : Env} {below : List Frame} {T target : State} {m : MethodId} {c : Code} {Ls : Array Slot} {S : List Value} {pc pc' : Nat} {k : Fin 4} {v : UInt64} (h : At T m c below) (hx : tb.exec = Jvm.exec) (hd : decode c.code pc = .ok (.dload_n k, 1)) (hl : Ls[k.val]? = some (.val (.double v))) (hp : pc + 1 = pc') (hr : Steps tb e below (T.setTop (mkF m pc' Ls (.double v :: S))) target) : Steps tb e below (T.setTop (mkF m pc Ls (S))) target := by subst hp; exact XS.dloadN h hx rfl hd hl hr
theorem own_f_dstore {tb : Tables} [Ours tb] {e : Env} {below : List Frame} {T target : State} {m : MethodId} {c : Code} {Ls : Array Slot} {S : List Value} {pc pc' : Nat} {k : Nat} {v : UInt64} {Ls' : Array Slot} (h : At T m c below) (hx : tb.exec = Jvm.exec) (hd : decode c.code pc = .ok (.dstore k, 2)) (hl : storeLocals Ls k (.double v) = some Ls') (hp : pc + 2 = pc') (hr : Steps tb e below (T.setTop (mkF m pc' Ls' (S))) target) : Steps tb e below (T.setTop (mkF m pc Ls (.double v :: S))) target := by subst hp; exact XS.dstore h hx rfl hd rfl hl hr
theorem own_f_dstoreN {tb : Tables} [Ours tb] {e : Env} {below : List Frame} {T target : State} {m : MethodId} {c : Code} {Ls : Array Slot} {S : List Value} {pc pc' : Nat} {k : Fin 4} {v : UInt64} {Ls' : Array Slot} (h : At T m c below) (hx : tb.exec = Jvm.exec) (hd : decode c.code pc = .ok (.dstore_n k, 1)) (hl : storeLocals Ls k.val (.double v) = some Ls') (hp : pc + 1 = pc') (hr : Steps tb e below (T.setTop (mkF m pc' Ls' (S))) target) : Steps tb e below (T.setTop (mkF m pc Ls (.double v :: S))) target := by subst hp; exact XS.dstoreN h hx rfl hd rfl hl hr
theorem own_f_aload {tb : Tables} [Ours tb] {e : Env} {below : List Frame} {T target : State} {m : MethodId} {c : Code} {Ls : Array Slot} {S : List Value} {pc pc' : Nat} {k : Nat} {v : Value} (h : At T m c below) (hx : tb.exec = Jvm.exec) (hd : decode c.code pc = .ok (.aload k, 2)) (hl : Ls[k]? = some (.val v)) (hv : v.isRef = true) (hp : pc + 2 = pc') (hr : Steps tb e below (T.setTop (mkF m pc' Ls (v :: S))) target) : Steps tb e below (T.setTop (mkF m pc Ls (S))) target := by subst hp; exact XS.aload h hx rfl hd hl hv hr
theorem own_f_aloadN {tb : Tables} [Ours tb] {e : Env} {below : List Frame} {T target : State} {m : MethodId} {c : Code} {Ls : Array Slot} {S : List Value} {pc pc' : Nat} {k : Fin 4} {v : Value} (h : At T m c below) (hx : tb.exec = Jvm.exec) (hd : decode c.code pc = .ok (.aload_n k, 1)) (hl : Ls[k.val]? = some (.val v)) (hv : v.isRef = true) (hp : pc + 1 = pc') (hr : Steps tb e below (T.setTop (mkF m pc' Ls (v :: S))) target) : Steps tb e below (T.setTop (mkF m pc Ls (S))) target := by subst hp; exact XS.aloadN h hx rfl hd hl hv hr
theorem own_f_astore {tb : Tables} [Ours tb] {e : Env} {below : List Frame} {T target : State} {m : MethodId} {c : Code} {Ls : Array Slot} {S : List Value} {pc pc' : Nat} {k : Nat} {v : Value} {Ls' : Array Slot} (h : At T m c below) (hx : tb.exec = Jvm.exec) (hd : decode c.code pc = .ok (.astore k, 2)) (hv : v.isRef = true) (hl : storeLocals Ls k v = some Ls') (hp : pc + 2 = pc') (hr : Steps tb e below (T.setTop (mkF m pc' Ls' (S))) target) : Steps tb e below (T.setTop (mkF m pc Ls (v :: S))) target := by subst hp; exact XS.astore h hx rfl hd rfl hv hl hr
theorem own_f_astoreN {tb : Tables} [Ours tb] {e : Env} {below : List Frame} {T target : State} {m : MethodId} {c : Code} {Ls : Array Slot} {S : List Value} {pc pc' : Nat} {k : Fin 4} {v : Value} {Ls' : Array Slot} (h : At T m c below) (hx : tb.exec = Jvm.exec) (hd : decode c.code pc = .ok (.astore_n k, 1)) (hv : v.isRef = true) (hl : storeLocals Ls k.val v = some Ls') (hp : pc + 1 = pc') (hr : Steps tb e below (T.setTop (mkF m pc' Ls' (S))) target) : Steps tb e below (T.setTop (mkF m pc Ls (v :: S))) target := by subst hp; exact XS.astoreN h hx rfl hd rfl hv hl hr
theorem own_f_iconst {tb : Tables} [Ours tb] {e : Env} {below : List Frame} {T target : State} {m : MethodId} {c : Code} {Ls : Array Slot} {S : List Value} {pc pc' : Nat} {i : Int} {v : Int32} (h : At T m c below) (hx : tb.exec = Jvm.exec) (hd : decode c.code pc = .ok (.iconst i, 1)) (hv : Int32.ofInt i = v) (hp : pc + 1 = pc') (hr : Steps tb e below (T.setTop (mkF m pc' Ls (.int v :: S))) target) : Steps tb e below (T.setTop (mkF m pc Ls (S))) target := by subst hp; exact XS.iconst h hx rfl hd (hv ▸ hr)
theorem own_f_bipush {tb : Tables} [Ours tb] {e : Env} {below : List Frame} {T target : State} {m : MethodId} {c : Code} {Ls : Array Slot} {S : List Value} {pc pc' : Nat} {i : Int} {v : Int32} (h : At T m c below) (hx : tb.exec = Jvm.exec) (hd : decode c.code pc = .ok (.bipush i, 2)) (hv : (Int8.ofInt i).toInt32 = v) (hp : pc + 2 = pc') (hr : Steps tb e below (T.setTop (mkF m pc' Ls (.int v :: S))) target) : Steps tb e below (T.setTop (mkF m pc Ls (S))) target := by subst hp; exact XS.bipush h hx rfl hd (hv ▸ hr)
theorem own_f_sipush {tb : Tables} [Ours tb] {e : Env} {below : List Frame} {T target : State} {m : MethodId} {c : Code} {Ls : Array Slot} {S : List Value} {pc pc' : Nat} {i : Int} {v : Int32} (h : At T m c below) (hx : tb.exec = Jvm.exec) (hd : decode c.code pc = .ok (.sipush i, 3)) (hv : (Int16.ofInt i).toInt32 = v) (hp : pc + 3 = pc') (hr : Steps tb e below (T.setTop (mkF m pc' Ls (.int v :: S))) target) : Steps tb e below (T.setTop (mkF m pc Ls (S))) target := by subst hp; exact XS.sipush h hx rfl hd (hv ▸ hr)
theorem own_f_lconst {tb : Tables} [Ours tb] {e : Env} {below : List Frame} {T target : State} {m : MethodId} {c : Code} {Ls : Array Slot} {S : List Value} {pc pc' : Nat} {k : Fin 2} {v : Int64} (h : At T m c below) (hx : tb.exec = Jvm.exec) (hd : decode c.code pc = .ok (.lconst k, 1)) (hv : Int64.ofNat k = v) (hp : pc + 1 = pc') (hr : Steps tb e below (T.setTop (mkF m pc' Ls (.long v :: S))) target) : Steps tb e below (T.setTop (mkF m pc Ls (S))) target := by subst hp; exact XS.lconst h hx rfl hd (hv ▸ hr)
theorem own_f_dconst0 {tb : Tables} [Ours tb] {e : Env} {below : List Frame} {T target : State} {m : MethodId} {c : Code} {Ls : Array Slot} {S : List Value} {pc pc' : Nat} {v : UInt64} (h : At T m c below) (hx : tb.exec = Jvm.exec) (hd : decode c.code pc = .ok (.dconst 0, 1)) (hv : FP.dconst0 = v) (hp : pc + 1 = pc') (hr : Steps tb e below (T.setTop (mkF m pc' Ls (.double v :: S))) target) : Steps tb e below (T.setTop (mkF m pc Ls (S))) target := by subst hp; exact XS.dconst0 h hx rfl hd hv hr
theorem own_f_dconst1 {tb : Tables} [Ours tb] {e : Env} {below : List Frame} {T target : State} {m : MethodId} {c : Code} {Ls : Array Slot} {S : List Value} {pc pc' : Nat} {v : UInt64} (h : At T m c below) (hx : tb.exec = Jvm.exec) (hd : decode c.code pc = .ok (.dconst 1, 1)) (hv : FP.dconst1 = v) (hp : pc + 1 = pc') (hr : Steps tb e below (T.setTop (mkF m pc' Ls (.double v :: S))) target) : Steps tb e below (T.setTop (mkF m pc Ls (S))) target := by subst hp; exact XS.dconst1 h hx rfl hd hv hr
theorem own_f_aconstNull {tb : Tables} [Ours tb] {e : Env} {below : List Frame} {T target : State} {m : MethodId} {c : Code} {Ls : Array Slot} {S : List Value} {pc pc' : Nat}  (h : At T m c below) (hx : tb.exec = Jvm.exec) (hd : decode c.code pc = .ok (.aconst_null, 1)) (hp : pc + 1 = pc') (hr : Steps tb e below (T.setTop (mkF m pc' Ls (.null :: S))) target) : Steps tb e below (T.setTop (mkF m pc Ls (S))) target := by subst hp; exact XS.aconstNull h hx rfl hd hr
theorem own_f_iadd {tb : Tables} [Ours tb] {e : Env} {below : List Frame} {T target : State} {m : MethodId} {c : Code} {Ls : Array Slot} {S : List Value} {pc pc' : Nat} {x y v : Int32} (h : At T m c below) (hx : tb.exec = Jvm.exec) (hd : decode c.code pc = .ok (.iadd, 1)) (hv : x + y = v) (hp : pc + 1 = pc') (hr : Steps tb e below (T.setTop (mkF m pc' Ls (.int v :: S))) target) : Steps tb e below (T.setTop (mkF m pc Ls (.int y :: .int x :: S))) target := by subst hp; exact XS.iadd h hx rfl hd rfl (hv ▸ hr)
theorem own_f_ladd {tb : Tables} [Ours tb] {e : Env} {below : List Frame} {T target : State} {m : MethodId} {c : Code} {Ls : Array Slot} {S : List Value} {pc pc' : Nat} {x y v : Int64} (h : At T m c below) (hx : tb.exec = Jvm.exec) (hd : decode c.code pc = .ok (.ladd, 1)) (hv : x + y = v) (hp : pc + 1 = pc') (hr : Steps tb e below (T.setTop (mkF m pc' Ls (.long v :: S))) target) : Steps tb e below (T.setTop (mkF m pc Ls (.long y :: .long x :: S))) target := by subst hp; exact XS.ladd h hx rfl hd rfl (hv ▸ hr)
theorem own_f_isub {tb : Tables} [Ours tb] {e : Env} {below : List Frame} {T target : State} {m : MethodId} {c : Code} {Ls : Array Slot} {S : List Value} {pc pc' : Nat} {x y v : Int32} (h : At T m c below) (hx : tb.exec = Jvm.exec) (hd : decode c.code pc = .ok (.isub, 1)) (hv : x - y = v) (hp : pc + 1 = pc') (hr : Steps tb e below (T.setTop (mkF m pc' Ls (.int v :: S))) target) : Steps tb e below (T.setTop (mkF m pc Ls (.int y :: .int x :: S))) target := by subst hp; exact XS.isub h hx rfl hd rfl (hv ▸ hr)
theorem own_f_lsub {tb : Tables} [Ours tb] {e : Env} {below : List Frame} {T target : State} {m : MethodId} {c : Code} {Ls : Array Slot} {S : List Value} {pc pc' : Nat} {x y v : Int64} (h : At T m c below) (hx : tb.exec = Jvm.exec) (hd : decode c.code pc = .ok (.lsub, 1)) (hv : x - y = v) (hp : pc + 1 = pc') (hr : Steps tb e below (T.setTop (mkF m pc' Ls (.long v :: S))) target) : Steps tb e below (T.setTop (mkF m pc Ls (.long y :: .long x :: S))) target := by subst hp; exact XS.lsub h hx rfl hd rfl (hv ▸ hr)
theorem own_f_imul {tb : Tables} [Ours tb] {e : Env} {below : List Frame} {T target : State} {m : MethodId} {c : Code} {Ls : Array Slot} {S : List Value} {pc pc' : Nat} {x y v : Int32} (h : At T m c below) (hx : tb.exec = Jvm.exec) (hd : decode c.code pc = .ok (.imul, 1)) (hv : x * y = v) (hp : pc + 1 = pc') (hr : Steps tb e below (T.setTop (mkF m pc' Ls (.int v :: S))) target) : Steps tb e below (T.setTop (mkF m pc Ls (.int y :: .int x :: S))) target := by subst hp; exact XS.imul h hx rfl hd rfl (hv ▸ hr)
theorem own_f_lmul {tb : Tables} [Ours tb] {e : Env} {below : List Frame} {T target : State} {m : MethodId} {c : Code} {Ls : Array Slot} {S : List Value} {pc pc' : Nat} {x y v : Int64} (h : At T m c below) (hx : tb.exec = Jvm.exec) (hd : decode c.code pc = .ok (.lmul, 1)) (hv : x * y = v) (hp : pc + 1 = pc') (hr : Steps tb e below (T.setTop (mkF m pc' Ls (.long v :: S))) target) : Steps tb e below (T.setTop (mkF m pc Ls (.long y :: .long x :: S))) target := by subst hp; exact XS.lmul h hx rfl hd rfl (hv ▸ hr)
theorem own_f_iand {tb : Tables} [Ours tb] {e : Env} {below : List Frame} {T target : State} {m : MethodId} {c : Code} {Ls : Array Slot} {S : List Value} {pc pc' : Nat} {x y v : Int32} (h : At T m c below) (hx : tb.exec = Jvm.exec) (hd : decode c.code pc = .ok (.iand, 1)) (hv : x &&& y = v) (hp : pc + 1 = pc') (hr : Steps tb e below (T.setTop (mkF m pc' Ls (.int v :: S))) target) : Steps tb e below (T.setTop (mkF m pc Ls (.int y :: .int x :: S))) target := by subst hp; exact XS.iand h hx rfl hd rfl (hv ▸ hr)
theorem own_f_land {tb : Tables} [Ours tb] {e : Env} {below : List Frame} {T target : State} {m : MethodId} {c : Code} {Ls : Array Slot} {S : List Value} {pc pc' : Nat} {x y v : Int64} (h : At T m c below) (hx : tb.exec = Jvm.exec) (hd : decode c.code pc = .ok (.land, 1)) (hv : x &&& y = v) (hp : pc + 1 = pc') (hr : Steps tb e below (T.setTop (mkF m pc' Ls (.long v :: S))) target) : Steps tb e below (T.setTop (mkF m pc Ls (.long y :: .long x :: S))) target := by subst hp; exact XS.land h hx rfl hd rfl (hv ▸ hr)
theorem own_f_ior {tb : Tables} [Ours tb] {e : Env} {below : List Frame} {T target : State} {m : MethodId} {c : Code} {Ls : Array Slot} {S : List Value} {pc pc' : Nat} {x y v : Int32} (h : At T m c below) (hx : tb.exec = Jvm.exec) (hd : decode c.code pc = .ok (.ior, 1)) (hv : x ||| y = v) (hp : pc + 1 = pc') (hr : Steps tb e below (T.setTop (mkF m pc' Ls (.int v :: S))) target) : Steps tb e below (T.setTop (mkF m pc Ls (.int y :: .int x :: S))) target := by subst hp; exact XS.ior h hx rfl hd rfl (hv ▸ hr)
theorem own_f_lor {tb : Tables} [Ours tb] {e : Env} {below : List Frame} {T target : State} {m : MethodId} {c : Code} {Ls : Array Slot} {S : List Value} {pc pc' : Nat} {x y v : Int64} (h : At T m c below) (hx : tb.exec = Jvm.exec) (hd : decode c.code pc = .ok (.lor, 1)) (hv : x ||| y = v) (hp : pc + 1 = pc') (hr : Steps tb e below (T.setTop (mkF m pc' Ls (.long v :: S))) target) : Steps tb e below (T.setTop (mkF m pc Ls (.long y :: .long x :: S))) target := by subst hp; exact XS.lor h hx rfl hd rfl (hv ▸ hr)
theorem own_f_ixor {tb : Tables} [Ours tb] {e : Env} {below : List Frame} {T target : State} {m : MethodId} {c : Code} {Ls : Array Slot} {S : List Value} {pc pc' : Nat} {x y v : Int32} (h : At T m c below) (hx : tb.exec = Jvm.exec) (hd : decode c.code pc = .ok (.ixor, 1)) (hv : x ^^^ y = v) (hp : pc + 1 = pc') (hr : Steps tb e below (T.setTop (mkF m pc' Ls (.int v :: S))) target) : Steps tb e below (T.setTop (mkF m pc Ls (.int y :: .int x :: S))) target := by subst hp; exact XS.ixor h hx rfl hd rfl (hv ▸ hr)
theorem own_f_lxor {tb : Tables} [Ours tb] {e : Env} {below : List Frame} {T target : State} {m : MethodId} {c : Code} {Ls : Array Slot} {S : List Value} {pc pc' : Nat} {x y v : Int64} (h : At T m c below) (hx : tb.exec = Jvm.exec) (hd : decode c.code pc = .ok (.lxor, 1)) (hv : x ^^^ y = v) (hp : pc + 1 = pc') (hr : Steps tb e below (T.setTop (mkF m pc' Ls (.long v :: S))) target) : Steps tb e below (T.setTop (mkF m pc Ls (.long y :: .long x :: S))) target := by subst hp; exact XS.lxor h hx rfl hd rfl (hv ▸ hr)
theorem own_f_ishl {tb : Tables} [Ours tb] {e : Env} {below : List Frame} {T target : State} {m : MethodId} {c : Code} {Ls : Array Slot} {S : List Value} {pc pc' : Nat} {x : Int32} {y : Int32} (h : At T m c below) (hx : tb.exec = Jvm.exec) (hd : decode c.code pc = .ok (.ishl, 1)) (hp : pc + 1 = pc') (hr : Steps tb e below (T.setTop (mkF m pc' Ls (.int (x <<< (y &&& 31)) :: S))) target) : Steps tb e below (T.setTop (mkF m pc Ls (.int y :: .int x :: S))) target := by subst hp; exact XS.ishl h hx rfl hd rfl hr
theorem own_f_ishr {tb : Tables} [Ours tb] {e : Env} {below : List Frame} {T target : State} {m : MethodId} {c : Code} {Ls : Array Slot} {S : List Value} {pc pc' : Nat} {x : Int32} {y : Int32} (h : At T m c below) (hx : tb.exec = Jvm.exec) (hd : decode c.code pc = .ok (.ishr, 1)) (hp : pc + 1 = pc') (hr : Steps tb e below (T.setTop (mkF m pc' Ls (.int (x >>> (y &&& 31)) :: S))) target) : Steps tb e below (T.setTop (mkF m pc Ls (.int y :: .int x :: S))) target := by subst hp; exact XS.ishr h hx rfl hd rfl hr
theorem own_f_iushr {tb : Tables} [Ours tb] {e : Env} {below : List Frame} {T target : State} {m : MethodId} {c : Code} {Ls : Array Slot} {S : List Value} {pc pc' : Nat} {x : Int32} {y : Int32} (h : At T m c below) (hx : tb.exec = Jvm.exec) (hd : decode c.code pc = .ok (.iushr, 1)) (hp : pc + 1 = pc') (hr : Steps tb e below (T.setTop (mkF m pc' Ls (.int ((x.toUInt32 >>> (y &&& 31).toUInt32).toInt32) :: S))) target) : Steps tb e below (T.setTop (mkF m pc Ls (.int y :: .int x :: S))) target := by subst hp; exact XS.iushr h hx rfl hd rfl hr
theorem own_f_lshl {tb : Tables} [Ours tb] {e : Env} {below : List Frame} {T target : State} {m : MethodId} {c : Code} {Ls : Array Slot} {S : List Value} {pc pc' : Nat} {x : Int64} {y : Int32} (h : At T m c below) (hx : tb.exec = Jvm.exec) (hd : decode c.code pc = .ok (.lshl, 1)) (hp : pc + 1 = pc') (hr : Steps tb e below (T.setTop (mkF m pc' Ls (.long (x <<< (y &&& 0x3f).toInt64) :: S))) target) : Steps tb e below (T.setTop (mkF m pc Ls (.int y :: .long x :: S))) target := by subst hp; exact XS.lshl h hx rfl hd rfl hr
theorem own_f_lshr {tb : Tables} [Ours tb] {e : Env} {below : List Frame} {T target : State} {m : MethodId} {c : Code} {Ls : Array Slot} {S : List Value} {pc pc' : Nat} {x : Int64} {y : Int32} (h : At T m c below) (hx : tb.exec = Jvm.exec) (hd : decode c.code pc = .ok (.lshr, 1)) (hp : pc + 1 = pc') (hr : Steps tb e below (T.setTop (mkF m pc' Ls (.long (x >>> (y &&& 0x3f).toInt64) :: S))) target) : Steps tb e below (T.setTop (mkF m pc Ls (.int y :: .long x :: S))) target := by subst hp; exact XS.lshr h hx rfl hd rfl hr
theorem own_f_lushr {tb : Tables} [Ours tb] {e : Env} {below : List Frame} {T target : State} {m : MethodId} {c : Code} {Ls : Array Slot} {S : List Value} {pc pc' : Nat} {x : Int64} {y : Int32} (h : At T m c below) (hx : tb.exec = Jvm.exec) (hd : decode c.code pc = .ok (.lushr, 1)) (hp : pc + 1 = pc') (hr : Steps tb e below (T.setTop (mkF m pc' Ls (.long ((x.toUInt64 >>> (y &&& 0x3f).toInt64.toUInt64).toInt64) :: S))) target) : Steps tb e below (T.setTop (mkF m pc Ls (.int y :: .long x :: S))) target := by subst hp; exact XS.lushr h hx rfl hd rfl hr
theorem own_f_idiv {tb : Tables} [Ours tb] {e : Env} {below : List Frame} {T target : State} {m : MethodId} {c : Code} {Ls : Array Slot} {S : List Value} {pc pc' : Nat} {x y : Int32} (h : At T m c below) (hx : tb.exec = Jvm.exec) (hd : decode c.code pc = .ok (.idiv, 1)) (hy : y ≠ 0) (hp : pc + 1 = pc') (hr : Steps tb e below (T.setTop (mkF m pc' Ls (.int (x / y) :: S))) target) : Steps tb e below (T.setTop (mkF m pc Ls (.int y :: .int x :: S))) target := by subst hp; exact XS.idiv h hx rfl hd rfl hy hr
theorem own_f_irem {tb : Tables} [Ours tb] {e : Env} {below : List Frame} {T target : State} {m : MethodId} {c : Code} {Ls : Array Slot} {S : List Value} {pc pc' : Nat} {x y : Int32} (h : At T m c below) (hx : tb.exec = Jvm.exec) (hd : decode c.code pc = .ok (.irem, 1)) (hy : y ≠ 0) (hp : pc + 1 = pc') (hr : Steps tb e below (T.setTop (mkF m pc' Ls (.int (x - (x / y) * y) :: S))) target) : Steps tb e below (T.setTop (mkF m pc Ls (.int y :: .int x :: S))) target := by subst hp; exact XS.irem h hx rfl hd rfl hy hr
theorem own_f_ldiv {tb : Tables} [Ours tb] {e : Env} {below : List Frame} {T target : State} {m : MethodId} {c : Code} {Ls : Array Slot} {S : List Value} {pc pc' : Nat} {x y : Int64} (h : At T m c below) (hx : tb.exec = Jvm.exec) (hd : decode c.code pc = .ok (.ldiv, 1)) (hy : y ≠ 0) (hp : pc + 1 = pc') (hr : Steps tb e below (T.setTop (mkF m pc' Ls (.long (x / y) :: S))) target) : Steps tb e below (T.setTop (mkF m pc Ls (.long y :: .long x :: S))) target := by subst hp; exact XS.ldiv h hx rfl hd rfl hy hr
theorem own_f_lrem {tb : Tables} [Ours tb] {e : Env} {below : List Frame} {T target : State} {m : MethodId} {c : Code} {Ls : Array Slot} {S : List Value} {pc pc' : Nat} {x y : Int64} (h : At T m c below) (hx : tb.exec = Jvm.exec) (hd : decode c.code pc = .ok (.lrem, 1)) (hy : y ≠ 0) (hp : pc + 1 = pc') (hr : Steps tb e below (T.setTop (mkF m pc' Ls (.long (x - (x / y) * y) :: S))) target) : Steps tb e below (T.setTop (mkF m pc Ls (.long y :: .long x :: S))) target := by subst hp; exact XS.lrem h hx rfl hd rfl hy hr
theorem own_f_ineg {tb : Tables} [Ours tb] {e : Env} {below : List Frame} {T target : State} {m : MethodId} {c : Code} {Ls : Array Slot} {S : List Value} {pc pc' : Nat} {x : Int32} (h : At T m c below) (hx : tb.exec = Jvm.exec) (hd : decode c.code pc = .ok (.ineg, 1)) (hp : pc + 1 = pc') (hr : Steps tb e below (T.setTop (mkF m pc' Ls (.int (-x) :: S))) target) : Steps tb e below (T.setTop (mkF m pc Ls (.int x :: S))) target := by subst hp; exact XS.ineg h hx rfl hd rfl hr
theorem own_f_lneg {tb : Tables} [Ours tb] {e : Env} {below : List Frame} {T target : State} {m : MethodId} {c : Code} {Ls : Array Slot} {S : List Value} {pc pc' : Nat} {x : Int64} (h : At T m c below) (hx : tb.exec = Jvm.exec) (hd : decode c.code pc = .ok (.lneg, 1)) (hp : pc + 1 = pc') (hr : Steps tb e below (T.setTop (mkF m pc' Ls (.long (-x) :: S))) target) : Steps tb e below (T.setTop (mkF m pc Ls (.long x :: S))) target := by subst hp; exact XS.lneg h hx rfl hd rfl hr
theorem own_f_i2l {tb : Tables} [Ours tb] {e : Env} {below : List Frame} {T target : State} {m : MethodId} {c : Code} {Ls : Array Slot} {S : List Value} {pc pc' : Nat} {x : Int32} (h : At T m c below) (hx : tb.exec = Jvm.exec) (hd : decode c.code pc = .ok (.i2l, 1)) (hp : pc + 1 = pc') (hr : Steps tb e below (T.setTop (mkF m pc' Ls (.long (x.toInt64) :: S))) target) : Steps tb e below (T.setTop (mkF m pc Ls (.int x :: S))) target := by subst hp; exact XS.i2l h hx rfl hd rfl hr
theorem own_f_l2i {tb : Tables} [Ours tb] {e : Env} {below : List Frame} {T target : State} {m : MethodId} {c : Code} {Ls : Array Slot} {S : List Value} {pc pc' : Nat} {x : Int64} (h : At T m c below) (hx : tb.exec = Jvm.exec) (hd : decode c.code pc = .ok (.l2i, 1)) (hp : pc + 1 = pc') (hr : Steps tb e below (T.setTop (mkF m pc' Ls (.int (x.toInt32) :: S))) target) : Steps tb e below (T.setTop (mkF m pc Ls (.long x :: S))) target := by subst hp; exact XS.l2i h hx rfl hd rfl hr
theorem own_f_i2b {tb : Tables} [Ours tb] {e : Env} {below : List Frame} {T target : State} {m : MethodId} {c : Code} {Ls : Array Slot} {S : List Value} {pc pc' : Nat} {x : Int32} (h : At T m c below) (hx : tb.exec = Jvm.exec) (hd : decode c.code pc = .ok (.i2b, 1)) (hp : pc + 1 = pc') (hr : Steps tb e below (T.setTop (mkF m pc' Ls (.int (x.toInt8.toInt32) :: S))) target) : Steps tb e below (T.setTop (mkF m pc Ls (.int x :: S))) target := by subst hp; exact XS.i2b h hx rfl hd rfl hr
theorem own_f_i2s {tb : Tables} [Ours tb] {e : Env} {below : List Frame} {T target : State} {m : MethodId} {c : Code} {Ls : Array Slot} {S : List Value} {pc pc' : Nat} {x : Int32} (h : At T m c below) (hx : tb.exec = Jvm.exec) (hd : decode c.code pc = .ok (.i2s, 1)) (hp : pc + 1 = pc') (hr : Steps tb e below (T.setTop (mkF m pc' Ls (.int (x.toInt16.toInt32) :: S))) target) : Steps tb e below (T.setTop (mkF m pc Ls (.int x :: S))) target := by subst hp; exact XS.i2s h hx rfl hd rfl hr
theorem own_f_i2c {tb : Tables} [Ours tb] {e : Env} {below : List Frame} {T target : State} {m : MethodId} {c : Code} {Ls : Array Slot} {S : List Value} {pc pc' : Nat} {x : Int32} (h : At T m c below) (hx : tb.exec = Jvm.exec) (hd : decode c.code pc = .ok (.i2c, 1)) (hp : pc + 1 = pc') (hr : Steps tb e below (T.setTop (mkF m pc' Ls (.int (x.toUInt32.toUInt16.toUInt32.toInt32) :: S))) target) : Steps tb e below (T.setTop (mkF m pc Ls (.int x :: S))) target := by subst hp; exact XS.i2c h hx rfl hd rfl hr
theorem own_f_lcmp {tb : Tables} [Ours tb] {e : Env} {below : List Frame} {T target : State} {m : MethodId} {c : Code} {Ls : Array Slot} {S : List Value} {pc pc' : Nat} {x y : Int64} (h : At T m c below) (hx : tb.exec = Jvm.exec) (hd : decode c.code pc = .ok (.lcmp, 1)) (hp : pc + 1 = pc') (hr : Steps tb e below (T.setTop (mkF m pc' Ls (.int (lcmpW x y) :: S))) target) : Steps tb e below (T.setTop (mkF m pc Ls (.long y :: .long x :: S))) target := by subst hp; exact XS.lcmp h hx rfl hd rfl hr
theorem own_f_i2d {tb : Tables} [Ours tb] {e : Env} {below : List Frame} {T target : State} {m : MethodId} {c : Code} {Ls : Array Slot} {S : List Value} {pc pc' : Nat} {x : Int32} {v : UInt64} (h : At T m c below) (hx : tb.exec = Jvm.exec) (hd : decode c.code pc = .ok (.i2d, 1)) (hv : FP.i2d x = v) (hp : pc + 1 = pc') (hr : Steps tb e below (T.setTop (mkF m pc' Ls (.double v :: S))) target) : Steps tb e below (T.setTop (mkF m pc Ls (.int x :: S))) target := by subst hp; exact XS.i2dS h hx rfl hd rfl hv hr
theorem own_f_l2d {tb : Tables} [Ours tb] {e : Env} {below : List Frame} {T target : State} {m : MethodId} {c : Code} {Ls : Array Slot} {S : List Value} {pc pc' : Nat} {x : Int64} {v : UInt64} (h : At T m c below) (hx : tb.exec = Jvm.exec) (hd : decode c.code pc = .ok (.l2d, 1)) (hv : FP.l2d x = v) (hp : pc + 1 = pc') (hr : Steps tb e below (T.setTop (mkF m pc' Ls (.double v :: S))) target) : Steps tb e below (T.setTop (mkF m pc Ls (.long x :: S))) target := by subst hp; exact XS.l2dS h hx rfl hd rfl hv hr
theorem own_f_d2i {tb : Tables} [Ours tb] {e : Env} {below : List Frame} {T target : State} {m : MethodId} {c : Code} {Ls : Array Slot} {S : List Value} {pc pc' : Nat} {x : UInt64} {v : Int32} (h : At T m c below) (hx : tb.exec = Jvm.exec) (hd : decode c.code pc = .ok (.d2i, 1)) (hv : FP.d2i x = v) (hp : pc + 1 = pc') (hr : Steps tb e below (T.setTop (mkF m pc' Ls (.int v :: S))) target) : Steps tb e below (T.setTop (mkF m pc Ls (.double x :: S))) target := by subst hp; exact XS.d2iS h hx rfl hd rfl hv hr
theorem own_f_d2l {tb : Tables} [Ours tb] {e : Env} {below : List Frame} {T target : State} {m : MethodId} {c : Code} {Ls : Array Slot} {S : List Value} {pc pc' : Nat} {x : UInt64} {v : Int64} (h : At T m c below) (hx : tb.exec = Jvm.exec) (hd : decode c.code pc = .ok (.d2l, 1)) (hv : FP.d2l x = v) (hp : pc + 1 = pc') (hr : Steps tb e below (T.setTop (mkF m pc' Ls (.long v :: S))) target) : Steps tb e below (T.setTop (mkF m pc Ls (.double x :: S))) target := by subst hp; exact XS.d2lS h hx rfl hd rfl hv hr
theorem own_f_dneg {tb : Tables} [Ours tb] {e : Env} {below : List Frame} {T target : State} {m : MethodId} {c : Code} {Ls : Array Slot} {S : List Value} {pc pc' : Nat} {x : UInt64} {v : UInt64} (h : At T m c below) (hx : tb.exec = Jvm.exec) (hd : decode c.code pc = .ok (.dneg, 1)) (hv : FP.dneg x = v) (hp : pc + 1 = pc') (hr : Steps tb e below (T.setTop (mkF m pc' Ls (.double v :: S))) target) : Steps tb e below (T.setTop (mkF m pc Ls (.double x :: S))) target := by subst hp; exact XS.dnegS h hx rfl hd rfl hv hr
theorem own_f_dadd {tb : Tables} [Ours tb] {e : Env} {below : List Frame} {T target : State} {m : MethodId} {c : Code} {Ls : Array Slot} {S : List Value} {pc pc' : Nat} {x y v : UInt64} (h : At T m c below) (hx : tb.exec = Jvm.exec) (hd : decode c.code pc = .ok (.dadd, 1)) (hn : Jvm.Free.Fl.NoNaN64 (FP.dadd x y)) (hv : FP.dadd x y = v) (hp : pc + 1 = pc') (hr : Steps tb e below (T.setTop (mkF m pc' Ls (.double v :: S))) target) : Steps tb e below (T.setTop (mkF m pc Ls (.double y :: .double x :: S))) target := by subst hp; exact XS.daddS h hx rfl hd rfl hn hv hr
theorem own_f_dsub {tb : Tables} [Ours tb] {e : Env} {below : List Frame} {T target : State} {m : MethodId} {c : Code} {Ls : Array Slot} {S : List Value} {pc pc' : Nat} {x y v : UInt64} (h : At T m c below) (hx : tb.exec = Jvm.exec) (hd : decode c.code pc = .ok (.dsub, 1)) (hn : Jvm.Free.Fl.NoNaN64 (FP.dsub x y)) (hv : FP.dsub x y = v) (hp : pc + 1 = pc') (hr : Steps tb e below (T.setTop (mkF m pc' Ls (.double v :: S))) target) : Steps tb e below (T.setTop (mkF m pc Ls (.double y :: .double x :: S))) target := by subst hp; exact XS.dsubS h hx rfl hd rfl hn hv hr
theorem own_f_dmul {tb : Tables} [Ours tb] {e : Env} {below : List Frame} {T target : State} {m : MethodId} {c : Code} {Ls : Array Slot} {S : List Value} {pc pc' : Nat} {x y v : UInt64} (h : At T m c below) (hx : tb.exec = Jvm.exec) (hd : decode c.code pc = .ok (.dmul, 1)) (hn : Jvm.Free.Fl.NoNaN64 (FP.dmul x y)) (hv : FP.dmul x y = v) (hp : pc + 1 = pc') (hr : Steps tb e below (T.setTop (mkF m pc' Ls (.double v :: S))) target) : Steps tb e below (T.setTop (mkF m pc Ls (.double y :: .double x :: S))) target := by subst hp; exact XS.dmulS h hx rfl hd rfl hn hv hr
theorem own_f_ddiv {tb : Tables} [Ours tb] {e : Env} {below : List Frame} {T target : State} {m : MethodId} {c : Code} {Ls : Array Slot} {S : List Value} {pc pc' : Nat} {x y v : UInt64} (h : At T m c below) (hx : tb.exec = Jvm.exec) (hd : decode c.code pc = .ok (.ddiv, 1)) (hn : Jvm.Free.Fl.NoNaN64 (FP.ddiv x y)) (hv : FP.ddiv x y = v) (hp : pc + 1 = pc') (hr : Steps tb e below (T.setTop (mkF m pc' Ls (.double v :: S))) target) : Steps tb e below (T.setTop (mkF m pc Ls (.double y :: .double x :: S))) target := by subst hp; exact XS.ddivS h hx rfl hd rfl hn hv hr
theorem own_f_dcmp {tb : Tables} [Ours tb] {e : Env} {below : List Frame} {T target : State} {m : MethodId} {c : Code} {Ls : Array Slot} {S : List Value} {pc pc' : Nat} {o : CmpOp} {x y : UInt64} {v : Int32} (h : At T m c below) (hx : tb.exec = Jvm.exec) (hd : decode c.code pc = .ok (.dcmp o, 1)) (hv : cmpValue (FP.dcmp x y) o = v) (hp : pc + 1 = pc') (hr : Steps tb e below (T.setTop (mkF m pc' Ls (.int v :: S))) target) : Steps tb e below (T.setTop (mkF m pc Ls (.double y :: .double x :: S))) target := by subst hp; exact XS.dcmpS h hx rfl hd rfl hv hr
theorem own_f_iinc {tb : Tables} [Ours tb] {e : Env} {below : List Frame} {T target : State} {m : MethodId} {c : Code} {Ls : Array Slot} {S : List Value} {pc pc' : Nat} {k : Nat} {cst : Int} {x : Int32} {Ls' : Array Slot} (h : At T m c below) (hx : tb.exec = Jvm.exec) (hd : decode c.code pc = .ok (.iinc k cst, 3)) (hl : Ls[k]? = some (.val (.int x))) (hl' : storeLocals Ls k (.int (x + Int32.ofInt cst)) = some Ls') (hp : pc + 3 = pc') (hr : Steps tb e below (T.setTop (mkF m pc' Ls' (S))) target) : Steps tb e below (T.setTop (mkF m pc Ls (S))) target := by subst hp; exact XS.iinc h hx rfl hd hl hl' hr
theorem own_f_dup {tb : Tables} [Ours tb] {e : Env} {below : List Frame} {T target : State} {m : MethodId} {c : Code} {Ls : Array Slot} {S : List Value} {pc pc' : Nat} {v : Value} (h : At T m c below) (hx : tb.exec = Jvm.exec) (hd : decode c.code pc = .ok (.dup, 1)) (hc : v.category = 1) (hp : pc + 1 = pc') (hr : Steps tb e below (T.setTop (mkF m pc' Ls (v :: v :: S))) target) : Steps tb e below (T.setTop (mkF m pc Ls (v :: S))) target := by subst hp; exact XS.dup h hx rfl hd rfl hc hr
theorem own_f_dupX1 {tb : Tables} [Ours tb] {e : Env} {below : List Frame} {T target : State} {m : MethodId} {c : Code} {Ls : Array Slot} {S : List Value} {pc pc' : Nat} {x y : Value} (h : At T m c below) (hx : tb.exec = Jvm.exec) (hd : decode c.code pc = .ok (.dup_x1, 1)) (hc : x.category = 1) (hc' : y.category = 1) (hp : pc + 1 = pc') (hr : Steps tb e below (T.setTop (mkF m pc' Ls (x :: y :: x :: S))) target) : Steps tb e below (T.setTop (mkF m pc Ls (x :: y :: S))) target := by subst hp; exact XS.dupX1 h hx rfl hd rfl hc hc' hr
theorem own_f_pop {tb : Tables} [Ours tb] {e : Env} {below : List Frame} {T target : State} {m : MethodId} {c : Code} {Ls : Array Slot} {S : List Value} {pc pc' : Nat} {x : Value} (h : At T m c below) (hx : tb.exec = Jvm.exec) (hd : decode c.code pc = .ok (.pop, 1)) (hc : x.category = 1) (hp : pc + 1 = pc') (hr : Steps tb e below (T.setTop (mkF m pc' Ls (S))) target) : Steps tb e below (T.setTop (mkF m pc Ls (x :: S))) target := by subst hp; exact XS.pop h hx rfl hd rfl hc hr
theorem own_f_goto {tb : Tables} [Ours tb] {e : Env} {below : List Frame} {T target : State} {m : MethodId} {c : Code} {Ls : Array Slot} {S : List Value} {pc pc' : Nat} {o : Int} (h : At T m c below) (hx : tb.exec = Jvm.exec) (hd : decode c.code pc = .ok (.goto o, 3)) (ho : 0 ≤ (pc : Int) + o) (hp : ((pc : Int) + o).toNat = pc') (hr : Steps tb e below (T.setTop (mkF m pc' Ls S)) target) : Steps tb e below (T.setTop (mkF m pc Ls (S))) target := XS.goto h hx rfl rfl hd ho hp hr
theorem own_f_ifYes {tb : Tables} [Ours tb] {e : Env} {below : List Frame} {T target : State} {m : MethodId} {c : Code} {Ls : Array Slot} {S : List Value} {pc pc' : Nat} {o : Int} {cd : ClassFile.Cond} {x : Int32} (h : At T m c below) (hx : tb.exec = Jvm.exec) (hd : decode c.code pc = .ok (.ifCond cd o, 3)) (hc : ifCond.holds cd x = true) (ho : 0 ≤ (pc : Int) + o) (hp : ((pc : Int) + o).toNat = pc') (hr : Steps tb e below (T.setTop (mkF m pc' Ls S)) target) : Steps tb e below (T.setTop (mkF m pc Ls (.int x :: S))) target := XS.ifYes h hx rfl rfl hd rfl hc ho hp hr
theorem own_f_icmpYes {tb : Tables} [Ours tb] {e : Env} {below : List Frame} {T target : State} {m : MethodId} {c : Code} {Ls : Array Slot} {S : List Value} {pc pc' : Nat} {o : Int} {cd : ClassFile.Cond} {x y : Int32} (h : At T m c below) (hx : tb.exec = Jvm.exec) (hd : decode c.code pc = .ok (.if_icmp cd o, 3)) (hc : if_icmp.holds cd x y = true) (ho : 0 ≤ (pc : Int) + o) (hp : ((pc : Int) + o).toNat = pc') (hr : Steps tb e below (T.setTop (mkF m pc' Ls S)) target) : Steps tb e below (T.setTop (mkF m pc Ls (.int y :: .int x :: S))) target := XS.icmpYes h hx rfl rfl hd rfl hc ho hp hr
theorem own_f_ifNo {tb : Tables} [Ours tb] {e : Env} {below : List Frame} {T target : State} {m : MethodId} {c : Code} {Ls : Array Slot} {S : List Value} {pc pc' : Nat} {o : Int} {cd : ClassFile.Cond} {x : Int32} (h : At T m c below) (hx : tb.exec = Jvm.exec) (hd : decode c.code pc = .ok (.ifCond cd o, 3)) (hc : ifCond.holds cd x = false) (hp : pc + 3 = pc') (hr : Steps tb e below (T.setTop (mkF m pc' Ls (S))) target) : Steps tb e below (T.setTop (mkF m pc Ls (.int x :: S))) target := by subst hp; exact XS.ifNo h hx rfl hd rfl hc hr
theorem own_f_icmpNo {tb : Tables} [Ours tb] {e : Env} {below : List Frame} {T target : State} {m : MethodId} {c : Code} {Ls : Array Slot} {S : List Value} {pc pc' : Nat} {o : Int} {cd : ClassFile.Cond} {x y : Int32} (h : At T m c below) (hx : tb.exec = Jvm.exec) (hd : decode c.code pc = .ok (.if_icmp cd o, 3)) (hc : if_icmp.holds cd x y = false) (hp : pc + 3 = pc') (hr : Steps tb e below (T.setTop (mkF m pc' Ls (S))) target) : Steps tb e below (T.setTop (mkF m pc Ls (.int y :: .int x :: S))) target := by subst hp; exact XS.icmpNo h hx rfl hd rfl hc hr
variable {p : Program} {l : Launch} {e : Env} {R : Room} {s : State} {m : MethodId} {args : Array Value} {below : List Frame} {meth : Method} {c : Code} {T target : State} {locs : List Loc} {cells slots : Nat} {Ls : Array Slot} {S : List Value} {pc pc' : Nat} {own : String} {index : Nat}
theorem own_f_ldcInt (X : Stand p l e R s m args below meth c T locs cells slots) (hx : p.tables.exec = Jvm.exec) {v : Int32} (hown : s.vm.findClass own = some m.cls) (hc : (Jvm.Cond.constant own index v).before args s = true) (hd : decode c.code pc = .ok (.ldc index, 2)) (hp : pc + 2 = pc') (hr : Steps p.tables e below (T.setTop (mkF m pc' Ls (.int v :: S))) target) : Steps p.tables e below (T.setTop (mkF m pc Ls S)) target := by subst hp; exact X.ldcInt hx hown hc (g := mkF m pc Ls S) rfl hd _ hr
theorem own_f_ldcwInt (X : Stand p l e R s m args below meth c T locs cells slots) (hx : p.tables.exec = Jvm.exec) {v : Int32} (hown : s.vm.findClass own = some m.cls) (hc : (Jvm.Cond.constant own index v).before args s = true) (hd : decode c.code pc = .ok (.ldc_w index, 3)) (hp : pc + 3 = pc') (hr : Steps p.tables e below (T.setTop (mkF m pc' Ls (.int v :: S))) target) : Steps p.tables e below (T.setTop (mkF m pc Ls S)) target := by subst hp; exact X.ldcwInt hx hown hc (g := mkF m pc Ls S) rfl hd _ hr
theorem own_f_ldc2Long (X : Stand p l e R s m args below meth c T locs cells slots) (hx : p.tables.exec = Jvm.exec) {v : Int64} (hown : s.vm.findClass own = some m.cls) (hc : (Jvm.Cond.constantLong own index v).before args s = true) (hd : decode c.code pc = .ok (.ldc2_w index, 3)) (hp : pc + 3 = pc') (hr : Steps p.tables e below (T.setTop (mkF m pc' Ls (.long v :: S))) target) : Steps p.tables e below (T.setTop (mkF m pc Ls S)) target := by subst hp; exact X.ldc2Long hx hown hc (g := mkF m pc Ls S) rfl hd _ hr
theorem own_f_ldc2DoubleC (X : Stand p l e R s m args below meth c T locs cells slots) (hx : p.tables.exec = Jvm.exec) {v : UInt64} (hown : s.vm.findClass own = some m.cls) (hc : (Jvm.Cond.constantDouble own index v).before args s = true) (hd : decode c.code pc = .ok (.ldc2_w index, 3)) (hp : pc + 3 = pc') (hr : Steps p.tables e below (T.setTop (mkF m pc' Ls (.double v :: S))) target) : Steps p.tables e below (T.setTop (mkF m pc Ls S)) target := by subst hp; exact X.ldc2DoubleC hx hown hc (g := mkF m pc Ls S) rfl hd _ hr
end OwnSteps
section OwnFloat
open Jvm.FP.Core
/-! a double as n * 2^(j - 1074) -/
def own_Rep (x : UInt64) (n : Int) (j : Nat) : Prop := DFin x ∧ zval b64 (val64 x) = n * ((2 ^ j : Nat) : Int)
theorem own_cancel {P Q u v : Nat} (h : P * 2 ^ u = Q * 2 ^ v) : P * 2 ^ (u - v) = Q * 2 ^ (v - u) := by
  rcases Nat.le_total u v with q | q
  · obtain ⟨d, rfl⟩ := Nat.exists_eq_add_of_le q
    rw [show u - (u + d) = 0 by omega, show u + d - u = d by omega]
    refine Nat.eq_of_mul_eq_mul_right (Nat.two_pow_pos u) ?_
    rw [Nat.pow_zero, Nat.mul_one, h, Nat.pow_add]; ac_rfl
  · obtain ⟨d, rfl⟩ := Nat.exists_eq_add_of_le q
    rw [show v - (v + d) = 0 by omega, show v + d - v = d by omega]
    refine Nat.eq_of_mul_eq_mul_right (Nat.two_pow_pos v) ?_
    rw [Nat.pow_zero, Nat.mul_one, ← h, Nat.pow_add]; ac_rfl
theorem own_qmax : b64.qmax = 971 := by decide
theorem own_natAbs_pow (n : Int) (j : Nat) : (n * ((2 ^ j : Nat) : Int)).natAbs = n.natAbs * 2 ^ j := by
  rw [Int.natAbs_mul, Int.natAbs_natCast]
theorem own_rr_exact {s : Bool} {A B M j u v : Nat} {e : Int} (hB : 0 < B) (hM : M < 2 ^ 53) (hj : j ≤ 2045) (h : A * 2 ^ u = M * B * 2 ^ v) (hu : (u : Int) - v = e - ((j : Int) - 1074)) :
    ∃ c q, roundRatio b64 s A B e = .fin s c q ∧ inUnits c q b64.qmin = M * 2 ^ j := by
  have h1 := own_cancel h
  rw [roundRatio_congr (A' := M) (B' := 1) (e' := (j : Int) - 1074) hB (by decide) (by rw [Nat.mul_one, show (e - ((j : Int) - 1074)).toNat = u - v by omega, show (((j : Int) - 1074) - e).toNat = v - u by omega]; exact h1)]
  have hp : b64.p = 53 := rfl
  obtain ⟨c, q, h3, h4⟩ := round_exact good_b64 s (c := M) (q := (j : Int) - 1074) (by rw [hp]; exact hM) (by rw [qmin_b64]; omega) (by rw [own_qmax]; omega)
  refine ⟨c, q, h3, ?_⟩
  rw [h4]; unfold inUnits; rw [qmin_b64, show ((j : Int) - 1074 - -1074).toNat = j by omega]
theorem own_round {z : UInt64} {sg : Bool} {N : Nat} {e n : Int} {j : Nat} (hv : val64 z = round b64 (.fin sg N e)) (h2 : b64.qmin ≤ e) (hs : n.natAbs < 2 ^ 53) (hj : j ≤ 2045)
    (h3 : signed sg (inUnits N e b64.qmin) = n * ((2 ^ j : Nat) : Int)) : own_Rep z n j := by
  have h4 : inUnits N e b64.qmin = n.natAbs * 2 ^ j := by
    have := congrArg Int.natAbs h3
    rwa [natAbs_signed, own_natAbs_pow] at this
  rw [qmin_b64] at h2
  have h5 : N * 2 ^ (e + 1074).toNat = n.natAbs * 1 * 2 ^ j := by
    rw [Nat.mul_one, ← h4]; unfold inUnits; rw [qmin_b64, show (e - -1074).toNat = (e + 1074).toNat by omega]
  obtain ⟨c, q, h6, h7⟩ := own_rr_exact (s := sg) (A := N) (B := 1) (e := e) (by decide) hs hj h5 (by omega)
  have h8 : val64 z = .fin sg c q := hv.trans h6
  refine ⟨⟨sg, c, q, h8⟩, ?_⟩
  rw [h8]
  show signed sg (inUnits c q b64.qmin) = _
  rw [h7, ← h4]; exact h3
theorem own_add {x y : UInt64} {n m : Int} {j : Nat} (hx : own_Rep x n j) (hy : own_Rep y m j) (hs : (n + m).natAbs < 2 ^ 53) (hj : j ≤ 2045) : own_Rep (dadd x y) (n + m) j := by
  obtain ⟨⟨s, c, q, ex⟩, zx⟩ := hx
  obtain ⟨⟨t, d, r, ey⟩, zy⟩ := hy
  have fx := val64_fits x; have fy := val64_fits y
  rw [ex] at fx zx; rw [ey] at fy zy
  obtain ⟨sg, N, e, h1, h2, h3⟩ := sum_units fx fy
  have hv : val64 (dadd x y) = round b64 (.fin sg N e) := by rw [val64_dadd, ex, ey, h1]
  rw [zx, zy, ← Int.add_mul] at h3
  exact own_round hv h2 hs hj h3
theorem own_sub {x y : UInt64} {n m : Int} {j : Nat} (hx : own_Rep x n j) (hy : own_Rep y m j) (hs : (n - m).natAbs < 2 ^ 53) (hj : j ≤ 2045) : own_Rep (dsub x y) (n - m) j := by
  obtain ⟨⟨s, c, q, ex⟩, zx⟩ := hx
  obtain ⟨⟨t, d, r, ey⟩, zy⟩ := hy
  have fx := val64_fits x; have fy := negate_fits (val64_fits y)
  have zy2 := zval_negate b64 (val64 y)
  rw [ex] at fx zx; rw [ey] at fy zy zy2
  rw [zy] at zy2
  obtain ⟨sg, N, e, h1, h2, h3⟩ := sum_units fx fy
  have hv : val64 (dsub x y) = round b64 (.fin sg N e) := by rw [val64_dsub, ex, ey]; exact congrArg (round b64) h1
  rw [zx, show zval b64 (.fin (!t) d r) = -(m * ((2 ^ j : Nat) : Int)) from zy2, ← Int.sub_eq_add_neg, ← Int.sub_mul] at h3
  exact own_round hv h2 hs hj h3
theorem own_zmag {x : UInt64} {n : Int} {j : Nat} (hx : own_Rep x n j) : zmag b64 (val64 x) = n.natAbs * 2 ^ j := by
  have := congrArg Int.natAbs hx.2
  rwa [zval, natAbs_signed, own_natAbs_pow] at this
theorem own_sgn {x : UInt64} {n : Int} {j : Nat} (hx : own_Rep x n j) (hn : n ≠ 0) : sgn (val64 x) = decide (n < 0) := by
  have h := hx.2
  have h0 := own_zmag hx
  unfold zval at h
  rw [h0] at h
  have hp : (0 : Int) < ((2 ^ j : Nat) : Int) := by exact_mod_cast Nat.two_pow_pos j
  have hq : 0 < n.natAbs * 2 ^ j := Nat.mul_pos (by omega) (Nat.two_pow_pos j)
  cases hS : sgn (val64 x)
  · rw [hS] at h
    simp only [signed, Bool.false_eq_true, if_false] at h
    have : ¬ n < 0 := fun q => by have := Int.mul_neg_of_neg_of_pos q hp; omega
    simp [this]
  · rw [hS] at h
    simp only [signed, if_true] at h
    have : n < 0 := by
      rcases (by omega : n < 0 ∨ 0 ≤ n) with q | q
      · exact q
      · have := Int.mul_nonneg q (Int.le_of_lt hp); omega
    simp [this]
theorem own_mul {x y : UInt64} {n m : Int} {j i k : Nat} (hx : own_Rep x n j) (hy : own_Rep y m i) (hk : k + 1074 = j + i) (hs : (n * m).natAbs < 2 ^ 53) (hk2 : k ≤ 2045) : own_Rep (dmul x y) (n * m) k := by
  have zx := own_zmag hx; have zy := own_zmag hy
  have sx := @own_sgn x n j hx; have sy := @own_sgn y m i hy
  obtain ⟨⟨s, c, q, ex⟩, -⟩ := hx
  obtain ⟨⟨t, d, r, ey⟩, -⟩ := hy
  have fx := val64_fits x; have fy := val64_fits y
  rw [ex] at fx zx sx; rw [ey] at fy zy sy
  obtain ⟨h1, h2, h3⟩ := product_units fx fy
  rw [zx, zy, qmin_b64] at h3
  rw [qmin_b64] at h2
  have hv : val64 (dmul x y) = roundRatio b64 (s != t) (c * d) 1 (q + r) := by rw [val64_dmul, ex, ey, h1]; rfl
  have h5 : c * d * 2 ^ (q + r + 2148).toNat = (n * m).natAbs * 1 * 2 ^ (j + i) := by
    have : inUnits (c * d) (q + r) (2 * -1074) = c * d * 2 ^ (q + r + 2148).toNat := by unfold inUnits; rw [show (q + r - 2 * -1074).toNat = (q + r + 2148).toNat by omega]
    rw [← this, h3, Int.natAbs_mul, Nat.pow_add]; ac_rfl
  obtain ⟨c', q', h6, h7⟩ := own_rr_exact (s := s != t) (B := 1) (e := q + r) (by decide) hs hk2 h5 (by omega)
  have h8 : val64 (dmul x y) = .fin (s != t) c' q' := hv.trans h6
  refine ⟨⟨_, _, _, h8⟩, ?_⟩
  rw [h8]
  show signed (s != t) (inUnits c' q' b64.qmin) = _
  rw [h7]
  by_cases hn : n = 0
  · subst hn; simp [signed]
  by_cases hm : m = 0
  · subst hm; simp [signed]
  have sx' : s = decide (n < 0) := sx hn
  have sy' : t = decide (m < 0) := sy hm
  subst sx' sy'
  rw [signed_mul]
  congr 1
  rcases Int.lt_or_gt_of_ne hn with a | a <;> rcases Int.lt_or_gt_of_ne hm with b | b
  · have := Int.mul_pos_of_neg_of_neg a b; simp only [a, b, decide_true, bne_self_eq_false, signed, Bool.false_eq_true, if_false]; omega
  · have := Int.mul_neg_of_neg_of_pos a b; have b' : ¬ m < 0 := by omega
    simp only [a, b', decide_true, decide_false, signed]; simp; omega
  · have := Int.mul_neg_of_pos_of_neg a b; have a' : ¬ n < 0 := by omega
    simp only [a', b, decide_true, decide_false, signed]; simp; omega
  · have := Int.mul_pos a b; have a' : ¬ n < 0 := by omega
    have b' : ¬ m < 0 := by omega
    simp only [a', b', decide_false, bne_self_eq_false, signed, Bool.false_eq_true, if_false]; omega
/-- the quotient, rounded once -/
theorem own_div_val {x y : UInt64} {n m : Int} {j i : Nat} (hx : own_Rep x n j) (hy : own_Rep y m i) (hm : m ≠ 0) :
    ∃ sg, val64 (ddiv x y) = roundRatio b64 sg n.natAbs m.natAbs ((j : Int) - i) ∧ (n ≠ 0 → sg = (decide (n < 0) != decide (m < 0))) := by
  have zx := own_zmag hx; have zy := own_zmag hy
  have sx := @own_sgn x n j hx; have sy := @own_sgn y m i hy
  obtain ⟨⟨s, c, q, ex⟩, -⟩ := hx
  obtain ⟨⟨t, d, r, ey⟩, -⟩ := hy
  have fx := val64_fits x; have fy := val64_fits y
  rw [ex] at fx zx sx; rw [ey] at fy zy sy
  have f1 : b64.qmin ≤ q := fx.2.1
  have f2 : b64.qmin ≤ r := fy.2.1
  rw [qmin_b64] at f1 f2
  have zx' : c * 2 ^ (q + 1074).toNat = n.natAbs * 2 ^ j := by rw [← zx]; show _ = inUnits c q b64.qmin; unfold inUnits; rw [qmin_b64, show (q - -1074).toNat = (q + 1074).toNat by omega]
  have zy' : d * 2 ^ (r + 1074).toNat = m.natAbs * 2 ^ i := by rw [← zy]; show _ = inUnits d r b64.qmin; unfold inUnits; rw [qmin_b64, show (r - -1074).toNat = (r + 1074).toNat by omega]
  have hd : d ≠ 0 := by
    rintro rfl
    rw [Nat.zero_mul] at zy'
    have := Nat.mul_pos (show 0 < m.natAbs by omega) (Nat.two_pow_pos i)
    omega
  refine ⟨s != t, ?_, fun hn => ?_⟩
  · rw [val64_ddiv, ex, ey]
    show (if d = 0 then _ else roundRatio b64 (s != t) c d (q - r)) = _
    rw [if_neg hd]
    have h1 : c * m.natAbs * 2 ^ ((q + 1074).toNat + i) = n.natAbs * d * 2 ^ ((r + 1074).toNat + j) := by
      rw [Nat.pow_add, Nat.pow_add]
      calc c * m.natAbs * (2 ^ (q + 1074).toNat * 2 ^ i) = (c * 2 ^ (q + 1074).toNat) * (m.natAbs * 2 ^ i) := by ac_rfl
        _ = (n.natAbs * 2 ^ j) * (d * 2 ^ (r + 1074).toNat) := by rw [zx', zy']
        _ = _ := by ac_rfl
    have h2 := own_cancel h1
    refine roundRatio_congr (Nat.pos_of_ne_zero hd) (by omega) ?_
    rw [show (q - r - ((j : Int) - i)).toNat = (q + 1074).toNat + i - ((r + 1074).toNat + j) by omega, show (((j : Int) - i) - (q - r)).toNat = (r + 1074).toNat + j - ((q + 1074).toNat + i) by omega]
    exact h2
  · rw [← show s = decide (n < 0) from sx hn, ← show t = decide (m < 0) from sy hm]
theorem own_signed_bne {n m : Int} (hn : n ≠ 0) (hm : m ≠ 0) {a : Int} (h : n = a * m) : signed (decide (n < 0) != decide (m < 0)) a.natAbs = a := by
  rcases Int.lt_or_gt_of_ne hn with p | p <;> rcases Int.lt_or_gt_of_ne hm with b | b
  · have : 0 ≤ a := by rcases (by omega : a < 0 ∨ 0 ≤ a) with q | q; (have := Int.mul_pos_of_neg_of_neg q b; omega); exact q
    simp only [p, b, decide_true, bne_self_eq_false, signed, Bool.false_eq_true, if_false]; omega
  · have : a < 0 := by rcases (by omega : a < 0 ∨ 0 ≤ a) with q | q; exact q; (have := Int.mul_nonneg q (Int.le_of_lt b); omega)
    have b' : ¬ m < 0 := by omega
    simp only [p, b', decide_true, decide_false, signed]; simp; omega
  · have : a < 0 := by rcases (by omega : a < 0 ∨ 0 ≤ a) with q | q; exact q; (have := Int.mul_nonpos_of_nonneg_of_nonpos q (Int.le_of_lt b); omega)
    have p' : ¬ n < 0 := by omega
    simp only [p', b, decide_true, decide_false, signed]; simp; omega
  · have : 0 ≤ a := by rcases (by omega : a < 0 ∨ 0 ≤ a) with q | q; (have := Int.mul_neg_of_neg_of_pos q b; omega); exact q
    have p' : ¬ n < 0 := by omega
    have b' : ¬ m < 0 := by omega
    simp only [p', b', decide_false, bne_self_eq_false, signed, Bool.false_eq_true, if_false]; omega
theorem own_div {x y : UInt64} {a m : Int} {j i k : Nat} (hx : own_Rep x (a * m) j) (hy : own_Rep y m i) (hm : m ≠ 0) (hk : k + i = j + 1074) (ha : a.natAbs < 2 ^ 53) (hk2 : k ≤ 2045) : own_Rep (ddiv x y) a k := by
  obtain ⟨sg, h1, h2⟩ := own_div_val hx hy hm
  have h3 : (a * m).natAbs * 2 ^ j = a.natAbs * m.natAbs * 2 ^ j := by rw [Int.natAbs_mul]
  obtain ⟨c, q, h4, h5⟩ := own_rr_exact (s := sg) (A := (a * m).natAbs) (B := m.natAbs) (e := (j : Int) - i) (M := a.natAbs) (j := k) (by omega) ha hk2 h3 (by omega)
  have h6 : val64 (ddiv x y) = .fin sg c q := h1.trans h4
  refine ⟨⟨_, _, _, h6⟩, ?_⟩
  rw [h6]
  show signed sg (inUnits c q b64.qmin) = _
  rw [h5, signed_mul]
  by_cases h0 : a = 0
  · subst h0; cases sg <;> simp [signed]
  · have hne : a * m ≠ 0 := Int.mul_ne_zero h0 hm
    rw [h2 hne, own_signed_bne hne hm rfl]
theorem own_ne_nan {x : UInt64} {n : Int} {j : Nat} (hx : own_Rep x n j) : val64 x ≠ .nan := hx.1.ne_nan
theorem own_cmp {x y : UInt64} {n m : Int} {j : Nat} (hx : own_Rep x n j) (hy : own_Rep y m j) : dcmp x y = some (compare n m) := by
  rw [dcmp_zval (own_ne_nan hx) (own_ne_nan hy), hx.2, hy.2]
  refine congrArg some ?_
  have hp : (0 : Int) < ((2 ^ j : Nat) : Int) := by exact_mod_cast Nat.two_pow_pos j
  exact compare_congr (Int.mul_lt_mul_right hp) (Int.mul_eq_mul_right_iff (by omega))
theorem own_cmp_eq {x y : UInt64} {n : Int} {j : Nat} {o : Jvm.ClassFile.CmpOp} (hx : own_Rep x n j) (hy : own_Rep y n j) : Jvm.Op.cmpValue (Jvm.FP.dcmp x y) o = (0 : Int32) := by
  rw [show Jvm.FP.dcmp x y = some .eq from (own_cmp hx hy).trans (by rw [(compare_eq_iff _ _).mpr rfl])]; rfl
theorem own_l2d {a : Int64} (h1 : -9007199254740992 < a.toInt) (h2 : a.toInt < 9007199254740992) : own_Rep (l2d a) a.toInt 1074 :=
  ⟨l2d_fin a, DInt_zval (l2d_whole ⟨h1, h2⟩)⟩
theorem own_i2d (a : Int32) : own_Rep (i2d a) a.toInt 1074 := by
  have h1 := a.le_toInt; have h2 := a.toInt_lt
  have := @own_l2d a.toInt64 (by rw [Int32.toInt_toInt64]; omega) (by rw [Int32.toInt_toInt64]; omega)
  rwa [← i2d_l2d, Int32.toInt_toInt64] at this
theorem own_shift {x : UInt64} {n : Int} {j i k : Nat} (hx : own_Rep x n j) (hk : k + i = j) : own_Rep x (n * ((2 ^ i : Nat) : Int)) k := by
  refine ⟨hx.1, ?_⟩
  rw [hx.2, ← hk, Nat.pow_add, Int.natCast_mul]; ac_rfl
theorem own_noNaN {x : UInt64} {n : Int} {j : Nat} (hx : own_Rep x n j) : Jvm.Free.Fl.NoNaN64 x := (Jvm.Free.Fl.fin64_core.mpr hx.1).noNaN
theorem own_fin {x : UInt64} {n : Int} {j : Nat} (hx : own_Rep x n j) : Jvm.Free.Fl.Fin64 x := Jvm.Free.Fl.fin64_core.mpr hx.1
/-- a rounded magnitude against a number of the format -/
theorem own_rr_ge {s : Bool} {A B v j E : Nat} {e : Int} (hB : 0 < B) (hv : v < 2 ^ 53) (hj : j ≤ 2045) (he : e + 1074 = (E : Int)) (h : v * 2 ^ j * B ≤ A * 2 ^ E) : v * 2 ^ j ≤ zmag b64 (roundRatio b64 s A B e) := by
  obtain ⟨c, q, h1, h2⟩ := own_rr_exact (s := false) (A := v) (B := 1) (M := v) (j := j) (u := 0) (v := 0) (e := (j : Int) - 1074) (by decide) hv hj (by simp) (by omega)
  have hf : Jvm.FP.Core.fits b64 (Datum.fin false c q) := h1 ▸ roundRatio_fits good_b64 false v (by decide) _
  have := zmag_roundRatio_ge good_b64 (s := s) (A := A) (B := B) (e := e) (e0 := b64.qmin) hB hf (Int.le_refl _) (by rw [qmin_b64]; omega) (by
    show inUnits c q b64.qmin * _ * B ≤ inUnits A e b64.qmin
    rw [h2, Int.sub_self]; unfold inUnits; rw [qmin_b64, show (e - -1074).toNat = E by omega]; simpa using h)
  exact h2 ▸ this
theorem own_rr_le {s : Bool} {A B v j E : Nat} {e : Int} (hB : 0 < B) (hv : v < 2 ^ 53) (hj : j ≤ 2045) (he : e + 1074 = (E : Int)) (h : A * 2 ^ E ≤ v * 2 ^ j * B) : zmag b64 (roundRatio b64 s A B e) ≤ v * 2 ^ j := by
  obtain ⟨c, q, h1, h2⟩ := own_rr_exact (s := false) (A := v) (B := 1) (M := v) (j := j) (u := 0) (v := 0) (e := (j : Int) - 1074) (by decide) hv hj (by simp) (by omega)
  have hf : Jvm.FP.Core.fits b64 (Datum.fin false c q) := h1 ▸ roundRatio_fits good_b64 false v (by decide) _
  have := zmag_roundRatio_le good_b64 (s := s) (A := A) (B := B) (e := e) (e0 := b64.qmin) hB hf Datum.noConfusion (Int.le_refl _) (by rw [qmin_b64]; omega) (by
    show inUnits A e b64.qmin ≤ inUnits c q b64.qmin * _ * B
    rw [h2, Int.sub_self]; unfold inUnits; rw [qmin_b64, show (e - -1074).toNat = E by omega]; simpa using h)
  exact h2 ▸ this
end OwnFloat
section OwnLaw
open Jvm.FP.Core Jvm.Op
theorem own_two : own_Rep 4611686018427387904 1 1075 := ⟨⟨false, 2 ^ 52, -51, by decide +kernel⟩, by decide +kernel⟩
theorem own_divc {x c : UInt64} {n : Int} {j i k : Nat} (hx : own_Rep x n j) (hc : own_Rep c 1 i) (hk : k + i = j + 1074) (hn : n.natAbs < 2 ^ 53) (hk2 : k ≤ 2045) : own_Rep (ddiv x c) n k :=
  own_div (a := n) (m := 1) (by rw [Int.mul_one]; exact hx) hc (by decide) hk hn hk2
theorem own_half (b : Int32) : own_Rep (ddiv (i2d b) 4611686018427387904) b.toInt 1073 := own_divc (own_i2d b) own_two (by decide) (by have := int32_abs b; omega) (by decide)
theorem own_h (b : Int32) : Jvm.Free.Fl.NoNaN64 (Jvm.FP.ddiv (Jvm.FP.i2d b) (4611686018427387904 : UInt64)) := own_noNaN (own_half b)
theorem own_sum (a b : Int32) : Jvm.Free.Fl.NoNaN64 (Jvm.FP.dadd (Jvm.FP.ddiv (Jvm.FP.i2d a) (4611686018427387904 : UInt64)) (Jvm.FP.ddiv (Jvm.FP.i2d b) (4611686018427387904 : UInt64))) ∧ Jvm.Free.Fl.NoNaN64 (Jvm.FP.ddiv (Jvm.FP.l2d ((a.toInt64) + (b.toInt64))) (4611686018427387904 : UInt64)) ∧
    (cmpValue (Jvm.FP.dcmp (Jvm.FP.dadd (Jvm.FP.ddiv (Jvm.FP.i2d a) (4611686018427387904 : UInt64)) (Jvm.FP.ddiv (Jvm.FP.i2d b) (4611686018427387904 : UInt64))) (Jvm.FP.ddiv (Jvm.FP.l2d ((a.toInt64) + (b.toInt64))) (4611686018427387904 : UInt64))) .l) = (0 : Int32) := by
  have ha := Jvm.RoadKit.rng32 a; have hb := Jvm.RoadKit.rng32 b
  have R1 := own_add (own_half a) (own_half b) (by omega) (by decide)
  have c1 := Jvm.RoadKit.c_ladd a.toInt64 b.toInt64
  rw [Int32.toInt_toInt64, Int32.toInt_toInt64] at c1
  have c2 := Jvm.RoadKit.rng64 (a.toInt64 + b.toInt64)
  have c3 : (a.toInt64 + b.toInt64).toInt = a.toInt + b.toInt := by omega
  have R2 : own_Rep (l2d (a.toInt64 + b.toInt64)) (a.toInt + b.toInt) 1074 := c3 ▸ own_l2d (by omega) (by omega)
  have R3 := own_divc R2 own_two (k := 1073) (by decide) (by omega) (by decide)
  refine ⟨own_noNaN R1, own_noNaN R3, ?_⟩
  exact own_cmp_eq R1 R3
theorem own_self (b : Int32) : (cmpValue (Jvm.FP.dcmp (Jvm.FP.ddiv (Jvm.FP.i2d b) (4611686018427387904 : UInt64)) (Jvm.FP.ddiv (Jvm.FP.i2d b) (4611686018427387904 : UInt64))) .l) = (0 : Int32) := by
  exact own_cmp_eq (own_half b) (own_half b)
theorem own_maxl {a b : Int32} (h : a < b) : (cmpValue (Jvm.FP.dcmp (Jvm.Native.java_lang_Math.nans.pick64 true (Jvm.FP.ddiv (Jvm.FP.i2d a) (4611686018427387904 : UInt64)) (Jvm.FP.ddiv (Jvm.FP.i2d b) (4611686018427387904 : UInt64))) (Jvm.FP.ddiv (Jvm.FP.i2d b) (4611686018427387904 : UInt64))) .l) = (0 : Int32) := by
  have q := own_cmp (own_half a) (own_half b)
  rw [(compare_lt_iff _ _).mpr (Int32.lt_iff_toInt_lt.mp h)] at q
  rw [show Jvm.Native.java_lang_Math.nans.pick64 true (Jvm.FP.ddiv (Jvm.FP.i2d a) (4611686018427387904 : UInt64)) (Jvm.FP.ddiv (Jvm.FP.i2d b) (4611686018427387904 : UInt64)) = Jvm.FP.ddiv (Jvm.FP.i2d b) (4611686018427387904 : UInt64) by
    unfold Jvm.Native.java_lang_Math.nans.pick64
    rw [show Jvm.FP.dcmp (Jvm.FP.ddiv (Jvm.FP.i2d a) (4611686018427387904 : UInt64)) (Jvm.FP.ddiv (Jvm.FP.i2d b) (4611686018427387904 : UInt64)) = some .lt from q]; rfl]
  exact own_self b
theorem own_maxg {a b : Int32} (h : ¬ (a < b)) : (cmpValue (Jvm.FP.dcmp (Jvm.Native.java_lang_Math.nans.pick64 true (Jvm.FP.ddiv (Jvm.FP.i2d a) (4611686018427387904 : UInt64)) (Jvm.FP.ddiv (Jvm.FP.i2d b) (4611686018427387904 : UInt64))) (Jvm.FP.ddiv (Jvm.FP.i2d a) (4611686018427387904 : UInt64))) .l) = (0 : Int32) := by
  rw [Int32.lt_iff_toInt_lt] at h
  have q := own_cmp (own_half a) (own_half b)
  by_cases e : a = b
  · subst e
    rw [show Jvm.Native.java_lang_Math.nans.pick64 true (Jvm.FP.ddiv (Jvm.FP.i2d a) (4611686018427387904 : UInt64)) (Jvm.FP.ddiv (Jvm.FP.i2d a) (4611686018427387904 : UInt64)) = Jvm.FP.ddiv (Jvm.FP.i2d a) (4611686018427387904 : UInt64) by
      rcases Jvm.Free.Fl.pick64_or true (Jvm.FP.ddiv (Jvm.FP.i2d a) (4611686018427387904 : UInt64)) (Jvm.FP.ddiv (Jvm.FP.i2d a) (4611686018427387904 : UInt64)) with z | z <;> exact z]
    exact own_self a
  · have e' : a.toInt ≠ b.toInt := fun z => e (Int32.toInt_inj.mp z)
    rw [(compare_gt_iff _ _).mpr (by omega)] at q
    rw [show Jvm.Native.java_lang_Math.nans.pick64 true (Jvm.FP.ddiv (Jvm.FP.i2d a) (4611686018427387904 : UInt64)) (Jvm.FP.ddiv (Jvm.FP.i2d b) (4611686018427387904 : UInt64)) = Jvm.FP.ddiv (Jvm.FP.i2d a) (4611686018427387904 : UInt64) by
      unfold Jvm.Native.java_lang_Math.nans.pick64
      rw [show Jvm.FP.dcmp (Jvm.FP.ddiv (Jvm.FP.i2d a) (4611686018427387904 : UInt64)) (Jvm.FP.ddiv (Jvm.FP.i2d b) (4611686018427387904 : UInt64)) = some .gt from q]; rfl]
    exact own_self a
end OwnLaw
theorem own_feq {args : Array Value} {s : State} {t : Jvm.Term} {a : Addr} {C n d : String} {k : Int32} (ev : t.eval args s none [] s = some (.ref a)) (h : (Jvm.Cond.eq (Jvm.Term.field t C n d) (Jvm.Term.int k)).value args s none s [] = some true) : s.fieldOf? a C n d = some (.int k) := by
  cases hf : s.fieldOf? a C n d with
  | none => simp [Jvm.Cond.value, Jvm.Term.eval, ev, hf] at h
  | some v => cases v <;> simp [Jvm.Cond.value, Jvm.Term.eval, ev, hf] at h ⊢; exact h
end Jvm.Pilot.@@N@@
namespace Jvm.Pilot.@@N@@
open Jvm Jvm.ClassFile Sem Op Lib Jvm.Free Jvm.Stand Jvm.LawKit Jvm.RoadKit Bundle Jvm.Pilot.@@N@@.Jvm.D
theorem d_jdk_37_2_0 : decode jdk_37_method_2_code 0 = .ok (.aload_n 0, 1) := by decide +kernel
theorem d_jdk_37_2_1 : decode jdk_37_method_2_code 1 = .ok (.getfield 7, 3) := by decide +kernel
theorem d_jdk_37_2_4 : decode jdk_37_method_2_code 4 = .ok (.ireturn, 1) := by decide +kernel
theorem pn_0 : plainName "java/lang/Enum" = true := by first | (simp [plainName, overriddenIn]; done) | decide +kernel
theorem d_prog_1_5_0 : decode prog_1_method_5_code 0 = .ok (.aload_n 0, 1) := by decide +kernel
theorem d_prog_1_5_1 : decode prog_1_method_5_code 1 = .ok (.invokevirtual 37, 3) := by decide +kernel
theorem pd_0 : parseMethodDescriptor "()I" = some ⟨[], some .int⟩ := by decide +kernel
theorem d_prog_1_5_4 : decode prog_1_method_5_code 4 = .ok (.lookupswitch 28 #[(0, 38), (1, 44)], 28) := by decide +kernel
theorem d_prog_1_5_42 : decode prog_1_method_5_code 42 = .ok (.dload_n 1, 1) := by decide +kernel
theorem d_prog_1_5_43 : decode prog_1_method_5_code 43 = .ok (.dload_n 3, 1) := by decide +kernel
theorem d_prog_1_5_44 : decode prog_1_method_5_code 44 = .ok (.dadd, 1) := by decide +kernel
theorem d_prog_1_5_45 : decode prog_1_method_5_code 45 = .ok (.goto 8, 3) := by decide +kernel
theorem d_prog_1_5_53 : decode prog_1_method_5_code 53 = .ok (.dreturn, 1) := by decide +kernel
theorem pn_1 : plainName "com/example/honeyguide/honeyguide/Aggregate" = true := by first | (simp [plainName, overriddenIn]; done) | decide +kernel
theorem d_prog_1_5_48 : decode prog_1_method_5_code 48 = .ok (.dload_n 1, 1) := by decide +kernel
theorem d_prog_1_5_49 : decode prog_1_method_5_code 49 = .ok (.dload_n 3, 1) := by decide +kernel
theorem d_prog_1_5_50 : decode prog_1_method_5_code 50 = .ok (.invokestatic 46, 3) := by decide +kernel
theorem pd_1 : parseMethodDescriptor "(DD)D" = some ⟨[.double, .double], some .double⟩ := by decide +kernel
theorem pn_2 : plainName "com/example/honeyguide/honeyguide/AggregateJoinPinLaw" = true := by first | (simp [plainName, overriddenIn]; done) | decide +kernel
theorem ef_3 (m : MethodId) (x0 : Addr) : entryFrame m #[(.ref x0)] 1 = mkF m 0 #[.val (.ref x0)] [] := by first | (simp [entryFrame, mkF, argsToLocals, Value.category]; done) | rfl
def Q3 (Z : State) (a1 : Addr) (od : Int32) (h0 : Heap) (n0 : Nat) (v : Option Value) (h : Heap) (L : List Loc) : Prop := v = some (.int od) ∧ Fr n0 L ∧ h = h0
set_option maxRecDepth 65536 in
set_option maxHeartbeats 40000000 in
theorem rm3 (l : Launch) (Z : State) (a0 : Array Value) (hw : ∀ d ∈ tables_1, d.before a0 Z = true) (ws : List Jvm.Cond) (a1 : Addr) (od : Int32) (h0 : Heap) (n0 : Nat) (Z0 : n0 ≤ h0.size) (Fo : Fld Z h0 a1 "java/lang/Enum" "ordinal" "I" (.int od)) :
    MetFree l (⟨"java/lang/Enum", "ordinal", "()I"⟩ : MethodName) (head1 (Jvm.Cond.code (⟨"java/lang/Enum", "ordinal", "()I"⟩ : MethodName) jdk_37_method_2_code 1 (some .int) :: ws) ({ frames := 0, cells := 0, slots := 0, locals := 0 } : Room)) (fun a U => a = #[(.ref a1)] ∧ Z.Warmed39 U.vm ∧ U.heap = h0) (fun _ _ _ _ _ => True) (fun _ U o U' => ∃ v L, o = .returned v ∧ Q3 Z a1 od h0 n0 v U'.heap L ∧ FrameEnd U o U' L ({ frames := 0, cells := 0, slots := 0, locals := 0 } : Room).cells ({ frames := 0, cells := 0, slots := 0, locals := 0 } : Room).slots) := by
  refine MetFree.of_bodySF (plainFor_of_name pn_0) hisR ?_
  intro p e s m args below meth c s₁ Bd hml0 hP hK
  obtain ⟨rfl, hZ, hh⟩ := hP
  have hx := Bd.exec
  have hby := Bd.bytes
  have hml : c.maxLocals = 1 := hml0
  have hown : s.vm.findClass "java/lang/Enum" = some m.cls := findClass_of_methodNamed Bd.named
  have hnm := (name_of_methodNamed Bd.named Bd.method).1
  have X0 : Stand p l e ({ frames := 0, cells := 0, slots := 0, locals := 0 } : Room) s m #[(.ref a1)] below meth c s₁ [] 0 0 := Stand.of_body Bd
  have e0 : s₁.heap = h0 := by rw [← hh, Bd.state]; rfl
  have N0 := Fr.nil n0
  obtain ⟨A, hA⟩ : ∃ A, A = s₁.setTop (mkF m 0 #[.val (.ref a1)] []) := ⟨_, rfl⟩
  have hA0 : ∀ t, Steps p.tables e below A t → Steps p.tables e below (s₁.setTop (entryFrame m #[(.ref a1)] 1)) t := fun t k => castTop (ef_3 m a1) (hA ▸ k)
  have k0 : ∀ t, Steps p.tables e below (s₁.setTop (mkF m 0 #[.val (.ref a1)] [])) t → Steps p.tables e below A t := fun t k => hA ▸ k
  obtain ⟨T1, X1, e1, st1⟩ := getF X0 hx hZ hown (host := "") (Or.inl (hw _ (List.mem_of_getElem? (i := 16) rfl))) Via.refl e0 Fo (g := (mkF m 1 #[.val (.ref a1)] [(.ref a1)])) rfl rfl (hb hby d_jdk_37_2_1)
  obtain ⟨fs, hr, hrun, hended, hW, hsame⟩ := X1.leave (v := some (.int od)) (fun h => by rw [Bd.returns] at h; cases h)
  refine ⟨_, _, ?_, hrun, hended, _, _, rfl, ?_, ⟨_, rfl⟩, hW, hsame.mono (by decide) (by decide)⟩
  · refine hA0 _ ?_
    refine k0 _ ?_
    refine own_f_aloadN X0.here hx (hb hby d_jdk_37_2_0) rfl rfl (rfl : _ = 1) ?_
    refine st1 _ ?_
    show Steps p.tables e below (T1.setTop (mkF m 4 #[.val (.ref a1)] [(.int od)])) _
    exact retI X1 hx Bd.returns (hb hby d_jdk_37_2_4) hr
  · show Q3 Z a1 od h0 n0 _ T1.heap _
    rw [e1]
    exact ⟨rfl, N0, rfl⟩
theorem ef_2_0 (m : MethodId) (x0 : Addr) (x1 : UInt64) (x2 : UInt64) : entryFrame m #[(.ref x0), (.double x1), (.double x2)] 5 = mkF m 0 #[.val (.ref x0), .val (.double x1), .second, .val (.double x2), .second] [] := by first | (simp [entryFrame, mkF, argsToLocals, Value.category]; done) | rfl
def Q2_0 (Z : State) (a1 : Addr) (x1 : UInt64) (x2 : UInt64) (h0 : Heap) (n0 : Nat) (v : Option Value) (h : Heap) (L : List Loc) : Prop := v = some (.double (FP.dadd x1 x2)) ∧ Fr n0 L ∧ h = h0
set_option maxRecDepth 65536 in
set_option maxHeartbeats 40000000 in
theorem rm2_0 (l : Launch) (Z : State) (a0 : Array Value) (hw : ∀ d ∈ tables_1, d.before a0 Z = true) (ws : List Jvm.Cond) (a1 : Addr) (x1 : UInt64) (x2 : UInt64) (h0 : Heap) (n0 : Nat) (Z0 : n0 ≤ h0.size) (Ea : Exa Z h0 a1 "com/example/honeyguide/honeyguide/Aggregate") (Fo : Fld Z h0 a1 "java/lang/Enum" "ordinal" "I" (.int (0 : Int32))) (n1 : Jvm.Free.Fl.NoNaN64 (FP.dadd x1 x2)) :
    MetFree l (⟨"com/example/honeyguide/honeyguide/Aggregate", "join", "(DD)D"⟩ : MethodName) (head1 (Jvm.Cond.code (⟨"com/example/honeyguide/honeyguide/Aggregate", "join", "(DD)D"⟩ : MethodName) prog_1_method_5_code 5 (some .double) :: ws) ({ frames := 1, cells := 0, slots := 0, locals := 12 } : Room)) (fun a U => a = #[(.ref a1), (.double x1), (.double x2)] ∧ Z.Warmed39 U.vm ∧ U.heap = h0) (fun _ _ _ _ _ => True) (fun _ U o U' => ∃ v L, o = .returned v ∧ Q2_0 Z a1 x1 x2 h0 n0 v U'.heap L ∧ FrameEnd U o U' L ({ frames := 1, cells := 0, slots := 0, locals := 12 } : Room).cells ({ frames := 1, cells := 0, slots := 0, locals := 12 } : Room).slots) := by
  refine MetFree.of_bodySF (plainFor_of_name pn_1) hisR ?_
  intro p e s m args below meth c s₁ Bd hml0 hP hK
  obtain ⟨rfl, hZ, hh⟩ := hP
  have hx := Bd.exec
  have hby := Bd.bytes
  have hml : c.maxLocals = 5 := hml0
  have hown : s.vm.findClass "com/example/honeyguide/honeyguide/Aggregate" = some m.cls := findClass_of_methodNamed Bd.named
  have hnm := (name_of_methodNamed Bd.named Bd.method).1
  have X0 : Stand p l e ({ frames := 1, cells := 0, slots := 0, locals := 12 } : Room) s m #[(.ref a1), (.double x1), (.double x2)] below meth c s₁ [] 0 0 := Stand.of_body Bd
  have e0 : s₁.heap = h0 := by rw [← hh, Bd.state]; rfl
  have N0 := Fr.nil n0
  obtain ⟨A, hA⟩ : ∃ A, A = s₁.setTop (mkF m 0 #[.val (.ref a1), .val (.double x1), .second, .val (.double x2), .second] []) := ⟨_, rfl⟩
  have hA0 : ∀ t, Steps p.tables e below A t → Steps p.tables e below (s₁.setTop (entryFrame m #[(.ref a1), (.double x1), (.double x2)] 5)) t := fun t k => castTop (ef_2_0 m a1 x1 x2) (hA ▸ k)
  have k0 : ∀ t, Steps p.tables e below (s₁.setTop (mkF m 0 #[.val (.ref a1), .val (.double x1), .second, .val (.double x2), .second] [])) t → Steps p.tables e below A t := fun t k => hA ▸ k
  obtain ⟨cq1, kq1, q1a, q1b, q1c⟩ := isOf hZ e0 Ea
  obtain ⟨_, _, ⟨T1, L1, k1_, n1⟩, -, X1, ⟨Lc1, hQ1, l1, y1, z1⟩, st1⟩ := X0.virtualBackUp hx (x := (⟨"com/example/honeyguide/honeyguide/Aggregate", "ordinal", "()I"⟩ : MethodName)) (y := (⟨"java/lang/Enum", "ordinal", "()I"⟩ : MethodName)) (owner := "java/lang/Enum") hown (mvT hZ (hw _ (List.mem_of_getElem? (i := 9) rfl))) (mvT hZ (hw _ (List.mem_of_getElem? (i := 10) rfl))) (mvT hZ (hw _ (List.mem_of_getElem? (i := 11) rfl))) (by decide) (mvT hZ (hw _ (List.mem_of_getElem? (i := 13) rfl))) (mvT hZ (hw _ (List.mem_of_getElem? (i := 12) rfl))) (backOf (W := 0) (rm3 l Z a0 hw [] a1 (0 : Int32) h0 n0 Z0 Fo) hZ (hw _ (List.mem_of_getElem? (i := 15) rfl)) (hw _ (List.mem_of_getElem? (i := 14) rfl)) (by decide) (by decide)) q1a q1c (g := (mkF m 1 #[.val (.ref a1), .val (.double x1), .second, .val (.double x2), .second] [(.ref a1)])) rfl (by rw [hml]; rfl) (Steps.refl _) (argsL := []) (rest := []) (lenOf pd_0 rfl) rfl (by show 2 * 0 + _ ≤ _; exact Nat.le_of_eq rfl) (hb hby d_prog_1_5_1) (fun _ _ => ⟨rfl, e0, (by decide : 0 + 0 ≤ _), (by decide : 0 + 0 ≤ _)⟩)
  dsimp only [Pt.U, Pt.locs, Pt.cells, Pt.slots] at X1 l1 y1 z1 st1 hQ1
  subst l1 y1 z1
  obtain ⟨rfl, Nq1, e1⟩ := hQ1
  have N1 := Fr.app N0 Nq1
  obtain ⟨fs, hr, hrun, hended, hW, hsame⟩ := X1.leave (v := some (.double (FP.dadd x1 x2))) (fun h => by rw [Bd.returns] at h; cases h)
  refine ⟨_, _, ?_, hrun, hended, _, _, rfl, ?_, ⟨_, rfl⟩, hW, hsame.mono (by decide) (by decide)⟩
  · refine hA0 _ ?_
    refine k0 _ ?_
    refine own_f_aloadN X0.here hx (hb hby d_prog_1_5_0) rfl rfl (rfl : _ = 1) ?_
    refine st1.trans ?_
    show Steps p.tables e below (T1.setTop (mkF m 4 #[.val (.ref a1), .val (.double x1), .second, .val (.double x2), .second] [(.int (0 : Int32))])) _
    jvm_step X1.here [X1.here.top, hx, (hb hby d_prog_1_5_4), show ((0 : Int32).toInt) = 0 from by decide]
    show Steps p.tables e below (T1.setTop (mkF m 42 #[.val (.ref a1), .val (.double x1), .second, .val (.double x2), .second] [])) _
    refine own_f_dloadN X1.here hx (hb hby d_prog_1_5_42) rfl (rfl : _ = 43) ?_
    refine own_f_dloadN X1.here hx (hb hby d_prog_1_5_43) rfl (rfl : _ = 44) ?_
    refine own_f_dadd X1.here hx (hb hby d_prog_1_5_44) (n1) rfl (rfl : _ = 45) ?_
    refine own_f_goto X1.here hx (hb hby d_prog_1_5_45) (by decide) (by decide : _ = 53) ?_
    exact retD X1 hx Bd.returns (hb hby d_prog_1_5_53) hr
  · show Q2_0 Z a1 x1 x2 h0 n0 _ T1.heap _
    rw [e1]
    exact ⟨rfl, N1, rfl⟩
theorem ef_2_1 (m : MethodId) (x0 : Addr) (x1 : UInt64) (x2 : UInt64) : entryFrame m #[(.ref x0), (.double x1), (.double x2)] 5 = mkF m 0 #[.val (.ref x0), .val (.double x1), .second, .val (.double x2), .second] [] := by first | (simp [entryFrame, mkF, argsToLocals, Value.category]; done) | rfl
def Q2_1 (Z : State) (a1 : Addr) (x1 : UInt64) (x2 : UInt64) (h0 : Heap) (n0 : Nat) (v : Option Value) (h : Heap) (L : List Loc) : Prop := v = some (.double (Jvm.Native.java_lang_Math.nans.pick64 true x1 x2)) ∧ Fr n0 L ∧ h = h0
set_option maxRecDepth 65536 in
set_option maxHeartbeats 40000000 in
theorem rm2_1 (l : Launch) (Z : State) (a0 : Array Value) (hw : ∀ d ∈ tables_1, d.before a0 Z = true) (ws : List Jvm.Cond) (a1 : Addr) (x1 : UInt64) (x2 : UInt64) (h0 : Heap) (n0 : Nat) (Z0 : n0 ≤ h0.size) (Ea : Exa Z h0 a1 "com/example/honeyguide/honeyguide/Aggregate") (Fo : Fld Z h0 a1 "java/lang/Enum" "ordinal" "I" (.int (1 : Int32))) (n1 : Jvm.Free.Fl.NoNaN64 x1) (n2 : Jvm.Free.Fl.NoNaN64 x2) :
    MetFree l (⟨"com/example/honeyguide/honeyguide/Aggregate", "join", "(DD)D"⟩ : MethodName) (head1 (Jvm.Cond.code (⟨"com/example/honeyguide/honeyguide/Aggregate", "join", "(DD)D"⟩ : MethodName) prog_1_method_5_code 5 (some .double) :: ws) ({ frames := 1, cells := 0, slots := 0, locals := 15 } : Room)) (fun a U => a = #[(.ref a1), (.double x1), (.double x2)] ∧ Z.Warmed39 U.vm ∧ U.heap = h0) (fun _ _ _ _ _ => True) (fun _ U o U' => ∃ v L, o = .returned v ∧ Q2_1 Z a1 x1 x2 h0 n0 v U'.heap L ∧ FrameEnd U o U' L ({ frames := 1, cells := 0, slots := 0, locals := 15 } : Room).cells ({ frames := 1, cells := 0, slots := 0, locals := 15 } : Room).slots) := by
  refine MetFree.of_bodySF (plainFor_of_name pn_1) hisR ?_
  intro p e s m args below meth c s₁ Bd hml0 hP hK
  obtain ⟨rfl, hZ, hh⟩ := hP
  have hx := Bd.exec
  have hby := Bd.bytes
  have hml : c.maxLocals = 5 := hml0
  have hown : s.vm.findClass "com/example/honeyguide/honeyguide/Aggregate" = some m.cls := findClass_of_methodNamed Bd.named
  have hnm := (name_of_methodNamed Bd.named Bd.method).1
  have X0 : Stand p l e ({ frames := 1, cells := 0, slots := 0, locals := 15 } : Room) s m #[(.ref a1), (.double x1), (.double x2)] below meth c s₁ [] 0 0 := Stand.of_body Bd
  have e0 : s₁.heap = h0 := by rw [← hh, Bd.state]; rfl
  have N0 := Fr.nil n0
  obtain ⟨A, hA⟩ : ∃ A, A = s₁.setTop (mkF m 0 #[.val (.ref a1), .val (.double x1), .second, .val (.double x2), .second] []) := ⟨_, rfl⟩
  have hA0 : ∀ t, Steps p.tables e below A t → Steps p.tables e below (s₁.setTop (entryFrame m #[(.ref a1), (.double x1), (.double x2)] 5)) t := fun t k => castTop (ef_2_1 m a1 x1 x2) (hA ▸ k)
  have k0 : ∀ t, Steps p.tables e below (s₁.setTop (mkF m 0 #[.val (.ref a1), .val (.double x1), .second, .val (.double x2), .second] [])) t → Steps p.tables e below A t := fun t k => hA ▸ k
  obtain ⟨cq1, kq1, q1a, q1b, q1c⟩ := isOf hZ e0 Ea
  obtain ⟨_, _, ⟨T1, L1, k1_, n1⟩, -, X1, ⟨Lc1, hQ1, l1, y1, z1⟩, st1⟩ := X0.virtualBackUp hx (x := (⟨"com/example/honeyguide/honeyguide/Aggregate", "ordinal", "()I"⟩ : MethodName)) (y := (⟨"java/lang/Enum", "ordinal", "()I"⟩ : MethodName)) (owner := "java/lang/Enum") hown (mvT hZ (hw _ (List.mem_of_getElem? (i := 9) rfl))) (mvT hZ (hw _ (List.mem_of_getElem? (i := 10) rfl))) (mvT hZ (hw _ (List.mem_of_getElem? (i := 11) rfl))) (by decide) (mvT hZ (hw _ (List.mem_of_getElem? (i := 13) rfl))) (mvT hZ (hw _ (List.mem_of_getElem? (i := 12) rfl))) (backOf (W := 0) (rm3 l Z a0 hw [] a1 (1 : Int32) h0 n0 Z0 Fo) hZ (hw _ (List.mem_of_getElem? (i := 15) rfl)) (hw _ (List.mem_of_getElem? (i := 14) rfl)) (by decide) (by decide)) q1a q1c (g := (mkF m 1 #[.val (.ref a1), .val (.double x1), .second, .val (.double x2), .second] [(.ref a1)])) rfl (by rw [hml]; rfl) (Steps.refl _) (argsL := []) (rest := []) (lenOf pd_0 rfl) rfl (by show 2 * 0 + _ ≤ _; exact Nat.le_of_eq rfl) (hb hby d_prog_1_5_1) (fun _ _ => ⟨rfl, e0, (by decide : 0 + 0 ≤ _), (by decide : 0 + 0 ≤ _)⟩)
  dsimp only [Pt.U, Pt.locs, Pt.cells, Pt.slots] at X1 l1 y1 z1 st1 hQ1
  subst l1 y1 z1
  obtain ⟨rfl, Nq1, e1⟩ := hQ1
  have N1 := Fr.app N0 Nq1
  obtain ⟨T2, X2, e2, st2⟩ := natS X1 hx hZ hown (hw _ (List.mem_of_getElem? (i := 20) rfl)) (hw _ (List.mem_of_getElem? (i := 21) rfl)) (hw _ (List.mem_of_getElem? (i := 22) rfl)) (hw _ (List.mem_of_getElem? (i := 23) rfl)) (by decide) e1 (W := 0) (val' := (.double (Jvm.Native.java_lang_Math.nans.pick64 true x1 x2))) (fun c => Jvm.Free.Fl.Abs.maxD_pays x1 x2 c (by decide) (by decide)) (g := (mkF m 50 #[.val (.ref a1), .val (.double x1), .second, .val (.double x2), .second] [(.double x2), (.double x1)])) rfl (by rw [hml]; rfl) (argsL := [(.double x1), (.double x2)]) (rest := []) (lenOf pd_1 rfl) rfl (by show 2 * 0 + _ ≤ _; exact Nat.le_of_eq rfl) (hb hby d_prog_1_5_50) (by decide) (by decide) ⟨rfl, n1, n2⟩ rfl
  obtain ⟨fs, hr, hrun, hended, hW, hsame⟩ := X2.leave (v := some (.double (Jvm.Native.java_lang_Math.nans.pick64 true x1 x2))) (fun h => by rw [Bd.returns] at h; cases h)
  refine ⟨_, _, ?_, hrun, hended, _, _, rfl, ?_, ⟨_, rfl⟩, hW, hsame.mono (by decide) (by decide)⟩
  · refine hA0 _ ?_
    refine k0 _ ?_
    refine own_f_aloadN X0.here hx (hb hby d_prog_1_5_0) rfl rfl (rfl : _ = 1) ?_
    refine st1.trans ?_
    show Steps p.tables e below (T1.setTop (mkF m 4 #[.val (.ref a1), .val (.double x1), .second, .val (.double x2), .second] [(.int (1 : Int32))])) _
    jvm_step X1.here [X1.here.top, hx, (hb hby d_prog_1_5_4), show ((1 : Int32).toInt) = 1 from by decide]
    show Steps p.tables e below (T1.setTop (mkF m 48 #[.val (.ref a1), .val (.double x1), .second, .val (.double x2), .second] [])) _
    refine own_f_dloadN X1.here hx (hb hby d_prog_1_5_48) rfl (rfl : _ = 49) ?_
    refine own_f_dloadN X1.here hx (hb hby d_prog_1_5_49) rfl (rfl : _ = 50) ?_
    refine st2 _ ?_
    show Steps p.tables e below (T2.setTop (mkF m 53 #[.val (.ref a1), .val (.double x1), .second, .val (.double x2), .second] [(.double (Jvm.Native.java_lang_Math.nans.pick64 true x1 x2))])) _
    exact retD X2 hx Bd.returns (hb hby d_prog_1_5_53) hr
  · show Q2_1 Z a1 x1 x2 h0 n0 _ T2.heap _
    rw [e2]
    exact ⟨rfl, N1, rfl⟩
theorem ef_0 (m : MethodId) (x0 : Int32) (x1 : Int32) (x2 : Int32) : entryFrame m #[(.int x0), (.int x1), (.int x2)] maxLocals = mkF m 0 #[.val (.int x0), .val (.int x1), .val (.int x2), .unset, .unset, .unset, .unset, .unset, .unset, .unset, .unset, .unset, .unset, .unset, .unset] [] := by first | (simp [entryFrame, mkF, argsToLocals, Value.category, maxLocals]; done) | rfl
def Q0 (Z : State) (p1 : Int32) (p2 : Int32) (p3 : Int32) (aS : Addr) (aM : Addr) (h0 : Heap) (n0 : Nat) (v : Option Value) (h : Heap) (L : List Loc) : Prop := v = some (.int (1 : Int32)) ∧ Fr n0 L
set_option maxRecDepth 65536 in
set_option maxHeartbeats 40000000 in
theorem rm0 (l : Launch) (Z : State) (a0 : Array Value) (hw : ∀ d ∈ tables_1, d.before a0 Z = true) (ws : List Jvm.Cond) (p1 : Int32) (p2 : Int32) (p3 : Int32) (aS : Addr) (aM : Addr) (h0 : Heap) (n0 : Nat) (Z0 : n0 ≤ h0.size) (Ss : Sta Z h0 "com/example/honeyguide/honeyguide/Aggregate" "SUM" "Lcom/example/honeyguide/honeyguide/Aggregate;" (.ref aS)) (Sm : Sta Z h0 "com/example/honeyguide/honeyguide/Aggregate" "MAX" "Lcom/example/honeyguide/honeyguide/Aggregate;" (.ref aM)) (ExS : Exa Z h0 aS "com/example/honeyguide/honeyguide/Aggregate") (ExM : Exa Z h0 aM "com/example/honeyguide/honeyguide/Aggregate") (FS : Fld Z h0 aS "java/lang/Enum" "ordinal" "I" (.int (0 : Int32))) (FM : Fld Z h0 aM "java/lang/Enum" "ordinal" "I" (.int (1 : Int32))) :
    MetFree l x (head1 (Jvm.Cond.code x code maxLocals ret :: ws) room_1) (fun a U => a = #[(.int p1), (.int p2), (.int p3)] ∧ Z.Warmed39 U.vm ∧ U.heap = h0) (fun _ _ _ _ _ => True) (fun _ U o U' => ∃ v L, o = .returned v ∧ Q0 Z p1 p2 p3 aS aM h0 n0 v U'.heap L ∧ FrameEnd U o U' L room_1.cells room_1.slots) := by
  refine MetFree.of_bodySF (plainFor_of_name pn_2) hisR ?_
  intro p e s m args below meth c s₁ Bd hml0 hP hK
  obtain ⟨rfl, hZ, hh⟩ := hP
  have hx := Bd.exec
  have hby := Bd.bytes
  have hml : c.maxLocals = 15 := hml0
  have hown : s.vm.findClass "com/example/honeyguide/honeyguide/AggregateJoinPinLaw" = some m.cls := findClass_of_methodNamed Bd.named
  have hnm := (name_of_methodNamed Bd.named Bd.method).1
  have X0 : Stand p l e room_1 s m #[(.int p1), (.int p2), (.int p3)] below meth c s₁ [] 0 0 := Stand.of_body Bd
  have e0 : s₁.heap = h0 := by rw [← hh, Bd.state]; rfl
  have N0 := Fr.nil n0
  obtain ⟨A, hA⟩ : ∃ A, A = s₁.setTop (mkF m 0 #[.val (.int p1), .val (.int p2), .val (.int p3), .unset, .unset, .unset, .unset, .unset, .unset, .unset, .unset, .unset, .unset, .unset, .unset] []) := ⟨_, rfl⟩
  have hA0 : ∀ t, Steps p.tables e below A t → Steps p.tables e below (s₁.setTop (entryFrame m #[(.int p1), (.int p2), (.int p3)] maxLocals)) t := fun t k => castTop (ef_0 m p1 p2 p3) (hA ▸ k)
  have k0 : ∀ t, Steps p.tables e below (s₁.setTop (mkF m 0 #[.val (.int p1), .val (.int p2), .val (.int p3), .unset, .unset, .unset, .unset, .unset, .unset, .unset, .unset, .unset, .unset, .unset, .unset] [])) t → Steps p.tables e below A t := fun t k => hA ▸ k
  have k1 : ∀ t_, Steps p.tables e below (s₁.setTop (mkF m 3 #[.val (.int p1), .val (.int p2), .val (.int p3), .unset, .unset, .unset, .unset, .unset, .unset, .unset, .unset, .unset, .unset, .unset, .unset] [(.int (p3 &&& (1 : Int32)))])) t_ → Steps p.tables e below A t_ := by
    intro t_ ht_
    refine k0 t_ ?_
    refine own_f_iloadN X0.here hx (hb hby at_0) rfl (rfl : _ = 1) ?_
    refine own_f_iconst X0.here hx (hb hby at_1) (rfl : _ = (1 : Int32)) (rfl : _ = 2) ?_
    refine own_f_iand X0.here hx (hb hby at_2) rfl (rfl : _ = 3) ?_
    exact ht_
  by_cases hw0 : (p3 &&& (1 : Int32)) = (0 : Int32)
  · obtain ⟨T2, X2, e2, st2⟩ := getS2 X0 hx hZ hown (host := "") (Or.inl (hw _ (List.mem_of_getElem? (i := 0) rfl))) Via.refl e0 Ss (g := (mkF m 22 #[.val (.int p1), .val (.int p2), .val (.int p3), .val (.int (0 : Int32)), .unset, .unset, .unset, .unset, .unset, .unset, .unset, .unset, .unset, .unset, .unset] [])) rfl (hb hby at_22)
    obtain ⟨cq3, kq3, q3a, q3b, q3c⟩ := isOf hZ e2 ExS
    obtain ⟨_, _, ⟨T3, L3, k3_, n3⟩, -, X3, ⟨Lc3, hQ3, l3, y3, z3⟩, st3⟩ := X2.virtualBack hx (y := (⟨"com/example/honeyguide/honeyguide/Aggregate", "join", "(DD)D"⟩ : MethodName)) (z := (⟨"com/example/honeyguide/honeyguide/Aggregate", "join", "(DD)D"⟩ : MethodName)) hown (mvT hZ (hw _ (List.mem_of_getElem? (i := 4) rfl))) (mvT hZ (hw _ (List.mem_of_getElem? (i := 5) rfl))) (notFace_of_selects (args := #[]) (mvT hZ (hw _ (List.mem_of_getElem? (i := 7) rfl)))) (mvT hZ (hw _ (List.mem_of_getElem? (i := 7) rfl))) (mvT hZ (hw _ (List.mem_of_getElem? (i := 6) rfl))) (by decide) (backOf (W := 0) (rm2_0 l Z a0 hw [] aS (FP.ddiv (FP.i2d p1) (4611686018427387904 : UInt64)) (FP.ddiv (FP.i2d p2) (4611686018427387904 : UInt64))  h0 n0 Z0 ExS FS (own_sum p1 p2).1) hZ (hw _ (List.mem_of_getElem? (i := 8) rfl)) (hw _ (List.mem_of_getElem? (i := 1) rfl)) (by decide) (by decide)) q3a q3c (g := (mkF m 49 #[.val (.int p1), .val (.int p2), .val (.int p3), .val (.int (0 : Int32)), .val (.ref aS), .val (.double (FP.ddiv (FP.i2d p1) (4611686018427387904 : UInt64))), .second, .val (.double (FP.ddiv (FP.i2d p2) (4611686018427387904 : UInt64))), .second, .unset, .unset, .unset, .unset, .unset, .unset] [(.double (FP.ddiv (FP.i2d p2) (4611686018427387904 : UInt64))), (.double (FP.ddiv (FP.i2d p1) (4611686018427387904 : UInt64))), (.ref aS)])) rfl (by rw [hml]; rfl) (Steps.refl _) (argsL := [(.double (FP.ddiv (FP.i2d p1) (4611686018427387904 : UInt64))), (.double (FP.ddiv (FP.i2d p2) (4611686018427387904 : UInt64)))]) (rest := []) (lenOf pd_1 rfl) rfl (by show 2 * 0 + _ ≤ _; exact Nat.le_of_eq rfl) (hb hby at_49) (fun _ _ => ⟨rfl, e2, (by decide : 0 + 0 ≤ _), (by decide : 0 + 0 ≤ _)⟩)
    dsimp only [Pt.U, Pt.locs, Pt.cells, Pt.slots] at X3 l3 y3 z3 st3 hQ3
    subst l3 y3 z3
    obtain ⟨rfl, Nq3, e3⟩ := hQ3
    have N3 := Fr.app N0 Nq3
    obtain ⟨fs, hr, hrun, hended, hW, hsame⟩ := X3.leave (v := some (.int (1 : Int32))) (fun h => by rw [Bd.returns] at h; cases h)
    refine ⟨_, _, ?_, hrun, hended, _, _, rfl, ?_, ⟨_, rfl⟩, hW, hsame.mono (by decide) (by decide)⟩
    · refine hA0 _ ?_
      refine k1 _ ?_
      refine own_f_ifYes X0.here hx (hb hby at_3) ((if0 _ _).trans (teq (hw0)).1) (by decide) (by decide : _ = 10) ?_
      refine own_f_iconst X0.here hx (hb hby at_10) (rfl : _ = (0 : Int32)) (rfl : _ = 11) ?_
      refine own_f_istoreN X0.here hx (hb hby at_11) (rfl : storeLocals _ _ _ = some #[.val (.int p1), .val (.int p2), .val (.int p3), .val (.int (0 : Int32)), .unset, .unset, .unset, .unset, .unset, .unset, .unset, .unset, .unset, .unset, .unset]) (rfl : _ = 12) ?_
      refine own_f_iloadN X0.here hx (hb hby at_12) rfl (rfl : _ = 13) ?_
      refine own_f_ifYes X0.here hx (hb hby at_13) ((if0 _ _).trans (teq (rfl)).1) (by decide) (by decide : _ = 22) ?_
      refine st2 _ ?_
      show Steps p.tables e below (T2.setTop (mkF m 25 #[.val (.int p1), .val (.int p2), .val (.int p3), .val (.int (0 : Int32)), .unset, .unset, .unset, .unset, .unset, .unset, .unset, .unset, .unset, .unset, .unset] [(.ref aS)])) _
      refine own_f_astore X2.here hx (hb hby at_25) rfl (rfl : storeLocals _ _ _ = some #[.val (.int p1), .val (.int p2), .val (.int p3), .val (.int (0 : Int32)), .val (.ref aS), .unset, .unset, .unset, .unset, .unset, .unset, .unset, .unset, .unset, .unset]) (rfl : _ = 27) ?_
      refine own_f_iloadN X2.here hx (hb hby at_27) rfl (rfl : _ = 28) ?_
      refine own_f_i2d X2.here hx (hb hby at_28) rfl (rfl : _ = 29) ?_
      refine own_f_ldc2DoubleC X2 hx hown (mvT hZ (hw _ (List.mem_of_getElem? (i := 3) rfl))) (hb hby at_29) (rfl : _ = 32) ?_
      refine own_f_ddiv X2.here hx (hb hby at_32) (own_h p1) rfl (rfl : _ = 33) ?_
      refine own_f_dstore X2.here hx (hb hby at_33) (rfl : storeLocals _ _ _ = some #[.val (.int p1), .val (.int p2), .val (.int p3), .val (.int (0 : Int32)), .val (.ref aS), .val (.double (FP.ddiv (FP.i2d p1) (4611686018427387904 : UInt64))), .second, .unset, .unset, .unset, .unset, .unset, .unset, .unset, .unset]) (rfl : _ = 35) ?_
      refine own_f_iloadN X2.here hx (hb hby at_35) rfl (rfl : _ = 36) ?_
      refine own_f_i2d X2.here hx (hb hby at_36) rfl (rfl : _ = 37) ?_
      refine own_f_ldc2DoubleC X2 hx hown (mvT hZ (hw _ (List.mem_of_getElem? (i := 3) rfl))) (hb hby at_37) (rfl : _ = 40) ?_
      refine own_f_ddiv X2.here hx (hb hby at_40) (own_h p2) rfl (rfl : _ = 41) ?_
      refine own_f_dstore X2.here hx (hb hby at_41) (rfl : storeLocals _ _ _ = some #[.val (.int p1), .val (.int p2), .val (.int p3), .val (.int (0 : Int32)), .val (.ref aS), .val (.double (FP.ddiv (FP.i2d p1) (4611686018427387904 : UInt64))), .second, .val (.double (FP.ddiv (FP.i2d p2) (4611686018427387904 : UInt64))), .second, .unset, .unset, .unset, .unset, .unset, .unset]) (rfl : _ = 43) ?_
      refine own_f_aload X2.here hx (hb hby at_43) rfl rfl (rfl : _ = 45) ?_
      refine own_f_dload X2.here hx (hb hby at_45) rfl (rfl : _ = 47) ?_
      refine own_f_dload X2.here hx (hb hby at_47) rfl (rfl : _ = 49) ?_
      refine st3.trans ?_
      show Steps p.tables e below (T3.setTop (mkF m 52 #[.val (.int p1), .val (.int p2), .val (.int p3), .val (.int (0 : Int32)), .val (.ref aS), .val (.double (FP.ddiv (FP.i2d p1) (4611686018427387904 : UInt64))), .second, .val (.double (FP.ddiv (FP.i2d p2) (4611686018427387904 : UInt64))), .second, .unset, .unset, .unset, .unset, .unset, .unset] [(.double (FP.dadd (FP.ddiv (FP.i2d p1) (4611686018427387904 : UInt64)) (FP.ddiv (FP.i2d p2) (4611686018427387904 : UInt64))))])) _
      refine own_f_dstore X3.here hx (hb hby at_52) (rfl : storeLocals _ _ _ = some #[.val (.int p1), .val (.int p2), .val (.int p3), .val (.int (0 : Int32)), .val (.ref aS), .val (.double (FP.ddiv (FP.i2d p1) (4611686018427387904 : UInt64))), .second, .val (.double (FP.ddiv (FP.i2d p2) (4611686018427387904 : UInt64))), .second, .val (.double (FP.dadd (FP.ddiv (FP.i2d p1) (4611686018427387904 : UInt64)) (FP.ddiv (FP.i2d p2) (4611686018427387904 : UInt64)))), .second, .unset, .unset, .unset, .unset]) (rfl : _ = 54) ?_
      refine own_f_iloadN X3.here hx (hb hby at_54) rfl (rfl : _ = 55) ?_
      refine own_f_ifYes X3.here hx (hb hby at_55) ((if0 _ _).trans (teq (rfl)).1) (by decide) (by decide : _ = 82) ?_
      refine own_f_iloadN X3.here hx (hb hby at_82) rfl (rfl : _ = 83) ?_
      refine own_f_i2l X3.here hx (hb hby at_83) (rfl : _ = 84) ?_
      refine own_f_iloadN X3.here hx (hb hby at_84) rfl (rfl : _ = 85) ?_
      refine own_f_i2l X3.here hx (hb hby at_85) (rfl : _ = 86) ?_
      refine own_f_ladd X3.here hx (hb hby at_86) rfl (rfl : _ = 87) ?_
      refine own_f_lstore X3.here hx (hb hby at_87) (rfl : storeLocals _ _ _ = some #[.val (.int p1), .val (.int p2), .val (.int p3), .val (.int (0 : Int32)), .val (.ref aS), .val (.double (FP.ddiv (FP.i2d p1) (4611686018427387904 : UInt64))), .second, .val (.double (FP.ddiv (FP.i2d p2) (4611686018427387904 : UInt64))), .second, .val (.double (FP.dadd (FP.ddiv (FP.i2d p1) (4611686018427387904 : UInt64)) (FP.ddiv (FP.i2d p2) (4611686018427387904 : UInt64)))), .second, .unset, .unset, .val (.long ((p1.toInt64) + (p2.toInt64))), .second]) (rfl : _ = 89) ?_
      refine own_f_lload X3.here hx (hb hby at_89) rfl (rfl : _ = 91) ?_
      refine own_f_l2d X3.here hx (hb hby at_91) rfl (rfl : _ = 92) ?_
      refine own_f_ldc2DoubleC X3 hx hown (mvT hZ (hw _ (List.mem_of_getElem? (i := 3) rfl))) (hb hby at_92) (rfl : _ = 95) ?_
      refine own_f_ddiv X3.here hx (hb hby at_95) ((own_sum p1 p2).2.1) rfl (rfl : _ = 96) ?_
      refine own_f_dstore X3.here hx (hb hby at_96) (rfl : storeLocals _ _ _ = some #[.val (.int p1), .val (.int p2), .val (.int p3), .val (.int (0 : Int32)), .val (.ref aS), .val (.double (FP.ddiv (FP.i2d p1) (4611686018427387904 : UInt64))), .second, .val (.double (FP.ddiv (FP.i2d p2) (4611686018427387904 : UInt64))), .second, .val (.double (FP.dadd (FP.ddiv (FP.i2d p1) (4611686018427387904 : UInt64)) (FP.ddiv (FP.i2d p2) (4611686018427387904 : UInt64)))), .second, .val (.double (FP.ddiv (FP.l2d ((p1.toInt64) + (p2.toInt64))) (4611686018427387904 : UInt64))), .second, .val (.long ((p1.toInt64) + (p2.toInt64))), .second]) (rfl : _ = 98) ?_
      refine own_f_dload X3.here hx (hb hby at_98) rfl (rfl : _ = 100) ?_
      refine own_f_dload X3.here hx (hb hby at_100) rfl (rfl : _ = 102) ?_
      refine own_f_dcmp X3.here hx (hb hby at_102) rfl (rfl : _ = 103) ?_
      refine own_f_ifNo X3.here hx (hb hby at_103) ((if0 _ _).trans (teq ((own_sum p1 p2).2.2)).2) (rfl : _ = 106) ?_
      refine own_f_iconst X3.here hx (hb hby at_106) (rfl : _ = (1 : Int32)) (rfl : _ = 107) ?_
      refine own_f_goto X3.here hx (hb hby at_107) (by decide) (by decide : _ = 111) ?_
      exact retN X3 hx (t := .boolean) Bd.returns (by simp) (hb hby at_111) hr
    · show Q0 Z p1 p2 p3 aS aM h0 n0 _ T3.heap _
      rw [e3]
      exact ⟨rfl, N3⟩
  · obtain ⟨T4, X4, e4, st4⟩ := getS2 X0 hx hZ hown (host := "") (Or.inl (hw _ (List.mem_of_getElem? (i := 18) rfl))) Via.refl e0 Sm (g := (mkF m 16 #[.val (.int p1), .val (.int p2), .val (.int p3), .val (.int (1 : Int32)), .unset, .unset, .unset, .unset, .unset, .unset, .unset, .unset, .unset, .unset, .unset] [])) rfl (hb hby at_16)
    obtain ⟨cq5, kq5, q5a, q5b, q5c⟩ := isOf hZ e4 ExM
    obtain ⟨_, _, ⟨T5, L5, k5_, n5⟩, -, X5, ⟨Lc5, hQ5, l5, y5, z5⟩, st5⟩ := X4.virtualBack hx (y := (⟨"com/example/honeyguide/honeyguide/Aggregate", "join", "(DD)D"⟩ : MethodName)) (z := (⟨"com/example/honeyguide/honeyguide/Aggregate", "join", "(DD)D"⟩ : MethodName)) hown (mvT hZ (hw _ (List.mem_of_getElem? (i := 4) rfl))) (mvT hZ (hw _ (List.mem_of_getElem? (i := 5) rfl))) (notFace_of_selects (args := #[]) (mvT hZ (hw _ (List.mem_of_getElem? (i := 7) rfl)))) (mvT hZ (hw _ (List.mem_of_getElem? (i := 7) rfl))) (mvT hZ (hw _ (List.mem_of_getElem? (i := 6) rfl))) (by decide) (backOf (W := 0) (rm2_1 l Z a0 hw [] aM (FP.ddiv (FP.i2d p1) (4611686018427387904 : UInt64)) (FP.ddiv (FP.i2d p2) (4611686018427387904 : UInt64))  h0 n0 Z0 ExM FM (own_h p1) (own_h p2)) hZ (hw _ (List.mem_of_getElem? (i := 8) rfl)) (hw _ (List.mem_of_getElem? (i := 1) rfl)) (by decide) (by decide)) q5a q5c (g := (mkF m 49 #[.val (.int p1), .val (.int p2), .val (.int p3), .val (.int (1 : Int32)), .val (.ref aM), .val (.double (FP.ddiv (FP.i2d p1) (4611686018427387904 : UInt64))), .second, .val (.double (FP.ddiv (FP.i2d p2) (4611686018427387904 : UInt64))), .second, .unset, .unset, .unset, .unset, .unset, .unset] [(.double (FP.ddiv (FP.i2d p2) (4611686018427387904 : UInt64))), (.double (FP.ddiv (FP.i2d p1) (4611686018427387904 : UInt64))), (.ref aM)])) rfl (by rw [hml]; rfl) (Steps.refl _) (argsL := [(.double (FP.ddiv (FP.i2d p1) (4611686018427387904 : UInt64))), (.double (FP.ddiv (FP.i2d p2) (4611686018427387904 : UInt64)))]) (rest := []) (lenOf pd_1 rfl) rfl (by show 2 * 0 + _ ≤ _; exact Nat.le_of_eq rfl) (hb hby at_49) (fun _ _ => ⟨rfl, e4, (by decide : 0 + 0 ≤ _), (by decide : 0 + 0 ≤ _)⟩)
    dsimp only [Pt.U, Pt.locs, Pt.cells, Pt.slots] at X5 l5 y5 z5 st5 hQ5
    subst l5 y5 z5
    obtain ⟨rfl, Nq5, e5⟩ := hQ5
    have N5 := Fr.app N0 Nq5
    have k6 : ∀ t_, Steps p.tables e below (T5.setTop (mkF m 60 #[.val (.int p1), .val (.int p2), .val (.int p3), .val (.int (1 : Int32)), .val (.ref aM), .val (.double (FP.ddiv (FP.i2d p1) (4611686018427387904 : UInt64))), .second, .val (.double (FP.ddiv (FP.i2d p2) (4611686018427387904 : UInt64))), .second, .val (.double (Jvm.Native.java_lang_Math.nans.pick64 true (FP.ddiv (FP.i2d p1) (4611686018427387904 : UInt64)) (FP.ddiv (FP.i2d p2) (4611686018427387904 : UInt64)))), .second, .unset, .unset, .unset, .unset] [(.int p2), (.int p1)])) t_ → Steps p.tables e below A t_ := by
      intro t_ ht_
      refine k1 t_ ?_
      refine own_f_ifNo X0.here hx (hb hby at_3) ((if0 _ _).trans (feq (hw0)).1) (rfl : _ = 6) ?_
      refine own_f_iconst X0.here hx (hb hby at_6) (rfl : _ = (1 : Int32)) (rfl : _ = 7) ?_
      refine own_f_goto X0.here hx (hb hby at_7) (by decide) (by decide : _ = 11) ?_
      refine own_f_istoreN X0.here hx (hb hby at_11) (rfl : storeLocals _ _ _ = some #[.val (.int p1), .val (.int p2), .val (.int p3), .val (.int (1 : Int32)), .unset, .unset, .unset, .unset, .unset, .unset, .unset, .unset, .unset, .unset, .unset]) (rfl : _ = 12) ?_
      refine own_f_iloadN X0.here hx (hb hby at_12) rfl (rfl : _ = 13) ?_
      refine own_f_ifNo X0.here hx (hb hby at_13) ((if0 _ _).trans (feq (by decide)).1) (rfl : _ = 16) ?_
      refine st4 _ ?_
      show Steps p.tables e below (T4.setTop (mkF m 19 #[.val (.int p1), .val (.int p2), .val (.int p3), .val (.int (1 : Int32)), .unset, .unset, .unset, .unset, .unset, .unset, .unset, .unset, .unset, .unset, .unset] [(.ref aM)])) t_
      refine own_f_goto X4.here hx (hb hby at_19) (by decide) (by decide : _ = 25) ?_
      refine own_f_astore X4.here hx (hb hby at_25) rfl (rfl : storeLocals _ _ _ = some #[.val (.int p1), .val (.int p2), .val (.int p3), .val (.int (1 : Int32)), .val (.ref aM), .unset, .unset, .unset, .unset, .unset, .unset, .unset, .unset, .unset, .unset]) (rfl : _ = 27) ?_
      refine own_f_iloadN X4.here hx (hb hby at_27) rfl (rfl : _ = 28) ?_
      refine own_f_i2d X4.here hx (hb hby at_28) rfl (rfl : _ = 29) ?_
      refine own_f_ldc2DoubleC X4 hx hown (mvT hZ (hw _ (List.mem_of_getElem? (i := 3) rfl))) (hb hby at_29) (rfl : _ = 32) ?_
      refine own_f_ddiv X4.here hx (hb hby at_32) (own_h p1) rfl (rfl : _ = 33) ?_
      refine own_f_dstore X4.here hx (hb hby at_33) (rfl : storeLocals _ _ _ = some #[.val (.int p1), .val (.int p2), .val (.int p3), .val (.int (1 : Int32)), .val (.ref aM), .val (.double (FP.ddiv (FP.i2d p1) (4611686018427387904 : UInt64))), .second, .unset, .unset, .unset, .unset, .unset, .unset, .unset, .unset]) (rfl : _ = 35) ?_
      refine own_f_iloadN X4.here hx (hb hby at_35) rfl (rfl : _ = 36) ?_
      refine own_f_i2d X4.here hx (hb hby at_36) rfl (rfl : _ = 37) ?_
      refine own_f_ldc2DoubleC X4 hx hown (mvT hZ (hw _ (List.mem_of_getElem? (i := 3) rfl))) (hb hby at_37) (rfl : _ = 40) ?_
      refine own_f_ddiv X4.here hx (hb hby at_40) (own_h p2) rfl (rfl : _ = 41) ?_
      refine own_f_dstore X4.here hx (hb hby at_41) (rfl : storeLocals _ _ _ = some #[.val (.int p1), .val (.int p2), .val (.int p3), .val (.int (1 : Int32)), .val (.ref aM), .val (.double (FP.ddiv (FP.i2d p1) (4611686018427387904 : UInt64))), .second, .val (.double (FP.ddiv (FP.i2d p2) (4611686018427387904 : UInt64))), .second, .unset, .unset, .unset, .unset, .unset, .unset]) (rfl : _ = 43) ?_
      refine own_f_aload X4.here hx (hb hby at_43) rfl rfl (rfl : _ = 45) ?_
      refine own_f_dload X4.here hx (hb hby at_45) rfl (rfl : _ = 47) ?_
      refine own_f_dload X4.here hx (hb hby at_47) rfl (rfl : _ = 49) ?_
      refine st5.trans ?_
      show Steps p.tables e below (T5.setTop (mkF m 52 #[.val (.int p1), .val (.int p2), .val (.int p3), .val (.int (1 : Int32)), .val (.ref aM), .val (.double (FP.ddiv (FP.i2d p1) (4611686018427387904 : UInt64))), .second, .val (.double (FP.ddiv (FP.i2d p2) (4611686018427387904 : UInt64))), .second, .unset, .unset, .unset, .unset, .unset, .unset] [(.double (Jvm.Native.java_lang_Math.nans.pick64 true (FP.ddiv (FP.i2d p1) (4611686018427387904 : UInt64)) (FP.ddiv (FP.i2d p2) (4611686018427387904 : UInt64))))])) t_
      refine own_f_dstore X5.here hx (hb hby at_52) (rfl : storeLocals _ _ _ = some #[.val (.int p1), .val (.int p2), .val (.int p3), .val (.int (1 : Int32)), .val (.ref aM), .val (.double (FP.ddiv (FP.i2d p1) (4611686018427387904 : UInt64))), .second, .val (.double (FP.ddiv (FP.i2d p2) (4611686018427387904 : UInt64))), .second, .val (.double (Jvm.Native.java_lang_Math.nans.pick64 true (FP.ddiv (FP.i2d p1) (4611686018427387904 : UInt64)) (FP.ddiv (FP.i2d p2) (4611686018427387904 : UInt64)))), .second, .unset, .unset, .unset, .unset]) (rfl : _ = 54) ?_
      refine own_f_iloadN X5.here hx (hb hby at_54) rfl (rfl : _ = 55) ?_
      refine own_f_ifNo X5.here hx (hb hby at_55) ((if0 _ _).trans (feq (by decide)).1) (rfl : _ = 58) ?_
      refine own_f_iloadN X5.here hx (hb hby at_58) rfl (rfl : _ = 59) ?_
      refine own_f_iloadN X5.here hx (hb hby at_59) rfl (rfl : _ = 60) ?_
      exact ht_
    by_cases hlt : p1 < p2
    · obtain ⟨fs, hr, hrun, hended, hW, hsame⟩ := X5.leave (v := some (.int (1 : Int32))) (fun h => by rw [Bd.returns] at h; cases h)
      refine ⟨_, _, ?_, hrun, hended, _, _, rfl, ?_, ⟨_, rfl⟩, hW, hsame.mono (by decide) (by decide)⟩
      · refine hA0 _ ?_
        refine k6 _ ?_
        refine own_f_icmpNo X5.here hx (hb hby at_60) (tlt (hlt)).2.1 (rfl : _ = 63) ?_
        refine own_f_iloadN X5.here hx (hb hby at_63) rfl (rfl : _ = 64) ?_
        refine own_f_goto X5.here hx (hb hby at_64) (by decide) (by decide : _ = 68) ?_
        refine own_f_istore X5.here hx (hb hby at_68) (rfl : storeLocals _ _ _ = some #[.val (.int p1), .val (.int p2), .val (.int p3), .val (.int (1 : Int32)), .val (.ref aM), .val (.double (FP.ddiv (FP.i2d p1) (4611686018427387904 : UInt64))), .second, .val (.double (FP.ddiv (FP.i2d p2) (4611686018427387904 : UInt64))), .second, .val (.double (Jvm.Native.java_lang_Math.nans.pick64 true (FP.ddiv (FP.i2d p1) (4611686018427387904 : UInt64)) (FP.ddiv (FP.i2d p2) (4611686018427387904 : UInt64)))), .second, .unset, .unset, .val (.int p2), .unset]) (rfl : _ = 70) ?_
        refine own_f_iload X5.here hx (hb hby at_70) rfl (rfl : _ = 72) ?_
        refine own_f_i2d X5.here hx (hb hby at_72) rfl (rfl : _ = 73) ?_
        refine own_f_ldc2DoubleC X5 hx hown (mvT hZ (hw _ (List.mem_of_getElem? (i := 3) rfl))) (hb hby at_73) (rfl : _ = 76) ?_
        refine own_f_ddiv X5.here hx (hb hby at_76) (own_h p2) rfl (rfl : _ = 77) ?_
        refine own_f_dstore X5.here hx (hb hby at_77) (rfl : storeLocals _ _ _ = some #[.val (.int p1), .val (.int p2), .val (.int p3), .val (.int (1 : Int32)), .val (.ref aM), .val (.double (FP.ddiv (FP.i2d p1) (4611686018427387904 : UInt64))), .second, .val (.double (FP.ddiv (FP.i2d p2) (4611686018427387904 : UInt64))), .second, .val (.double (Jvm.Native.java_lang_Math.nans.pick64 true (FP.ddiv (FP.i2d p1) (4611686018427387904 : UInt64)) (FP.ddiv (FP.i2d p2) (4611686018427387904 : UInt64)))), .second, .val (.double (FP.ddiv (FP.i2d p2) (4611686018427387904 : UInt64))), .second, .val (.int p2), .unset]) (rfl : _ = 79) ?_
        refine own_f_goto X5.here hx (hb hby at_79) (by decide) (by decide : _ = 98) ?_
        refine own_f_dload X5.here hx (hb hby at_98) rfl (rfl : _ = 100) ?_
        refine own_f_dload X5.here hx (hb hby at_100) rfl (rfl : _ = 102) ?_
        refine own_f_dcmp X5.here hx (hb hby at_102) rfl (rfl : _ = 103) ?_
        refine own_f_ifNo X5.here hx (hb hby at_103) ((if0 _ _).trans (teq (own_maxl hlt)).2) (rfl : _ = 106) ?_
        refine own_f_iconst X5.here hx (hb hby at_106) (rfl : _ = (1 : Int32)) (rfl : _ = 107) ?_
        refine own_f_goto X5.here hx (hb hby at_107) (by decide) (by decide : _ = 111) ?_
        exact retN X5 hx (t := .boolean) Bd.returns (by simp) (hb hby at_111) hr
      · show Q0 Z p1 p2 p3 aS aM h0 n0 _ T5.heap _
        rw [e5]
        exact ⟨rfl, N5⟩
    · obtain ⟨fs, hr, hrun, hended, hW, hsame⟩ := X5.leave (v := some (.int (1 : Int32))) (fun h => by rw [Bd.returns] at h; cases h)
      refine ⟨_, _, ?_, hrun, hended, _, _, rfl, ?_, ⟨_, rfl⟩, hW, hsame.mono (by decide) (by decide)⟩
      · refine hA0 _ ?_
        refine k6 _ ?_
        refine own_f_icmpYes X5.here hx (hb hby at_60) (flt (hlt)).2.1 (by decide) (by decide : _ = 67) ?_
        refine own_f_iloadN X5.here hx (hb hby at_67) rfl (rfl : _ = 68) ?_
        refine own_f_istore X5.here hx (hb hby at_68) (rfl : storeLocals _ _ _ = some #[.val (.int p1), .val (.int p2), .val (.int p3), .val (.int (1 : Int32)), .val (.ref aM), .val (.double (FP.ddiv (FP.i2d p1) (4611686018427387904 : UInt64))), .second, .val (.double (FP.ddiv (FP.i2d p2) (4611686018427387904 : UInt64))), .second, .val (.double (Jvm.Native.java_lang_Math.nans.pick64 true (FP.ddiv (FP.i2d p1) (4611686018427387904 : UInt64)) (FP.ddiv (FP.i2d p2) (4611686018427387904 : UInt64)))), .second, .unset, .unset, .val (.int p1), .unset]) (rfl : _ = 70) ?_
        refine own_f_iload X5.here hx (hb hby at_70) rfl (rfl : _ = 72) ?_
        refine own_f_i2d X5.here hx (hb hby at_72) rfl (rfl : _ = 73) ?_
        refine own_f_ldc2DoubleC X5 hx hown (mvT hZ (hw _ (List.mem_of_getElem? (i := 3) rfl))) (hb hby at_73) (rfl : _ = 76) ?_
        refine own_f_ddiv X5.here hx (hb hby at_76) (own_h p1) rfl (rfl : _ = 77) ?_
        refine own_f_dstore X5.here hx (hb hby at_77) (rfl : storeLocals _ _ _ = some #[.val (.int p1), .val (.int p2), .val (.int p3), .val (.int (1 : Int32)), .val (.ref aM), .val (.double (FP.ddiv (FP.i2d p1) (4611686018427387904 : UInt64))), .second, .val (.double (FP.ddiv (FP.i2d p2) (4611686018427387904 : UInt64))), .second, .val (.double (Jvm.Native.java_lang_Math.nans.pick64 true (FP.ddiv (FP.i2d p1) (4611686018427387904 : UInt64)) (FP.ddiv (FP.i2d p2) (4611686018427387904 : UInt64)))), .second, .val (.double (FP.ddiv (FP.i2d p1) (4611686018427387904 : UInt64))), .second, .val (.int p1), .unset]) (rfl : _ = 79) ?_
        refine own_f_goto X5.here hx (hb hby at_79) (by decide) (by decide : _ = 98) ?_
        refine own_f_dload X5.here hx (hb hby at_98) rfl (rfl : _ = 100) ?_
        refine own_f_dload X5.here hx (hb hby at_100) rfl (rfl : _ = 102) ?_
        refine own_f_dcmp X5.here hx (hb hby at_102) rfl (rfl : _ = 103) ?_
        refine own_f_ifNo X5.here hx (hb hby at_103) ((if0 _ _).trans (teq (own_maxg hlt)).2) (rfl : _ = 106) ?_
        refine own_f_iconst X5.here hx (hb hby at_106) (rfl : _ = (1 : Int32)) (rfl : _ = 107) ?_
        refine own_f_goto X5.here hx (hb hby at_107) (by decide) (by decide : _ = 111) ?_
        exact retN X5 hx (t := .boolean) Bd.returns (by simp) (hb hby at_111) hr
      · show Q0 Z p1 p2 p3 aS aM h0 n0 _ T5.heap _
        rw [e5]
        exact ⟨rfl, N5⟩
set_option maxRecDepth 65536 in
set_option maxHeartbeats 40000000 in
theorem comes_1 {Post : Tables → Env → Array Value → State → Outcome → State → Prop} (hpost : ∀ tb e args s v u, (limb_1_1.after args s (.returned v) u = true ∧ limb_1_2.after args s (.returned v) u = true ∧ True) → FrameEnd s (.returned v) u (Jvm.fieldLocs frame_1_writes args s ++ Jvm.arrayLocs frame_1_arrays args s ++ Jvm.staticLocs frame_1_statics s) 0 0 → Post tb e args s (.returned v) u) :
    ArmFor flags0 classFile x code maxLocals ret World_1 tables_1 room_1 Calls_1 rest_1 Pre_1 Post := by
  intro l hfl _ _ p e ha hc hk s m args below hf hA hF happ hP
  obtain ⟨hcalls, hrest, hpre⟩ := hP
  obtain ⟨-, -, -, hnamed, -, -, -, hat⟩ := (Spec.applies_iff hf).mp happ
  obtain ⟨hg, hn⟩ := and_e (Cond.before_iff.mp (show (Jvm.Cond.and given_1 narrow_1).before args s = true from hpre))
  obtain ⟨gc, gr0⟩ := and_e hg
  obtain ⟨g0, gr1⟩ := and_e gr0
  obtain ⟨g1, gr2⟩ := and_e gr1
  have g2 := gr2
  obtain ⟨w0, w1, w2, rfl⟩ : ∃ w0 w1 w2 : Value, args = #[w0, w1, w2] := by
    have hs : args.size = 3 := by simpa [Cond.value, given_1] using gc
    obtain ⟨L⟩ := args
    match L, hs with
    | [w0, w1, w2], _ => exact ⟨w0, w1, w2, rfl⟩
  have hw := fun d (hd : d ∈ tables_1) => atoms_spec (ws := Jvm.Cond.code x code maxLocals ret :: tables_1) hat d (List.mem_cons_of_mem _ hd)
  have hfit : Fit s := fun {y c} hc i hi => by
    obtain ⟨ha, rfl⟩ := Array.getElem?_eq_some_iff.mp hc
    have q := List.all_eq_true.mp ((Array.all_eq_true_iff_forall_mem.mp hF) _ (Array.getElem_mem ha)) i (List.mem_range.mpr hi)
    simpa [Array.getElem?_eq_getElem hi] using q
  obtain ⟨i0, ei0⟩ := is_v g0
  obtain rfl : w0 = (.int i0) := Option.some.inj ei0
  obtain ⟨i1, ei1⟩ := is_v g1
  obtain rfl : w1 = (.int i1) := Option.some.inj ei1
  obtain ⟨i2, ei2⟩ := is_v g2
  obtain rfl : w2 = (.int i2) := Option.some.inj ei2
  obtain ⟨n1, hn⟩ := and_e hn
  obtain ⟨n2, hn⟩ := and_e hn
  obtain ⟨n3, n4⟩ := and_e hn
  obtain ⟨aS, evS⟩ := exa_v n1
  have ExS := Exa.start evS n1
  have StS := Sta.start evS (Or.inr ⟨(hw _ (List.mem_of_getElem? (i := 1) rfl)), (hw _ (List.mem_of_getElem? (i := 2) rfl))⟩)
  have FS := Fld.start (own_feq evS n2)
  obtain ⟨aM, evM⟩ := exa_v n3
  have ExM := Exa.start evM n3
  have StM := Sta.start evM (Or.inr ⟨(hw _ (List.mem_of_getElem? (i := 1) rfl)), (hw _ (List.mem_of_getElem? (i := 19) rfl))⟩)
  have FM := Fld.start (own_feq evM n4)
  obtain ⟨n, o, h1, h2, h3, _, L, rfl, ⟨rfl, N⟩, hq⟩ := rm0 l s _ hw tables_1 i0 i1 i2 aS aM s.heap s.heap.size (Nat.le_refl _) StS StM ExS ExM FS FM p e ha hc hk s m _ below hf ((Spec.applies_iff_loose hf).mp happ).1 ⟨rfl, State.Warmed39.refl s, rfl⟩ trivial
  refine ⟨n, _, h1, h2, h3, hpost _ _ _ _ _ _ ⟨Cond.after_iff.mpr rfl, Cond.after_iff.mpr (eq_i res_at (Term.int_eval (1)) rfl), trivial⟩ ⟨hq.1, hq.2.1, (hq.2.2.sift fun y hy => Or.inr (N y hy)).mono (by decide) (by decide)⟩⟩
theorem main_1_1 : Claimed_1_1 := comes_1 fun _ _ _ _ _ _ h hF => ⟨h.1, hF⟩
theorem main_1_2 : Claimed_1_2 := comes_1 fun _ _ _ _ _ _ h hF => ⟨h.2.1, hF⟩
end Jvm.Pilot.@@N@@
namespace Jvm.Pilot.@@N@@
open Jvm Jvm.ClassFile Sem Op Lib Jvm.Free Jvm.Stand Jvm.Pilot.@@N@@.Jvm.D
/-! MADE BY PROGRAM (witnessworld.py) out of the Statement's table words and the real class files: 13 classes; the members and pool entries that the words name. The judged class is class 1, her method 1. -/
namespace start1
open Jvm.ClassFile
def u (s : String) : CpInfo := .utf8 (stringToUtf16 s)
/-- a pool by its gaps: so many unusable entries, then the entry; so many at the end -/
def gap : Nat → List CpInfo → List CpInfo
  | 0, r => r
  | n + 1, r => .unusable :: gap n r
def poolList (es : List (Nat × CpInfo)) (last : Nat) : List CpInfo := es.foldr (fun e r => gap e.1 (e.2 :: r)) (gap last [])
def pool (es : List (Nat × CpInfo)) (last : Nat) : Array CpInfo := ⟨poolList es last⟩
def fileOf (pool : Array CpInfo) (this : Nat) (attrs : Array Attribute := #[]) (ms : Array MethodInfo := #[]) (fl : Nat := 33) (sup : Nat := 0) (ifs : Array Nat := #[]) (fds : Array FieldInfo := #[]) : ClassFile where
  minorVersion := 0
  majorVersion := 65
  constantPool := pool
  accessFlags := fl
  thisClass := this
  superClass := sup
  interfaces := ifs
  fields := fds
  methods := ms
  attributes := attrs
def plain (name : String) (sup : Option ClassId) : Class where
  name := name
  kind := .ordinary
  loader := none
  accessFlags := 33
  super := sup
  interfaces := #[]
  cf := none
  fields := #[]
  methods := #[]
  instanceTypes := #[]
  staticTypes := #[]
  resolved := #[]
  callSites := []
  init := .initialized
  statics := none
  mirror := none

def pool0 : Array CpInfo := pool [(5, u "<init>"), (0, u "()V"), (1, .class_ 10), (1, u "java/lang/Object")] 113

def k0m0 : Method := { name := "<init>", desc := "()V", sig := { parameters := [], returnType := none }, accessFlags := 1, code := none }
/-- java/lang/Object -/
def k0 : Class := { plain "java/lang/Object" none with
  accessFlags := 33
  interfaces := #[]
  cf := some (fileOf pool0 8 #[] #[{ accessFlags := 1, nameIndex := 5, descriptorIndex := 6, attributes := #[] }] 33 0 #[] #[])
  fields := #[]
  methods := #[k0m0]
  instanceTypes := #[]
  staticTypes := #[]
  resolved := Array.replicate 124 none
  statics := none }

def pool1 : Array CpInfo := pool [(2, .class_ 4), (1, u "java/lang/Object"), (0, u "<init>"), (0, u "()V"), (0, .fieldref 8 9), (0, .class_ 10), (0, .nameAndType 11 12), (0, u "com/example/honeyguide/honeyguide/Aggregate"), (0, u "MAX"), (0, u "Lcom/example/honeyguide/honeyguide/Aggregate;"), (0, .fieldref 8 14), (0, .nameAndType 15 12), (0, u "SUM"), (0, .double 4611686018427387904), (1, .methodref 8 19), (0, .nameAndType 20 21), (0, u "join"), (0, u "(DD)D"), (0, .class_ 23), (0, u "com/example/honeyguide/honeyguide/AggregateJoinPinLaw"), (2, u "law"), (0, u "(III)Z")] 3

def k1m0 : Method := { name := "<init>", desc := "()V", sig := { parameters := [], returnType := none }, accessFlags := 1, code := none }
def k1c1 : Code := { maxStack := 5, maxLocals := 15, code := code, exceptionTable := #[], attributes := #[] }
def k1m1 : Method := { name := "law", desc := "(III)Z", sig := { parameters := [.int, .int, .int], returnType := some .boolean }, accessFlags := 9, code := some k1c1 }
/-- com/example/honeyguide/honeyguide/AggregateJoinPinLaw -/
def k1 : Class := { plain "com/example/honeyguide/honeyguide/AggregateJoinPinLaw" (some 0) with
  accessFlags := 49
  interfaces := #[]
  cf := some (fileOf pool1 22 #[] #[{ accessFlags := 1, nameIndex := 5, descriptorIndex := 6, attributes := #[] }, { accessFlags := 9, nameIndex := 26, descriptorIndex := 27, attributes := #[] }] 49 2 #[] #[])
  fields := #[]
  methods := #[k1m0, k1m1]
  instanceTypes := #[]
  staticTypes := #[]
  resolved := Array.replicate 31 none
  statics := none }

def pool2 : Array CpInfo := pool [(1, .class_ 2), (0, u "java/lang/constant/Constable"), (0, .class_ 4), (0, u "java/lang/Object")] 6

/-- java/lang/constant/Constable -/
def k2 : Class := { plain "java/lang/constant/Constable" (some 0) with
  accessFlags := 1537
  interfaces := #[]
  cf := some (fileOf pool2 1 #[] #[] 1537 3 #[] #[])
  fields := #[]
  methods := #[]
  instanceTypes := #[]
  staticTypes := #[]
  resolved := Array.replicate 11 none
  statics := none }

def pool3 : Array CpInfo := pool [(1, .class_ 2), (0, u "java/lang/Comparable"), (0, .class_ 4), (0, u "java/lang/Object")] 7

/-- java/lang/Comparable -/
def k3 : Class := { plain "java/lang/Comparable" (some 0) with
  accessFlags := 1537
  interfaces := #[]
  cf := some (fileOf pool3 1 #[] #[] 1537 3 #[] #[])
  fields := #[]
  methods := #[]
  instanceTypes := #[]
  staticTypes := #[]
  resolved := Array.replicate 12 none
  statics := none }

def pool4 : Array CpInfo := pool [(1, .class_ 2), (0, u "java/io/Serializable"), (0, .class_ 4), (0, u "java/lang/Object")] 2

/-- java/io/Serializable -/
def k4 : Class := { plain "java/io/Serializable" (some 0) with
  accessFlags := 1537
  interfaces := #[]
  cf := some (fileOf pool4 1 #[] #[] 1537 3 #[] #[])
  fields := #[]
  methods := #[]
  instanceTypes := #[]
  staticTypes := #[]
  resolved := Array.replicate 7 none
  statics := none }

def pool5 : Array CpInfo := pool [(2, .class_ 4), (1, u "java/lang/Enum"), (0, u "name"), (0, u "Ljava/lang/String;"), (0, .fieldref 2 8), (0, .nameAndType 9 10), (0, u "ordinal"), (0, u "I"), (1, .class_ 14), (1, u "java/lang/Object"), (4, u "hash"), (86, .class_ 108), (1, u "java/lang/Enum$EnumDesc"), (2, .class_ 112), (0, u "java/lang/constant/Constable"), (0, .class_ 114), (0, u "java/lang/Comparable"), (0, .class_ 116), (0, u "java/io/Serializable"), (9, u "()I")] 77

def k5c0 : Code := { maxStack := 1, maxLocals := 1, code := jdk_37_method_2_code, exceptionTable := #[], attributes := #[] }
def k5m0 : Method := { name := "ordinal", desc := "()I", sig := { parameters := [], returnType := some .int }, accessFlags := 17, code := some k5c0 }
/-- java/lang/Enum -/
def k5 : Class := { plain "java/lang/Enum" (some 0) with
  accessFlags := 1057
  interfaces := #[2, 3, 4]
  cf := some (fileOf pool5 2 #[.nestMembers #[106]] #[{ accessFlags := 17, nameIndex := 9, descriptorIndex := 126, attributes := #[] }] 1057 12 #[111, 113, 115] #[{ accessFlags := 18, nameIndex := 5, descriptorIndex := 6, attributes := #[] }, { accessFlags := 18, nameIndex := 9, descriptorIndex := 10, attributes := #[] }, { accessFlags := 2, nameIndex := 19, descriptorIndex := 10, attributes := #[] }])
  fields := #[{ name := "name", type := (.object "java/lang/String"), accessFlags := 18, slot := 0, constantValue := 0 }, { name := "ordinal", type := .int, accessFlags := 18, slot := 1, constantValue := 0 }, { name := "hash", type := .int, accessFlags := 2, slot := 2, constantValue := 0 }]
  methods := #[k5m0]
  instanceTypes := #[(.object "java/lang/String"), .int, .int]
  staticTypes := #[]
  resolved := Array.replicate 204 none
  statics := none }

def pool6 : Array CpInfo := pool [(1, .class_ 2), (0, u "com/example/honeyguide/honeyguide/Aggregate"), (2, u "SUM"), (0, u "Lcom/example/honeyguide/honeyguide/Aggregate;"), (2, u "MAX"), (2, u "$VALUES"), (0, u "[Lcom/example/honeyguide/honeyguide/Aggregate;"), (6, .class_ 22), (1, u "java/lang/Enum"), (14, .methodref 1 38), (0, .nameAndType 39 40), (0, u "ordinal"), (0, u "()I"), (5, .methodref 47 48), (0, .class_ 49), (0, .nameAndType 50 51), (0, u "java/lang/Math"), (0, u "max"), (0, u "(DD)D"), (19, u "join")] 5

def k6c0 : Code := { maxStack := 4, maxLocals := 5, code := prog_1_method_5_code, exceptionTable := #[], attributes := #[] }
def k6m0 : Method := { name := "join", desc := "(DD)D", sig := { parameters := [.double, .double], returnType := some .double }, accessFlags := 0, code := some k6c0 }
/-- com/example/honeyguide/honeyguide/Aggregate -/
def k6 : Class := { plain "com/example/honeyguide/honeyguide/Aggregate" (some 5) with
  accessFlags := 16432
  interfaces := #[]
  cf := some (fileOf pool6 1 #[] #[{ accessFlags := 0, nameIndex := 71, descriptorIndex := 51, attributes := #[] }] 16432 20 #[] #[{ accessFlags := 16409, nameIndex := 5, descriptorIndex := 6, attributes := #[] }, { accessFlags := 16409, nameIndex := 9, descriptorIndex := 6, attributes := #[] }, { accessFlags := 4122, nameIndex := 12, descriptorIndex := 13, attributes := #[] }])
  fields := #[{ name := "SUM", type := (.object "com/example/honeyguide/honeyguide/Aggregate"), accessFlags := 16409, slot := 0, constantValue := 0 }, { name := "MAX", type := (.object "com/example/honeyguide/honeyguide/Aggregate"), accessFlags := 16409, slot := 1, constantValue := 0 }, { name := "$VALUES", type := (.array (.object "com/example/honeyguide/honeyguide/Aggregate")), accessFlags := 4122, slot := 2, constantValue := 0 }]
  methods := #[k6m0]
  instanceTypes := #[(.object "java/lang/String"), .int, .int]
  staticTypes := #[(.object "com/example/honeyguide/honeyguide/Aggregate"), (.object "com/example/honeyguide/honeyguide/Aggregate"), (.array (.object "com/example/honeyguide/honeyguide/Aggregate"))]
  resolved := Array.replicate 77 none
  statics := some 0 }

def pool7 : Array CpInfo := pool [(1, .class_ 2), (0, u "java/lang/Math"), (1, .class_ 6), (1, u "java/lang/Object"), (0, u "<init>"), (0, u "()V"), (43, u "(DD)D"), (45, .class_ 100), (1, u "java/lang/Math$RandomNumberGeneratorHolder"), (71, u "negativeZeroFloatBits"), (0, u "J"), (2, u "negativeZeroDoubleBits"), (21, u "max"), (46, u "$assertionsDisabled"), (0, u "Z"), (91, u "twoToTheDoubleScaleDown"), (0, u "D"), (4, u "twoToTheDoubleScaleUp"), (9, u "E"), (3, u "PI"), (2, u "TAU"), (2, u "DEGREES_TO_RADIANS"), (0, u "RADIANS_TO_DEGREES")] 94

def k7m0 : Method := { name := "<init>", desc := "()V", sig := { parameters := [], returnType := none }, accessFlags := 2, code := none }
def k7c1 : Code := { maxStack := 4, maxLocals := 4, code := jdk_29_method_68_code, exceptionTable := #[], attributes := #[] }
def k7m1 : Method := { name := "max", desc := "(DD)D", sig := { parameters := [.double, .double], returnType := some .double }, accessFlags := 9, code := some k7c1 }
/-- java/lang/Math -/
def k7 : Class := { plain "java/lang/Math" (some 0) with
  accessFlags := 49
  interfaces := #[]
  cf := some (fileOf pool7 1 #[.nestMembers #[98]] #[{ accessFlags := 2, nameIndex := 7, descriptorIndex := 8, attributes := #[] }, { accessFlags := 9, nameIndex := 198, descriptorIndex := 52, attributes := #[] }] 49 4 #[] #[{ accessFlags := 25, nameIndex := 354, descriptorIndex := 339, attributes := #[] }, { accessFlags := 25, nameIndex := 358, descriptorIndex := 339, attributes := #[] }, { accessFlags := 25, nameIndex := 361, descriptorIndex := 339, attributes := #[] }, { accessFlags := 26, nameIndex := 364, descriptorIndex := 339, attributes := #[] }, { accessFlags := 26, nameIndex := 365, descriptorIndex := 339, attributes := #[] }, { accessFlags := 26, nameIndex := 172, descriptorIndex := 173, attributes := #[] }, { accessFlags := 26, nameIndex := 176, descriptorIndex := 173, attributes := #[] }, { accessFlags := 8, nameIndex := 344, descriptorIndex := 339, attributes := #[] }, { accessFlags := 8, nameIndex := 338, descriptorIndex := 339, attributes := #[] }, { accessFlags := 4120, nameIndex := 245, descriptorIndex := 246, attributes := #[] }])
  fields := #[{ name := "E", type := .double, accessFlags := 25, slot := 0, constantValue := 0 }, { name := "PI", type := .double, accessFlags := 25, slot := 1, constantValue := 0 }, { name := "TAU", type := .double, accessFlags := 25, slot := 2, constantValue := 0 }, { name := "DEGREES_TO_RADIANS", type := .double, accessFlags := 26, slot := 3, constantValue := 0 }, { name := "RADIANS_TO_DEGREES", type := .double, accessFlags := 26, slot := 4, constantValue := 0 }, { name := "negativeZeroFloatBits", type := .long, accessFlags := 26, slot := 5, constantValue := 0 }, { name := "negativeZeroDoubleBits", type := .long, accessFlags := 26, slot := 6, constantValue := 0 }, { name := "twoToTheDoubleScaleUp", type := .double, accessFlags := 8, slot := 7, constantValue := 0 }, { name := "twoToTheDoubleScaleDown", type := .double, accessFlags := 8, slot := 8, constantValue := 0 }, { name := "$assertionsDisabled", type := .boolean, accessFlags := 4120, slot := 9, constantValue := 0 }]
  methods := #[k7m0, k7m1]
  instanceTypes := #[]
  staticTypes := #[.double, .double, .double, .double, .double, .long, .long, .double, .double, .boolean]
  resolved := Array.replicate 460 none
  statics := none }

def pool8 : Array CpInfo := pool [(1, u "java/lang/Cloneable"), (0, .class_ 1), (0, u "java/lang/Object"), (0, .class_ 3)] 3

/-- java/lang/Cloneable -/
def k8 : Class := { plain "java/lang/Cloneable" (some 0) with
  accessFlags := 1537
  interfaces := #[]
  cf := some (fileOf pool8 2 #[] #[] 1537 4 #[] #[])
  fields := #[]
  methods := #[]
  instanceTypes := #[]
  staticTypes := #[]
  resolved := Array.replicate 8 none
  statics := none }

/-- the primitive byte -/
def k9 : Class := { plain "byte" none with kind := .primitive 'B', accessFlags := 0x411 }
/-- [B -/
def k10 : Class := { plain "[B" (some 0) with kind := .array 9 .byte, interfaces := #[8, 4], accessFlags := 1041 }

/-- the primitive int -/
def k11 : Class := { plain "int" none with kind := .primitive 'I', accessFlags := 0x411 }
/-- [I -/
def k12 : Class := { plain "[I" (some 0) with kind := .array 11 .int, interfaces := #[8, 4], accessFlags := 1041 }

def heap : Heap := #[{ cls := 6, slots := #[.ref 1, .ref 2, .null], vm := .statics 6 },
  { cls := 6, slots := #[.null, .int 0, .int 0], vm := .none },
  { cls := 6, slots := #[.null, .int 1, .int 0], vm := .none }]
def classes : Array Class := #[k0, k1, k2, k3, k4, k5, k6, k7, k8, k9, k10, k11, k12]
def interned : List (Array UInt16 × Addr) := []
def slotsUsed : Nat := 9
def theMethod : MethodId := ⟨1, 1⟩
def args0 : Array Value := #[.int 3, .int 4, .int 5]
def aboutOver (below : List Frame) : State where
  vm := { classes := classes, interned := interned.toArray }
  heap := heap
  slotsUsed := slotsUsed
  threads := #[{ frames := .invoking theMethod args0 :: below }]
def below0 : List Frame := [.native { method := ⟨0, 0⟩, args := #[] }]
def about1 : State := aboutOver below0
def p0 : Program := .bare "" "" ""
def e0 : Env := launch0.env 0 0 0
theorem w_frames : about1.frames = Frame.invoking theMethod args0 :: below0 := rfl
set_option maxRecDepth 65536 in
theorem w_args : argsFit about1.vm theMethod args0 = true := by decide +kernel
set_option maxRecDepth 65536 in
theorem w_heap : heapFits about1 = true := by decide +kernel
set_option maxRecDepth 65536 in
theorem w_runnable : about1.curStatus? = some .runnable := by decide +kernel
set_option maxRecDepth 65536 in
theorem w_alone : about1.alone = true := by decide +kernel
set_option maxRecDepth 65536 in
theorem w_named : about1.methodNamed? x = some theMethod := by decide +kernel
set_option maxRecDepth 65536 in
theorem w_hears : about1.hears theMethod below0 = true := by decide +kernel
set_option maxRecDepth 65536 in
theorem w_ripe : about1.ripe theMethod args0 below0 = true := by decide +kernel
theorem w_running : about1.status = .running := rfl
set_option maxRecDepth 65536 in
theorem w_room : about1.hasRoom e0.platform room_1 = true :=
  launch0.hasRoom_least _ room_1 (by decide +kernel) (by decide +kernel) (by decide +kernel) (by decide +kernel) (by decide +kernel) (by decide +kernel)
theorem allAtoms_all (ts : List Jvm.Cond) (a : Array Jvm.Value) (st : Jvm.State) : (allAtoms ts).before a st = ts.all (fun c => c.before a st) := by
  induction ts with
  | nil => rfl
  | cons c t ih =>
    show (Jvm.Cond.and c (allAtoms t)).before a st = _
    rw [Jvm.Cond.before_and, ih, List.all_cons]
def words1 : List Jvm.Cond := Jvm.Cond.code x code maxLocals ret :: tables_1
/-- a 'code' word, met by the world's own term for the bytes: nothing is compared byte by byte -/
theorem code_word {y : MethodName} {bytes : ByteArray} {mx : Nat} {rt : Option FieldType} {a : Array Value} {s : State} {m : MethodId} {meth : Method} {c : Code} (h1 : s.methodNamed? y = some m) (h2 : s.vm.method? m = some meth) (h3 : meth.code = some c) (h4 : c.code = bytes)
    (h5 : (c.maxLocals == mx && c.exceptionTable.isEmpty && decide (c.maxStack ≤ mostOperands) && decide (meth.sig.returnType = rt) && !meth.locks && decide (parseMethodDescriptor y.desc = some meth.sig)) = true) : (Jvm.Cond.code y bytes mx rt).before a s = true := by
  simp only [Bool.and_eq_true, beq_iff_eq, Bool.not_eq_true', decide_eq_true_eq] at h5
  obtain ⟨⟨⟨⟨⟨g1, g2⟩, g3⟩, g4⟩, g5⟩, g6⟩ := h5
  simp [Cond.before, Cond.holds, Cond.value, h1, h2, h3, h4, g1, g2, g3, g4, g5, g6]
def isCode : Jvm.Cond → Bool
  | .code _ _ _ _ => true
  | _ => false
theorem all_split {L : List Jvm.Cond} {P : Jvm.Cond → Bool} (h1 : L.all (fun c => isCode c || P c) = true) (h2 : ∀ c ∈ L.filter isCode, P c = true) : L.all P = true := by
  refine List.all_eq_true.mpr fun c hc => ?_
  have h := List.all_eq_true.mp h1 c hc
  rcases Bool.eq_false_or_eq_true (isCode c) with hi | hi
  · exact h2 c (List.mem_filter.mpr ⟨hc, hi⟩)
  · simpa [hi] using h
set_option maxRecDepth 65536 in
theorem w_c0 : (Jvm.Cond.code x code maxLocals ret).before args0 about1 = true := code_word (m := ⟨1, 1⟩) (meth := k1m1) (c := k1c1) (by decide +kernel) rfl rfl rfl (by decide +kernel)
set_option maxRecDepth 65536 in
theorem w_c1 : (Jvm.Cond.code ({ cls := "com/example/honeyguide/honeyguide/Aggregate", name := "join", desc := "(DD)D" } : Jvm.MethodName) prog_1_method_5_code (5 : Nat) (Option.some Jvm.ClassFile.FieldType.double)).before args0 about1 = true := code_word (m := ⟨6, 0⟩) (meth := k6m0) (c := k6c0) (by decide +kernel) rfl rfl rfl (by decide +kernel)
set_option maxRecDepth 65536 in
theorem w_c2 : (Jvm.Cond.code ({ cls := "java/lang/Enum", name := "ordinal", desc := "()I" } : Jvm.MethodName) jdk_37_method_2_code (1 : Nat) (Option.some Jvm.ClassFile.FieldType.int)).before args0 about1 = true := code_word (m := ⟨5, 0⟩) (meth := k5m0) (c := k5c0) (by decide +kernel) rfl rfl rfl (by decide +kernel)
set_option maxRecDepth 65536 in
theorem w_c3 : (Jvm.Cond.code ({ cls := "java/lang/Math", name := "max", desc := "(DD)D" } : Jvm.MethodName) jdk_29_method_68_code (4 : Nat) (Option.some Jvm.ClassFile.FieldType.double)).before args0 about1 = true := code_word (m := ⟨7, 1⟩) (meth := k7m1) (c := k7c1) (by decide +kernel) rfl rfl rfl (by decide +kernel)
def codes1 : List Jvm.Cond := [Jvm.Cond.code x code maxLocals ret, Jvm.Cond.code ({ cls := "com/example/honeyguide/honeyguide/Aggregate", name := "join", desc := "(DD)D" } : Jvm.MethodName) prog_1_method_5_code (5 : Nat) (Option.some Jvm.ClassFile.FieldType.double), Jvm.Cond.code ({ cls := "java/lang/Enum", name := "ordinal", desc := "()I" } : Jvm.MethodName) jdk_37_method_2_code (1 : Nat) (Option.some Jvm.ClassFile.FieldType.int), Jvm.Cond.code ({ cls := "java/lang/Math", name := "max", desc := "(DD)D" } : Jvm.MethodName) jdk_29_method_68_code (4 : Nat) (Option.some Jvm.ClassFile.FieldType.double)]
set_option maxRecDepth 65536 in
theorem codes_eq : words1.filter isCode = codes1 := rfl
theorem w_codes : ∀ c ∈ words1.filter isCode, c.before args0 about1 = true := by
  rw [codes_eq]
  intro c hc
  simp only [codes1, List.mem_cons, List.not_mem_nil, or_false] at hc
  rcases hc with rfl | rfl | rfl | rfl
  · exact w_c0
  · exact w_c1
  · exact w_c2
  · exact w_c3
set_option maxRecDepth 65536 in
theorem w_t1 : (words1.take 24).all (fun c => isCode c || c.before args0 about1) = true := by decide +kernel
set_option maxRecDepth 65536 in
theorem w_t2 : (words1.drop 24).all (fun c => isCode c || c.before args0 about1) = true := by decide +kernel
theorem w_tables : (allAtoms (Jvm.Cond.code x code maxLocals ret :: tables_1)).before args0 about1 = true := by
  rw [allAtoms_all]
  show words1.all (fun c => c.before args0 about1) = true
  refine all_split ?_ w_codes
  rw [← List.take_append_drop 24 words1, List.all_append, w_t1, w_t2]
  rfl
set_option maxRecDepth 65536 in
theorem w_case : (Jvm.Cond.and given_1 narrow_1).before args0 about1 = true := by decide +kernel
theorem w_applies : (headSpec (Jvm.Cond.code x code maxLocals ret :: tables_1) room_1).applies x e0.platform about1 = true :=
  (Spec.applies_iff w_frames).mpr ⟨w_running, w_runnable, w_alone, w_named, w_hears, w_ripe, w_room, w_tables⟩
theorem atStart : AtStart classFile x code maxLocals ret World_1 tables_1 room_1 Calls_1 rest_1 Pre_1 launch0 p0 e0 about1 theMethod args0 below0 :=
  ⟨lists_1, trivial, launch0.admits_env _ _ _, launch0.least_env, fairChoices_fair.cas, fairChoices_fair.clock, w_frames, w_args, w_heap, w_applies, trivial, trivial, w_case⟩
end start1
theorem witness_1 : WitnessClaimed_1 := ⟨start1.p0, start1.e0, start1.about1, start1.theMethod, start1.args0, start1.below0, start1.atStart⟩
end Jvm.Pilot.@@N@@
