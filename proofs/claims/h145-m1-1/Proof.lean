import JvmDerived
import JvmDerived.Pilot.@@N@@Statement
import JvmDerived.Pilot.@@N@@Code
set_option linter.unusedVariables false
set_option linter.unusedSimpArgs false
namespace Jvm.RoadKit
open Sem ClassFile Op Lib Jvm.Stand Jvm.Free Jvm.LawKit
section New
variable {p : Program} {l : Launch} {e : Env} {R : Room} {s : State} {m : MethodId} {args : Array Value} {below : List Frame} {meth : Method} {c : Code} {T : State} {locs : List Loc} {cells slots : Nat}
theorem retI (X : Stand p l e R s m args below meth c T locs cells slots) (hx : p.tables.exec = Jvm.exec) {pc : Nat} {Ls : Array Slot} {z : Int32} {rest : List Value} (hret : meth.sig.returnType = some .int) (hd : decode c.code pc = .ok (.ireturn, 1)) {fs : List Frame}
    (hl : ∀ (f : JFrame) (acts : List Action), f.method = m → f.locked = none → f.entered = [] → (doReturn e (T.setTop f) acts (some (.int z))).1 = T.setFrames fs) : Steps p.tables e below (T.setTop (mkF m pc Ls (.int z :: rest))) (T.setFrames fs) := by
  have hm' : T.vm.method? m = some meth := X.method'
  have hn : narrow .int (.int z) = .int z := rfl
  show Steps p.tables e below (T.setTop { method := m, pc := pc, locals := Ls, stack := _ :: rest, locked := none }) _
  jvm_step X.here [X.here.top, hx, hd, hm', hret, hn]
  first | (intro acts; rw [hl _ acts rfl rfl rfl]) | rw [hl _ _ rfl rfl rfl]
  exact Steps.refl _
theorem retD (X : Stand p l e R s m args below meth c T locs cells slots) (hx : p.tables.exec = Jvm.exec) {pc : Nat} {Ls : Array Slot} {z : UInt64} {rest : List Value} (hret : meth.sig.returnType = some .double) (hd : decode c.code pc = .ok (.dreturn, 1)) {fs : List Frame}
    (hl : ∀ (f : JFrame) (acts : List Action), f.method = m → f.locked = none → f.entered = [] → (doReturn e (T.setTop f) acts (some (.double z))).1 = T.setFrames fs) : Steps p.tables e below (T.setTop (mkF m pc Ls (.double z :: rest))) (T.setFrames fs) := by
  have hm' : T.vm.method? m = some meth := X.method'
  show Steps p.tables e below (T.setTop { method := m, pc := pc, locals := Ls, stack := _ :: rest, locked := none }) _
  jvm_step X.here [X.here.top, hx, hd, hm', hret]
  first | (intro acts; rw [hl _ acts rfl rfl rfl]) | rw [hl _ _ rfl rfl rfl]
  exact Steps.refl _
end New
end Jvm.RoadKit
namespace Jvm.Pilot.@@N@@
open Jvm
section OwnSteps
open Jvm Jvm.ClassFile Sem Op Lib Jvm.Free Jvm.Stand
open Jvm.RoadKit (lcmpW)
theorem own_f_iload {tb : Tables} [Ours tb] {e : Env} {below : List Frame} {T target : State} {m : MethodId} {c : Code} {Ls : Array Slot} {S : List Value} {pc pc' : Nat} {k : Nat} {v : Int32} (h : At T m c below) (hx : tb.exec = Jvm.exec) (hd : decode c.code pc = .ok (.iload k, 2)) (hl : Ls[k]? = some (.val (.int v))) (hp : pc + 2 = pc') (hr : Steps tb e below (T.setTop (mkF m pc' Ls (.int v :: S))) target) : Steps tb e below (T.setTop (mkF m pc Ls (S))) target := by subst hp; exact XS.iload h hx rfl hd hl hr
theorem own_f_iloadN {tb : Tables} [Ours tb] {e : Env} {below : List Frame} {T target : State} {m : MethodId} {c : Code} {Ls : Array Slot} {S : List Value} {pc pc' : Nat} {k : Fin 4} {v : Int32} (h : At T m c below) (hx : tb.exec = Jvm.exec) (hd : decode c.code pc = .ok (.iload_n k, 1)) (hl : Ls[k.val]? = some (.val (.int v))) (hp : pc + 1 = pc') (hr : Steps tb e below (T.setTop (mkF m pc' Ls (.int v :: S))) target) : Steps tb e below (T.setTop (mkF m pc Ls (S))) target := by subst hp; exact XS.iloadN h hx rfl hd hl hr
theorem own_f_istore {tb : Tables} [Ours tb] {e : Env} {below : List Frame} {T target : State} {m : MethodId} {c : Code} {Ls : Array Slot} {S : List Value} {pc pc' : Nat} {k : Nat} {v : Int32} {Ls' : Array Slot} (h : At T m c below) (hx : tb.exec = Jvm.exec) (hd : decode c.code pc = .ok (.istore k, 2)) (hl : storeLocals Ls k (.int v) = some Ls') (hp : pc + 2 = pc') (hr : Steps tb e below (T.setTop (mkF m pc' Ls' (S))) target) : Steps tb e below (T.setTop (mkF m pc Ls (.int v :: S))) target := by subst hp; exact XS.istore h hx rfl hd rfl hl hr
theorem own_f_istoreN {tb : Tables} [Ours tb] {e : Env} {below : List Frame} {T target : State} {m : MethodId} {c : Code} {Ls : Array Slot} {S : List Value} {pc pc' : Nat} {k : Fin 4} {v : Int32} {Ls' : Array Slot} (h : At T m c below) (hx : tb.exec = Jvm.exec) (hd : decode c.code pc = .ok (.istore_n k, 1)) (hl : storeLocals Ls k.val (.int v) = some Ls') (hp : pc + 1 = pc') (hr : Steps tb e below (T.setTop (mkF m pc' Ls' (S))) target) : Steps tb e below (T.setTop (mkF m pc Ls (.int v :: S))) target := by subst hp; exact XS.istoreN h hx rfl hd rfl hl hr
theorem own_f_lload {tb : Tables} [Ours tb] {e : Env} {below : List Frame} {T target : State} {m : MethodId} {c : Code} {Ls : Array Slot} {S : List Value} {pc pc' : Nat} {k : Nat} {v : Int64} (h : At T m c below) (hx : tb.exec = Jvm.exec) (hd : decode c.code pc = .ok (.lload k, 2)) (hl : Ls[k]? = some (.val (.long v))) (hp : pc + 2 = pc') (hr : Steps tb e below (T.setTop (mkF m pc' Ls (.long v :: S))) target) : Steps tb e below (T.setTop (mkF m pc Ls (S))) target := by subst hp; exact XS.lload h hx rfl hd hl hr
theorem own_f_lloadN {tb : Tables} [Ours tb] {e : Env} {below : List Frame} {T target : State} {m : MethodId} {c : Code} {Ls : Array Slot} {S : List Value} {pc pc' : Nat} {k : Fin 4} {v : Int64} (h : At T m c below) (hx : tb.exec = Jvm.exec) (hd : decode c.code pc = .ok (.lload_n k, 1)) (hl : Ls[k.val]? = some (.val (.long v))) (hp : pc + 1 = pc') (hr : Steps tb e below (T.setTop (mkF m pc' Ls (.long v :: S))) target) : Steps tb e below (T.setTop (mkF m pc Ls (S))) target := by subst hp; exact XS.lloadN h hx rfl hd hl hr
theorem own_f_lstore {tb : Tables} [Ours tb] {e : Env} {below : List Frame} {T target : State} {m : MethodId} {c : Code} {Ls : Array Slot} {S : List Value} {pc pc' : Nat} {k : Nat} {v : Int64} {Ls' : Array Slot} (h : At T m c below) (hx : tb.exec = Jvm.exec) (hd : decode c.code pc = .ok (.lstore k, 2)) (hl : storeLocals Ls k (.long v) = some Ls') (hp : pc + 2 = pc') (hr : Steps tb e below (T.setTop (mkF m pc' Ls' (S))) target) : Steps tb e below (T.setTop (mkF m pc Ls (.long v :: S))) target := by subst hp; exact XS.lstore h hx rfl hd rfl hl hr
theorem own_f_lstoreN {tb : Tables} [Ours tb] {e : Env} {below : List Frame} {T target : State} {m : MethodId} {c : Code} {Ls : Array Slot} {S : List Value} {pc pc' : Nat} {k : Fin 4} {v : Int64} {Ls' : Array Slot} (h : At T m c below) (hx : tb.exec = Jvm.exec) (hd : decode c.code pc = .ok (.lstore_n k, 1)) (hl : storeLocals Ls k.val (.long v) = some Ls') (hp : pc + 1 = pc') (hr : Steps tb e below (T.setTop (mkF m pc' Ls' (S))) target) : Steps tb e below (T.setTop (mkF m pc Ls (.long v :: S))) target := by subst hp; exact XS.lstoreN h hx rfl hd rfl hl hr
theorem own_f_dload {tb : Tables} [Ours tb] {e : Env} {below : List Frame} {T target : State} {m : MethodId} {c : Code} {Ls : Array Slot} {S : List Value} {pc pc' : Nat} {k : Nat} {v : UInt64} (h : At T m c below) (hx : tb.exec = Jvm.exec) (hd : decode c.code pc = .ok (.dload k, 2)) (hl : Ls[k]? = some (.val (.double v))) (hp : pc + 2 = pc') (hr : Steps tb e below (T.setTop (mkF m pc' Ls (.double v :: S))) target) : Steps tb e below (T.setTop (mkF m pc Ls (S))) target := by subst hp; exact XS.dload h hx rfl hd hl hr
theorem own_f_dloadN {tb : Tables} [Ours tb] {e : Env} {below : List Frame} {T target : State} {m : MethodId} {c : Code} {Ls : Array Slot} {S : List Value} {pc pc' : Nat} {k : Fin 4} {v : UInt64} (h : At T m c below) (hx : tb.exec = Jvm.exec) (hd : decode c.code pc = .ok (.dload_n k, 1)) (hl : Ls[k.val]? = some (.val (.double v))) (hp : pc + 1 = pc') (hr : Steps tb e below (T.setTop (mkF m pc' Ls (.double v :: S))) target) : Steps tb e below (T.setTop (mkF m pc Ls (S))) target := by subst hp; exact XS.dloadN h hx rfl hd hl hr
theorem own_f_dstore {tb : Tables} [Ours tb] {e : Env} {below : List Frame} {T target : State} {m : MethodId} {c : Code} {Ls : Array Slot} {S : List Value} {pc pc' : Nat} {k : Nat} {v : UInt64} {Ls' : Array Slot} (h : At T m c below) (hx : tb.exec = Jvm.exec) (hd : decode c.code pc = .ok (.dstore k, 2)) (hl : storeLocals Ls k (.double v) = some Ls') (hp : pc + 2 = pc') (hr : Steps tb e below (T.setTop (mkF m pc' Ls' (S))) target) : Steps tb e below (T.setTop (mkF m pc Ls (.double v :: S))) target := by subst hp; exact XS.dstore h hx rfl hd rfl hl hr
theorem own_f_dstoreN {tb : Tables} [Ours tb] {e : Env} {below : List Frame} {T target : State} {m : MethodId} {c : Code} {Ls : Array Slot} {S : List Value} {pc pc' : Nat} {k : Fin 4} {v : UInt64} {Ls' : Array Slot} (h : At T m c below) (hx : tb.exec = Jvm.exec) (hd : decode c.code pc = .ok (.dstore_n k, 1)) (hl : storeLocals Ls k.val (.double v) = some Ls') (hp : pc + 1 = pc') (hr : Steps tb e below (T.setTop (mkF m pc' Ls' (S))) target) : Steps tb e below (T.setTop (mkF m pc Ls (.double v :: S))) target := by subst hp; exact XS.dstoreN h hx rfl hd rfl hl hr
theorem own_f_aload {tb : Tables} [Ours tb] {e : Env} {below : List Frame} {T target : State} {m : MethodId} {c : Code} {Ls : Array Slot} {S : List Value} {pc pc' : Nat} {k : Nat} {v : Value} (h : At T m c below) (hx : tb.exec = Jvm.exec) (hd : decode c.code pc = .ok (.aload k, 2)) (hl : Ls[k]? = some (.val v)) (hv : v.isRef = true) (hp : pc + 2 = pc') (hr : Steps tb e below (T.setTop (mkF m pc' Ls (v :: S))) target) : Steps tb e below (T.setTop (mkF m pc Ls (S))) target := by subst hp; exact XS.aload h hx rfl hd hl hv hr
theorem own_f_aloadN {tb : Tables} [Ours tb] {e : Env} {below : List Frame} {T target : State} {m : MethodId} {c : Code} {Ls : Array Slot} {S : List Value} {pc pc' : Nat} {k : Fin 4} {v : Value} (h : At T m c below) (hx : tb.exec = Jvm.exec) (hd : decode c.code pc = .ok (.aload_n k, 1)) (hl : Ls[k.val]? = some (.val v)) (hv : v.isRef = true) (hp : pc + 1 = pc') (hr : Steps tb e below (T.setTop (mkF m pc' Ls (v :: S))) target) : Steps tb e below (T.setTop (mkF m pc Ls (S))) target := by subst hp; exact XS.aloadN h hx rfl hd hl hv hr
theorem own_f_astore {tb : Tables} [Ours tb] {e : Env} {below : List Frame} {T target : State} {m : MethodId} {c : Code} {Ls : Array Slot} {S : List Value} {pc pc' : Nat} {k : Nat} {v : Value} {Ls' : Array Slot} (h : At T m c below) (hx : tb.exec = Jvm.exec) (hd : decode c.code pc = .ok (.astore k, 2)) (hv : v.isRef = true) (hl : storeLocals Ls k v = some Ls') (hp : pc + 2 = pc') (hr : Steps tb e below (T.setTop (mkF m pc' Ls' (S))) target) : Steps tb e below (T.setTop (mkF m pc Ls (v :: S))) target := by subst hp; exact XS.astore h hx rfl hd rfl hv hl hr
theorem own_f_astoreN {tb : Tables} [Ours tb] {e : Env} {below : List Frame} {T target : State} {m : MethodId} {c : Code} {Ls : Array Slot} {S : List Value} {pc pc' : Nat} {k : Fin 4} {v : Value} {Ls' : Array Slot} (h : At T m c below) (hx : tb.exec = Jvm.exec) (hd : decode c.code pc = .ok (.astore_n k, 1)) (hv : v.isRef = true) (hl : storeLocals Ls k.val v = some Ls') (hp : pc + 1 = pc') (hr : Steps tb e below (T.setTop (mkF m pc' Ls' (S))) target) : Steps tb e below (T.setTop (mkF m pc Ls (v :: S))) target := by subst hp; exact XS.astoreN h hx rfl hd rfl hv hl hr
theorem own_f_iconst {tb : Tables} [Ours tb] {e : Env} {below : List Frame} {T target : State} {m : MethodId} {c : Code} {Ls : Array Slot} {S : List Value} {pc pc' : Nat} {i : Int} {v : Int32} (h : At T m c below) (hx : tb.exec = Jvm.exec) (hd : decode c.code pc = .ok (.iconst i, 1)) (hv : Int32.ofInt i = v) (hp : pc + 1 = pc') (hr : Steps tb e below (T.setTop (mkF m pc' Ls (.int v :: S))) target) : Steps tb e below (T.setTop (mkF m pc Ls (S))) target := by subst hp; exact XS.iconst h hx rfl hd (hv ▸ hr)
theorem own_f_bipush {tb : Tables} [Ours tb] {e : Env} {below : List Frame} {T target : State} {m : MethodId} {c : Code} {Ls : Array Slot} {S : List Value} {pc pc' : Nat} {i : Int} {v : Int32} (h : At T m c below) (hx : tb.exec = Jvm.exec) (hd : decode c.code pc = .ok (.bipush i, 2)) (hv : (Int8.ofInt i).toInt32 = v) (hp : pc + 2 = pc') (hr : Steps tb e below (T.setTop (mkF m pc' Ls (.int v :: S))) target) : Steps tb e below (T.setTop (mkF m pc Ls (S))) target := by subst hp; exact XS.bipush h hx rfl hd (hv ▸ hr)
theorem own_f_sipush {tb : Tables} [Ours tb] {e : Env} {below : List Frame} {T target : State} {m : MethodId} {c : Code} {Ls : Array Slot} {S : List Value} {pc pc' : Nat} {i : Int} {v : Int32} (h : At T m c below) (hx : tb.exec = Jvm.exec) (hd : decode c.code pc = .ok (.sipush i, 3)) (hv : (Int16.ofInt i).toInt32 = v) (hp : pc + 3 = pc') (hr : Steps tb e below (T.setTop (mkF m pc' Ls (.int v :: S))) target) : Steps tb e below (T.setTop (mkF m pc Ls (S))) target := by subst hp; exact XS.sipush h hx rfl hd (hv ▸ hr)
theorem own_f_lconst {tb : Tables} [Ours tb] {e : Env} {below : List Frame} {T target : State} {m : MethodId} {c : Code} {Ls : Array Slot} {S : List Value} {pc pc' : Nat} {k : Fin 2} {v : Int64} (h : At T m c below) (hx : tb.exec = Jvm.exec) (hd : decode c.code pc = .ok (.lconst k, 1)) (hv : Int64.ofNat k = v) (hp : pc + 1 = pc') (hr : Steps tb e below (T.setTop (mkF m pc' Ls (.long v :: S))) target) : Steps tb e below (T.setTop (mkF m pc Ls (S))) target := by subst hp; exact XS.lconst h hx rfl hd (hv ▸ hr)
theorem own_f_dconst0 {tb : Tables} [Ours tb] {e : Env} {below : List Frame} {T target : State} {m : MethodId} {c : Code} {Ls : Array Slot} {S : List Value} {pc pc' : Nat} {v : UInt64} (h : At T m c below) (hx : tb.exec = Jvm.exec) (hd : decode c.code pc = .ok (.dconst 0, 1)) (hv : FP.dconst0 = v) (hp : pc + 1 = pc') (hr : Steps tb e below (T.setTop (mkF m pc' Ls (.double v :: S))) target) : Steps tb e below (T.setTop (mkF m pc Ls (S))) target := by subst hp; exact XS.dconst0 h hx rfl hd hv hr
theorem own_f_dconst1 {tb : Tables} [Ours tb] {e : Env} {below : List Frame} {T target : State} {m : MethodId} {c : Code} {Ls : Array Slot} {S : List Value} {pc pc' : Nat} {v : UInt64} (h : At T m c below) (hx : tb.exec = Jvm.exec) (hd : decode c.code pc = .ok (.dconst 1, 1)) (hv : FP.dconst1 = v) (hp : pc + 1 = pc') (hr : Steps tb e below (T.setTop (mkF m pc' Ls (.double v :: S))) target) : Steps tb e below (T.setTop (mkF m pc Ls (S))) target := by subst hp; exact XS.dconst1 h hx rfl hd hv hr
theorem own_f_aconstNull {tb : Tables} [Ours tb] {e : Env} {below : List Frame} {T target : State} {m : MethodId} {c : Code} {Ls : Array Slot} {S : List Value} {pc pc' : Nat}  (h : At T m c below) (hx : tb.exec = Jvm.exec) (hd : decode c.code pc = .ok (.aconst_null, 1)) (hp : pc + 1 = pc') (hr : Steps tb e below (T.setTop (mkF m pc' Ls (.null :: S))) target) : Steps tb e below (T.setTop (mkF m pc Ls (S))) target := by subst hp; exact XS.aconstNull h hx rfl hd hr
theorem own_f_iadd {tb : Tables} [Ours tb] {e : Env} {below : List Frame} {T target : State} {m : MethodId} {c : Code} {Ls : Array Slot} {S : List Value} {pc pc' : Nat} {x y v : Int32} (h : At T m c below) (hx : tb.exec = Jvm.exec) (hd : decode c.code pc = .ok (.iadd, 1)) (hv : x + y = v) (hp : pc + 1 = pc') (hr : Steps tb e below (T.setTop (mkF m pc' Ls (.int v :: S))) target) : Steps tb e below (T.setTop (mkF m pc Ls (.int y :: .int x :: S))) target := by subst hp; exact XS.iadd h hx rfl hd rfl (hv ▸ hr)
theorem own_f_ladd {tb : Tables} [Ours tb] {e : Env} {below : List Frame} {T target : State} {m : MethodId} {c : Code} {Ls : Array Slot} {S : List Value} {pc pc' : Nat} {x y v : Int64} (h : At T m c below) (hx : tb.exec = Jvm.exec) (hd : decode c.code pc = .ok (.ladd, 1)) (hv : x + y = v) (hp : pc + 1 = pc') (hr : Steps tb e below (T.setTop (mkF m pc' Ls (.long v :: S))) target) : Steps tb e below (T.setTop (mkF m pc Ls (.long y :: .long x :: S))) target := by subst hp; exact XS.ladd h hx rfl hd rfl (hv ▸ hr)
theorem own_f_isub {tb : Tables} [Ours tb] {e : Env} {below : List Frame} {T target : State} {m : MethodId} {c : Code} {Ls : Array Slot} {S : List Value} {pc pc' : Nat} {x y v : Int32} (h : At T m c below) (hx : tb.exec = Jvm.exec) (hd : decode c.code pc = .ok (.isub, 1)) (hv : x - y = v) (hp : pc + 1 = pc') (hr : Steps tb e below (T.setTop (mkF m pc' Ls (.int v :: S))) target) : Steps tb e below (T.setTop (mkF m pc Ls (.int y :: .int x :: S))) target := by subst hp; exact XS.isub h hx rfl hd rfl (hv ▸ hr)
theorem own_f_lsub {tb : Tables} [Ours tb] {e : Env} {below : List Frame} {T target : State} {m : MethodId} {c : Code} {Ls : Array Slot} {S : List Value} {pc pc' : Nat} {x y v : Int64} (h : At T m c below) (hx : tb.exec = Jvm.exec) (hd : decode c.code pc = .ok (.lsub, 1)) (hv : x - y = v) (hp : pc + 1 = pc') (hr : Steps tb e below (T.setTop (mkF m pc' Ls (.long v :: S))) target) : Steps tb e below (T.setTop (mkF m pc Ls (.long y :: .long x :: S))) target := by subst hp; exact XS.lsub h hx rfl hd rfl (hv ▸ hr)
theorem own_f_imul {tb : Tables} [Ours tb] {e : Env} {below : List Frame} {T target : State} {m : MethodId} {c : Code} {Ls : Array Slot} {S : List Value} {pc pc' : Nat} {x y v : Int32} (h : At T m c below) (hx : tb.exec = Jvm.exec) (hd : decode c.code pc = .ok (.imul, 1)) (hv : x * y = v) (hp : pc + 1 = pc') (hr : Steps tb e below (T.setTop (mkF m pc' Ls (.int v :: S))) target) : Steps tb e below (T.setTop (mkF m pc Ls (.int y :: .int x :: S))) target := by subst hp; exact XS.imul h hx rfl hd rfl (hv ▸ hr)
theorem own_f_lmul {tb : Tables} [Ours tb] {e : Env} {below : List Frame} {T target : State} {m : MethodId} {c : Code} {Ls : Array Slot} {S : List Value} {pc pc' : Nat} {x y v : Int64} (h : At T m c below) (hx : tb.exec = Jvm.exec) (hd : decode c.code pc = .ok (.lmul, 1)) (hv : x * y = v) (hp : pc + 1 = pc') (hr : Steps tb e below (T.setTop (mkF m pc' Ls (.long v :: S))) target) : Steps tb e below (T.setTop (mkF m pc Ls (.long y :: .long x :: S))) target := by subst hp; exact XS.lmul h hx rfl hd rfl (hv ▸ hr)
theorem own_f_iand {tb : Tables} [Ours tb] {e : Env} {below : List Frame} {T target : State} {m : MethodId} {c : Code} {Ls : Array Slot} {S : List Value} {pc pc' : Nat} {x y v : Int32} (h : At T m c below) (hx : tb.exec = Jvm.exec) (hd : decode c.code pc = .ok (.iand, 1)) (hv : x &&& y = v) (hp : pc + 1 = pc') (hr : Steps tb e below (T.setTop (mkF m pc' Ls (.int v :: S))) target) : Steps tb e below (T.setTop (mkF m pc Ls (.int y :: .int x :: S))) target := by subst hp; exact XS.iand h hx rfl hd rfl (hv ▸ hr)
theorem own_f_land {tb : Tables} [Ours tb] {e : Env} {below : List Frame} {T target : State} {m : MethodId} {c : Code} {Ls : Array Slot} {S : List Value} {pc pc' : Nat} {x y v : Int64} (h : At T m c below) (hx : tb.exec = Jvm.exec) (hd : decode c.code pc = .ok (.land, 1)) (hv : x &&& y = v) (hp : pc + 1 = pc') (hr : Steps tb e below (T.setTop (mkF m pc' Ls (.long v :: S))) target) : Steps tb e below (T.setTop (mkF m pc Ls (.long y :: .long x :: S))) target := by subst hp; exact XS.land h hx rfl hd rfl (hv ▸ hr)
theorem own_f_ior {tb : Tables} [Ours tb] {e : Env} {below : List Frame} {T target : State} {m : MethodId} {c : Code} {Ls : Array Slot} {S : List Value} {pc pc' : Nat} {x y v : Int32} (h : At T m c below) (hx : tb.exec = Jvm.exec) (hd : decode c.code pc = .ok (.ior, 1)) (hv : x ||| y = v) (hp : pc + 1 = pc') (hr : Steps tb e below (T.setTop (mkF m pc' Ls (.int v :: S))) target) : Steps tb e below (T.setTop (mkF m pc Ls (.int y :: .int x :: S))) target := by subst hp; exact XS.ior h hx rfl hd rfl (hv ▸ hr)
theorem own_f_lor {tb : Tables} [Ours tb] {e : Env} {below : List Frame} {T target : State} {m : MethodId} {c : Code} {Ls : Array Slot} {S : List Value} {pc pc' : Nat} {x y v : Int64} (h : At T m c below) (hx : tb.exec = Jvm.exec) (hd : decode c.code pc = .ok (.lor, 1)) (hv : x ||| y = v) (hp : pc + 1 = pc') (hr : Steps tb e below (T.setTop (mkF m pc' Ls (.long v :: S))) target) : Steps tb e below (T.setTop (mkF m pc Ls (.long y :: .long x :: S))) target := by subst hp; exact XS.lor h hx rfl hd rfl (hv ▸ hr)
theorem own_f_ixor {tb : Tables} [Ours tb] {e : Env} {below : List Frame} {T target : State} {m : MethodId} {c : Code} {Ls : Array Slot} {S : List Value} {pc pc' : Nat} {x y v : Int32} (h : At T m c below) (hx : tb.exec = Jvm.exec) (hd : decode c.code pc = .ok (.ixor, 1)) (hv : x ^^^ y = v) (hp : pc + 1 = pc') (hr : Steps tb e below (T.setTop (mkF m pc' Ls (.int v :: S))) target) : Steps tb e below (T.setTop (mkF m pc Ls (.int y :: .int x :: S))) target := by subst hp; exact XS.ixor h hx rfl hd rfl (hv ▸ hr)
theorem own_f_lxor {tb : Tables} [Ours tb] {e : Env} {below : List Frame} {T target : State} {m : MethodId} {c : Code} {Ls : Array Slot} {S : List Value} {pc pc' : Nat} {x y v : Int64} (h : At T m c below) (hx : tb.exec = Jvm.exec) (hd : decode c.code pc = .ok (.lxor, 1)) (hv : x ^^^ y = v) (hp : pc + 1 = pc') (hr : Steps tb e below (T.setTop (mkF m pc' Ls (.long v :: S))) target) : Steps tb e below (T.setTop (mkF m pc Ls (.long y :: .long x :: S))) target := by subst hp; exact XS.lxor h hx rfl hd rfl (hv ▸ hr)
theorem own_f_ishl {tb : Tables} [Ours tb] {e : Env} {below : List Frame} {T target : State} {m : MethodId} {c : Code} {Ls : Array Slot} {S : List Value} {pc pc' : Nat} {x : Int32} {y : Int32} (h : At T m c below) (hx : tb.exec = Jvm.exec) (hd : decode c.code pc = .ok (.ishl, 1)) (hp : pc + 1 = pc') (hr : Steps tb e below (T.setTop (mkF m pc' Ls (.int (x <<< (y &&& 31)) :: S))) target) : Steps tb e below (T.setTop (mkF m pc Ls (.int y :: .int x :: S))) target := by subst hp; exact XS.ishl h hx rfl hd rfl hr
theorem own_f_ishr {tb : Tables} [Ours tb] {e : Env} {below : List Frame} {T target : State} {m : MethodId} {c : Code} {Ls : Array Slot} {S : List Value} {pc pc' : Nat} {x : Int32} {y : Int32} (h : At T m c below) (hx : tb.exec = Jvm.exec) (hd : decode c.code pc = .ok (.ishr, 1)) (hp : pc + 1 = pc') (hr : Steps tb e below (T.setTop (mkF m pc' Ls (.int (x >>> (y &&& 31)) :: S))) target) : Steps tb e below (T.setTop (mkF m pc Ls (.int y :: .int x :: S))) target := by subst hp; exact XS.ishr h hx rfl hd rfl hr
theorem own_f_iushr {tb : Tables} [Ours tb] {e : Env} {below : List Frame} {T target : State} {m : MethodId} {c : Code} {Ls : Array Slot} {S : List Value} {pc pc' : Nat} {x : Int32} {y : Int32} (h : At T m c below) (hx : tb.exec = Jvm.exec) (hd : decode c.code pc = .ok (.iushr, 1)) (hp : pc + 1 = pc') (hr : Steps tb e below (T.setTop (mkF m pc' Ls (.int ((x.toUInt32 >>> (y &&& 31).toUInt32).toInt32) :: S))) target) : Steps tb e below (T.setTop (mkF m pc Ls (.int y :: .int x :: S))) target := by subst hp; exact XS.iushr h hx rfl hd rfl hr
theorem own_f_lshl {tb : Tables} [Ours tb] {e : Env} {below : List Frame} {T target : State} {m : MethodId} {c : Code} {Ls : Array Slot} {S : List Value} {pc pc' : Nat} {x : Int64} {y : Int32} (h : At T m c below) (hx : tb.exec = Jvm.exec) (hd : decode c.code pc = .ok (.lshl, 1)) (hp : pc + 1 = pc') (hr : Steps tb e below (T.setTop (mkF m pc' Ls (.long (x <<< (y &&& 0x3f).toInt64) :: S))) target) : Steps tb e below (T.setTop (mkF m pc Ls (.int y :: .long x :: S))) target := by subst hp; exact XS.lshl h hx rfl hd rfl hr
theorem own_f_lshr {tb : Tables} [Ours tb] {e : Env} {below : List Frame} {T target : State} {m : MethodId} {c : Code} {Ls : Array Slot} {S : List Value} {pc pc' : Nat} {x : Int64} {y : Int32} (h : At T m c below) (hx : tb.exec = Jvm.exec) (hd : decode c.code pc = .ok (.lshr, 1)) (hp : pc + 1 = pc') (hr : Steps tb e below (T.setTop (mkF m pc' Ls (.long (x >>> (y &&& 0x3f).toInt64) :: S))) target) : Steps tb e below (T.setTop (mkF m pc Ls (.int y :: .long x :: S))) target := by subst hp; exact XS.lshr h hx rfl hd rfl hr
theorem own_f_lushr {tb : Tables} [Ours tb] {e : Env} {below : List Frame} {T target : State} {m : MethodId} {c : Code} {Ls : Array Slot} {S : List Value} {pc pc' : Nat} {x : Int64} {y : Int32} (h : At T m c below) (hx : tb.exec = Jvm.exec) (hd : decode c.code pc = .ok (.lushr, 1)) (hp : pc + 1 = pc') (hr : Steps tb e below (T.setTop (mkF m pc' Ls (.long ((x.toUInt64 >>> (y &&& 0x3f).toInt64.toUInt64).toInt64) :: S))) target) : Steps tb e below (T.setTop (mkF m pc Ls (.int y :: .long x :: S))) target := by subst hp; exact XS.lushr h hx rfl hd rfl hr
theorem own_f_idiv {tb : Tables} [Ours tb] {e : Env} {below : List Frame} {T target : State} {m : MethodId} {c : Code} {Ls : Array Slot} {S : List Value} {pc pc' : Nat} {x y : Int32} (h : At T m c below) (hx : tb.exec = Jvm.exec) (hd : decode c.code pc = .ok (.idiv, 1)) (hy : y ≠ 0) (hp : pc + 1 = pc') (hr : Steps tb e below (T.setTop (mkF m pc' Ls (.int (x / y) :: S))) target) : Steps tb e below (T.setTop (mkF m pc Ls (.int y :: .int x :: S))) target := by subst hp; exact XS.idiv h hx rfl hd rfl hy hr
theorem own_f_irem {tb : Tables} [Ours tb] {e : Env} {below : List Frame} {T target : State} {m : MethodId} {c : Code} {Ls : Array Slot} {S : List Value} {pc pc' : Nat} {x y : Int32} (h : At T m c below) (hx : tb.exec = Jvm.exec) (hd : decode c.code pc = .ok (.irem, 1)) (hy : y ≠ 0) (hp : pc + 1 = pc') (hr : Steps tb e below (T.setTop (mkF m pc' Ls (.int (x - (x / y) * y) :: S))) target) : Steps tb e below (T.setTop (mkF m pc Ls (.int y :: .int x :: S))) target := by subst hp; exact XS.irem h hx rfl hd rfl hy hr
theorem own_f_ldiv {tb : Tables} [Ours tb] {e : Env} {below : List Frame} {T target : State} {m : MethodId} {c : Code} {Ls : Array Slot} {S : List Value} {pc pc' : Nat} {x y : Int64} (h : At T m c below) (hx : tb.exec = Jvm.exec) (hd : decode c.code pc = .ok (.ldiv, 1)) (hy : y ≠ 0) (hp : pc + 1 = pc') (hr : Steps tb e below (T.setTop (mkF m pc' Ls (.long (x / y) :: S))) target) : Steps tb e below (T.setTop (mkF m pc Ls (.long y :: .long x :: S))) target := by subst hp; exact XS.ldiv h hx rfl hd rfl hy hr
theorem own_f_lrem {tb : Tables} [Ours tb] {e : Env} {below : List Frame} {T target : State} {m : MethodId} {c : Code} {Ls : Array Slot} {S : List Value} {pc pc' : Nat} {x y : Int64} (h : At T m c below) (hx : tb.exec = Jvm.exec) (hd : decode c.code pc = .ok (.lrem, 1)) (hy : y ≠ 0) (hp : pc + 1 = pc') (hr : Steps tb e below (T.setTop (mkF m pc' Ls (.long (x - (x / y) * y) :: S))) target) : Steps tb e below (T.setTop (mkF m pc Ls (.long y :: .long x :: S))) target := by subst hp; exact XS.lrem h hx rfl hd rfl hy hr
theorem own_f_ineg {tb : Tables} [Ours tb] {e : Env} {below : List Frame} {T target : State} {m : MethodId} {c : Code} {Ls : Array Slot} {S : List Value} {pc pc' : Nat} {x : Int32} (h : At T m c below) (hx : tb.exec = Jvm.exec) (hd : decode c.code pc = .ok (.ineg, 1)) (hp : pc + 1 = pc') (hr : Steps tb e below (T.setTop (mkF m pc' Ls (.int (-x) :: S))) target) : Steps tb e below (T.setTop (mkF m pc Ls (.int x :: S))) target := by subst hp; exact XS.ineg h hx rfl hd rfl hr
theorem own_f_lneg {tb : Tables} [Ours tb] {e : Env} {below : List Frame} {T target : State} {m : MethodId} {c : Code} {Ls : Array Slot} {S : List Value} {pc pc' : Nat} {x : Int64} (h : At T m c below) (hx : tb.exec = Jvm.exec) (hd : decode c.code pc = .ok (.lneg, 1)) (hp : pc + 1 = pc') (hr : Steps tb e below (T.setTop (mkF m pc' Ls (.long (-x) :: S))) target) : Steps tb e below (T.setTop (mkF m pc Ls (.long x :: S))) target := by subst hp; exact XS.lneg h hx rfl hd rfl hr
theorem own_f_i2l {tb : Tables} [Ours tb] {e : Env} {below : List Frame} {T target : State} {m : MethodId} {c : Code} {Ls : Array Slot} {S : List Value} {pc pc' : Nat} {x : Int32} (h : At T m c below) (hx : tb.exec = Jvm.exec) (hd : decode c.code pc = .ok (.i2l, 1)) (hp : pc + 1 = pc') (hr : Steps tb e below (T.setTop (mkF m pc' Ls (.long (x.toInt64) :: S))) target) : Steps tb e below (T.setTop (mkF m pc Ls (.int x :: S))) target := by subst hp; exact XS.i2l h hx rfl hd rfl hr
theorem own_f_l2i {tb : Tables} [Ours tb] {e : Env} {below : List Frame} {T target : State} {m : MethodId} {c : Code} {Ls : Array Slot} {S : List Value} {pc pc' : Nat} {x : Int64} (h : At T m c below) (hx : tb.exec = Jvm.exec) (hd : decode c.code pc = .ok (.l2i, 1)) (hp : pc + 1 = pc') (hr : Steps tb e below (T.setTop (mkF m pc' Ls (.int (x.toInt32) :: S))) target) : Steps tb e below (T.setTop (mkF m pc Ls (.long x :: S))) target := by subst hp; exact XS.l2i h hx rfl hd rfl hr
theorem own_f_i2b {tb : Tables} [Ours tb] {e : Env} {below : List Frame} {T target : State} {m : MethodId} {c : Code} {Ls : Array Slot} {S : List Value} {pc pc' : Nat} {x : Int32} (h : At T m c below) (hx : tb.exec = Jvm.exec) (hd : decode c.code pc = .ok (.i2b, 1)) (hp : pc + 1 = pc') (hr : Steps tb e below (T.setTop (mkF m pc' Ls (.int (x.toInt8.toInt32) :: S))) target) : Steps tb e below (T.setTop (mkF m pc Ls (.int x :: S))) target := by subst hp; exact XS.i2b h hx rfl hd rfl hr
theorem own_f_i2s {tb : Tables} [Ours tb] {e : Env} {below : List Frame} {T target : State} {m : MethodId} {c : Code} {Ls : Array Slot} {S : List Value} {pc pc' : Nat} {x : Int32} (h : At T m c below) (hx : tb.exec = Jvm.exec) (hd : decode c.code pc = .ok (.i2s, 1)) (hp : pc + 1 = pc') (hr : Steps tb e below (T.setTop (mkF m pc' Ls (.int (x.toInt16.toInt32) :: S))) target) : Steps tb e below (T.setTop (mkF m pc Ls (.int x :: S))) target := by subst hp; exact XS.i2s h hx rfl hd rfl hr
theorem own_f_i2c {tb : Tables} [Ours tb] {e : Env} {below : List Frame} {T target : State} {m : MethodId} {c : Code} {Ls : Array Slot} {S : List Value} {pc pc' : Nat} {x : Int32} (h : At T m c below) (hx : tb.exec = Jvm.exec) (hd : decode c.code pc = .ok (.i2c, 1)) (hp : pc + 1 = pc') (hr : Steps tb e below (T.setTop (mkF m pc' Ls (.int (x.toUInt32.toUInt16.toUInt32.toInt32) :: S))) target) : Steps tb e below (T.setTop (mkF m pc Ls (.int x :: S))) target := by subst hp; exact XS.i2c h hx rfl hd rfl hr
theorem own_f_lcmp {tb : Tables} [Ours tb] {e : Env} {below : List Frame} {T target : State} {m : MethodId} {c : Code} {Ls : Array Slot} {S : List Value} {pc pc' : Nat} {x y : Int64} (h : At T m c below) (hx : tb.exec = Jvm.exec) (hd : decode c.code pc = .ok (.lcmp, 1)) (hp : pc + 1 = pc') (hr : Steps tb e below (T.setTop (mkF m pc' Ls (.int (lcmpW x y) :: S))) target) : Steps tb e below (T.setTop (mkF m pc Ls (.long y :: .long x :: S))) target := by subst hp; exact XS.lcmp h hx rfl hd rfl hr
theorem own_f_i2d {tb : Tables} [Ours tb] {e : Env} {below : List Frame} {T target : State} {m : MethodId} {c : Code} {Ls : Array Slot} {S : List Value} {pc pc' : Nat} {x : Int32} {v : UInt64} (h : At T m c below) (hx : tb.exec = Jvm.exec) (hd : decode c.code pc = .ok (.i2d, 1)) (hv : FP.i2d x = v) (hp : pc + 1 = pc') (hr : Steps tb e below (T.setTop (mkF m pc' Ls (.double v :: S))) target) : Steps tb e below (T.setTop (mkF m pc Ls (.int x :: S))) target := by subst hp; exact XS.i2dS h hx rfl hd rfl hv hr
theorem own_f_l2d {tb : Tables} [Ours tb] {e : Env} {below : List Frame} {T target : State} {m : MethodId} {c : Code} {Ls : Array Slot} {S : List Value} {pc pc' : Nat} {x : Int64} {v : UInt64} (h : At T m c below) (hx : tb.exec = Jvm.exec) (hd : decode c.code pc = .ok (.l2d, 1)) (hv : FP.l2d x = v) (hp : pc + 1 = pc') (hr : Steps tb e below (T.setTop (mkF m pc' Ls (.double v :: S))) target) : Steps tb e below (T.setTop (mkF m pc Ls (.long x :: S))) target := by subst hp; exact XS.l2dS h hx rfl hd rfl hv hr
theorem own_f_d2i {tb : Tables} [Ours tb] {e : Env} {below : List Frame} {T target : State} {m : MethodId} {c : Code} {Ls : Array Slot} {S : List Value} {pc pc' : Nat} {x : UInt64} {v : Int32} (h : At T m c below) (hx : tb.exec = Jvm.exec) (hd : decode c.code pc = .ok (.d2i, 1)) (hv : FP.d2i x = v) (hp : pc + 1 = pc') (hr : Steps tb e below (T.setTop (mkF m pc' Ls (.int v :: S))) target) : Steps tb e below (T.setTop (mkF m pc Ls (.double x :: S))) target := by subst hp; exact XS.d2iS h hx rfl hd rfl hv hr
theorem own_f_d2l {tb : Tables} [Ours tb] {e : Env} {below : List Frame} {T target : State} {m : MethodId} {c : Code} {Ls : Array Slot} {S : List Value} {pc pc' : Nat} {x : UInt64} {v : Int64} (h : At T m c below) (hx : tb.exec = Jvm.exec) (hd : decode c.code pc = .ok (.d2l, 1)) (hv : FP.d2l x = v) (hp : pc + 1 = pc') (hr : Steps tb e below (T.setTop (mkF m pc' Ls (.long v :: S))) target) : Steps tb e below (T.setTop (mkF m pc Ls (.double x :: S))) target := by subst hp; exact XS.d2lS h hx rfl hd rfl hv hr
theorem own_f_dneg {tb : Tables} [Ours tb] {e : Env} {below : List Frame} {T target : State} {m : MethodId} {c : Code} {Ls : Array Slot} {S : List Value} {pc pc' : Nat} {x : UInt64} {v : UInt64} (h : At T m c below) (hx : tb.exec = Jvm.exec) (hd : decode c.code pc = .ok (.dneg, 1)) (hv : FP.dneg x = v) (hp : pc + 1 = pc') (hr : Steps tb e below (T.setTop (mkF m pc' Ls (.double v :: S))) target) : Steps tb e below (T.setTop (mkF m pc Ls (.double x :: S))) target := by subst hp; exact XS.dnegS h hx rfl hd rfl hv hr
theorem own_f_dadd {tb : Tables} [Ours tb] {e : Env} {below : List Frame} {T target : State} {m : MethodId} {c : Code} {Ls : Array Slot} {S : List Value} {pc pc' : Nat} {x y v : UInt64} (h : At T m c below) (hx : tb.exec = Jvm.exec) (hd : decode c.code pc = .ok (.dadd, 1)) (hn : Jvm.Free.Fl.NoNaN64 (FP.dadd x y)) (hv : FP.dadd x y = v) (hp : pc + 1 = pc') (hr : Steps tb e below (T.setTop (mkF m pc' Ls (.double v :: S))) target) : Steps tb e below (T.setTop (mkF m pc Ls (.double y :: .double x :: S))) target := by subst hp; exact XS.daddS h hx rfl hd rfl hn hv hr
theorem own_f_dsub {tb : Tables} [Ours tb] {e : Env} {below : List Frame} {T target : State} {m : MethodId} {c : Code} {Ls : Array Slot} {S : List Value} {pc pc' : Nat} {x y v : UInt64} (h : At T m c below) (hx : tb.exec = Jvm.exec) (hd : decode c.code pc = .ok (.dsub, 1)) (hn : Jvm.Free.Fl.NoNaN64 (FP.dsub x y)) (hv : FP.dsub x y = v) (hp : pc + 1 = pc') (hr : Steps tb e below (T.setTop (mkF m pc' Ls (.double v :: S))) target) : Steps tb e below (T.setTop (mkF m pc Ls (.double y :: .double x :: S))) target := by subst hp; exact XS.dsubS h hx rfl hd rfl hn hv hr
theorem own_f_dmul {tb : Tables} [Ours tb] {e : Env} {below : List Frame} {T target : State} {m : MethodId} {c : Code} {Ls : Array Slot} {S : List Value} {pc pc' : Nat} {x y v : UInt64} (h : At T m c below) (hx : tb.exec = Jvm.exec) (hd : decode c.code pc = .ok (.dmul, 1)) (hn : Jvm.Free.Fl.NoNaN64 (FP.dmul x y)) (hv : FP.dmul x y = v) (hp : pc + 1 = pc') (hr : Steps tb e below (T.setTop (mkF m pc' Ls (.double v :: S))) target) : Steps tb e below (T.setTop (mkF m pc Ls (.double y :: .double x :: S))) target := by subst hp; exact XS.dmulS h hx rfl hd rfl hn hv hr
theorem own_f_ddiv {tb : Tables} [Ours tb] {e : Env} {below : List Frame} {T target : State} {m : MethodId} {c : Code} {Ls : Array Slot} {S : List Value} {pc pc' : Nat} {x y v : UInt64} (h : At T m c below) (hx : tb.exec = Jvm.exec) (hd : decode c.code pc = .ok (.ddiv, 1)) (hn : Jvm.Free.Fl.NoNaN64 (FP.ddiv x y)) (hv : FP.ddiv x y = v) (hp : pc + 1 = pc') (hr : Steps tb e below (T.setTop (mkF m pc' Ls (.double v :: S))) target) : Steps tb e below (T.setTop (mkF m pc Ls (.double y :: .double x :: S))) target := by subst hp; exact XS.ddivS h hx rfl hd rfl hn hv hr
theorem own_f_dcmp {tb : Tables} [Ours tb] {e : Env} {below : List Frame} {T target : State} {m : MethodId} {c : Code} {Ls : Array Slot} {S : List Value} {pc pc' : Nat} {o : CmpOp} {x y : UInt64} {v : Int32} (h : At T m c below) (hx : tb.exec = Jvm.exec) (hd : decode c.code pc = .ok (.dcmp o, 1)) (hv : cmpValue (FP.dcmp x y) o = v) (hp : pc + 1 = pc') (hr : Steps tb e below (T.setTop (mkF m pc' Ls (.int v :: S))) target) : Steps tb e below (T.setTop (mkF m pc Ls (.double y :: .double x :: S))) target := by subst hp; exact XS.dcmpS h hx rfl hd rfl hv hr
theorem own_f_iinc {tb : Tables} [Ours tb] {e : Env} {below : List Frame} {T target : State} {m : MethodId} {c : Code} {Ls : Array Slot} {S : List Value} {pc pc' : Nat} {k : Nat} {cst : Int} {x : Int32} {Ls' : Array Slot} (h : At T m c below) (hx : tb.exec = Jvm.exec) (hd : decode c.code pc = .ok (.iinc k cst, 3)) (hl : Ls[k]? = some (.val (.int x))) (hl' : storeLocals Ls k (.int (x + Int32.ofInt cst)) = some Ls') (hp : pc + 3 = pc') (hr : Steps tb e below (T.setTop (mkF m pc' Ls' (S))) target) : Steps tb e below (T.setTop (mkF m pc Ls (S))) target := by subst hp; exact XS.iinc h hx rfl hd hl hl' hr
theorem own_f_dup {tb : Tables} [Ours tb] {e : Env} {below : List Frame} {T target : State} {m : MethodId} {c : Code} {Ls : Array Slot} {S : List Value} {pc pc' : Nat} {v : Value} (h : At T m c below) (hx : tb.exec = Jvm.exec) (hd : decode c.code pc = .ok (.dup, 1)) (hc : v.category = 1) (hp : pc + 1 = pc') (hr : Steps tb e below (T.setTop (mkF m pc' Ls (v :: v :: S))) target) : Steps tb e below (T.setTop (mkF m pc Ls (v :: S))) target := by subst hp; exact XS.dup h hx rfl hd rfl hc hr
theorem own_f_dupX1 {tb : Tables} [Ours tb] {e : Env} {below : List Frame} {T target : State} {m : MethodId} {c : Code} {Ls : Array Slot} {S : List Value} {pc pc' : Nat} {x y : Value} (h : At T m c below) (hx : tb.exec = Jvm.exec) (hd : decode c.code pc = .ok (.dup_x1, 1)) (hc : x.category = 1) (hc' : y.category = 1) (hp : pc + 1 = pc') (hr : Steps tb e below (T.setTop (mkF m pc' Ls (x :: y :: x :: S))) target) : Steps tb e below (T.setTop (mkF m pc Ls (x :: y :: S))) target := by subst hp; exact XS.dupX1 h hx rfl hd rfl hc hc' hr
theorem own_f_pop {tb : Tables} [Ours tb] {e : Env} {below : List Frame} {T target : State} {m : MethodId} {c : Code} {Ls : Array Slot} {S : List Value} {pc pc' : Nat} {x : Value} (h : At T m c below) (hx : tb.exec = Jvm.exec) (hd : decode c.code pc = .ok (.pop, 1)) (hc : x.category = 1) (hp : pc + 1 = pc') (hr : Steps tb e below (T.setTop (mkF m pc' Ls (S))) target) : Steps tb e below (T.setTop (mkF m pc Ls (x :: S))) target := by subst hp; exact XS.pop h hx rfl hd rfl hc hr
theorem own_f_goto {tb : Tables} [Ours tb] {e : Env} {below : List Frame} {T target : State} {m : MethodId} {c : Code} {Ls : Array Slot} {S : List Value} {pc pc' : Nat} {o : Int} (h : At T m c below) (hx : tb.exec = Jvm.exec) (hd : decode c.code pc = .ok (.goto o, 3)) (ho : 0 ≤ (pc : Int) + o) (hp : ((pc : Int) + o).toNat = pc') (hr : Steps tb e below (T.setTop (mkF m pc' Ls S)) target) : Steps tb e below (T.setTop (mkF m pc Ls (S))) target := XS.goto h hx rfl rfl hd ho hp hr
theorem own_f_ifYes {tb : Tables} [Ours tb] {e : Env} {below : List Frame} {T target : State} {m : MethodId} {c : Code} {Ls : Array Slot} {S : List Value} {pc pc' : Nat} {o : Int} {cd : ClassFile.Cond} {x : Int32} (h : At T m c below) (hx : tb.exec = Jvm.exec) (hd : decode c.code pc = .ok (.ifCond cd o, 3)) (hc : ifCond.holds cd x = true) (ho : 0 ≤ (pc : Int) + o) (hp : ((pc : Int) + o).toNat = pc') (hr : Steps tb e below (T.setTop (mkF m pc' Ls S)) target) : Steps tb e below (T.setTop (mkF m pc Ls (.int x :: S))) target := XS.ifYes h hx rfl rfl hd rfl hc ho hp hr
theorem own_f_icmpYes {tb : Tables} [Ours tb] {e : Env} {below : List Frame} {T target : State} {m : MethodId} {c : Code} {Ls : Array Slot} {S : List Value} {pc pc' : Nat} {o : Int} {cd : ClassFile.Cond} {x y : Int32} (h : At T m c below) (hx : tb.exec = Jvm.exec) (hd : decode c.code pc = .ok (.if_icmp cd o, 3)) (hc : if_icmp.holds cd x y = true) (ho : 0 ≤ (pc : Int) + o) (hp : ((pc : Int) + o).toNat = pc') (hr : Steps tb e below (T.setTop (mkF m pc' Ls S)) target) : Steps tb e below (T.setTop (mkF m pc Ls (.int y :: .int x :: S))) target := XS.icmpYes h hx rfl rfl hd rfl hc ho hp hr
theorem own_f_ifNo {tb : Tables} [Ours tb] {e : Env} {below : List Frame} {T target : State} {m : MethodId} {c : Code} {Ls : Array Slot} {S : List Value} {pc pc' : Nat} {o : Int} {cd : ClassFile.Cond} {x : Int32} (h : At T m c below) (hx : tb.exec = Jvm.exec) (hd : decode c.code pc = .ok (.ifCond cd o, 3)) (hc : ifCond.holds cd x = false) (hp : pc + 3 = pc') (hr : Steps tb e below (T.setTop (mkF m pc' Ls (S))) target) : Steps tb e below (T.setTop (mkF m pc Ls (.int x :: S))) target := by subst hp; exact XS.ifNo h hx rfl hd rfl hc hr
theorem own_f_icmpNo {tb : Tables} [Ours tb] {e : Env} {below : List Frame} {T target : State} {m : MethodId} {c : Code} {Ls : Array Slot} {S : List Value} {pc pc' : Nat} {o : Int} {cd : ClassFile.Cond} {x y : Int32} (h : At T m c below) (hx : tb.exec = Jvm.exec) (hd : decode c.code pc = .ok (.if_icmp cd o, 3)) (hc : if_icmp.holds cd x y = false) (hp : pc + 3 = pc') (hr : Steps tb e below (T.setTop (mkF m pc' Ls (S))) target) : Steps tb e below (T.setTop (mkF m pc Ls (.int y :: .int x :: S))) target := by subst hp; exact XS.icmpNo h hx rfl hd rfl hc hr
variable {p : Program} {l : Launch} {e : Env} {R : Room} {s : State} {m : MethodId} {args : Array Value} {below : List Frame} {meth : Method} {c : Code} {T target : State} {locs : List Loc} {cells slots : Nat} {Ls : Array Slot} {S : List Value} {pc pc' : Nat} {own : String} {index : Nat}
theorem own_f_ldcInt (X : Stand p l e R s m args below meth c T locs cells slots) (hx : p.tables.exec = Jvm.exec) {v : Int32} (hown : s.vm.findClass own = some m.cls) (hc : (Jvm.Cond.constant own index v).before args s = true) (hd : decode c.code pc = .ok (.ldc index, 2)) (hp : pc + 2 = pc') (hr : Steps p.tables e below (T.setTop (mkF m pc' Ls (.int v :: S))) target) : Steps p.tables e below (T.setTop (mkF m pc Ls S)) target := by subst hp; exact X.ldcInt hx hown hc (g := mkF m pc Ls S) rfl hd _ hr
theorem own_f_ldcwInt (X : Stand p l e R s m args below meth c T locs cells slots) (hx : p.tables.exec = Jvm.exec) {v : Int32} (hown : s.vm.findClass own = some m.cls) (hc : (Jvm.Cond.constant own index v).before args s = true) (hd : decode c.code pc = .ok (.ldc_w index, 3)) (hp : pc + 3 = pc') (hr : Steps p.tables e below (T.setTop (mkF m pc' Ls (.int v :: S))) target) : Steps p.tables e below (T.setTop (mkF m pc Ls S)) target := by subst hp; exact X.ldcwInt hx hown hc (g := mkF m pc Ls S) rfl hd _ hr
theorem own_f_ldc2Long (X : Stand p l e R s m args below meth c T locs cells slots) (hx : p.tables.exec = Jvm.exec) {v : Int64} (hown : s.vm.findClass own = some m.cls) (hc : (Jvm.Cond.constantLong own index v).before args s = true) (hd : decode c.code pc = .ok (.ldc2_w index, 3)) (hp : pc + 3 = pc') (hr : Steps p.tables e below (T.setTop (mkF m pc' Ls (.long v :: S))) target) : Steps p.tables e below (T.setTop (mkF m pc Ls S)) target := by subst hp; exact X.ldc2Long hx hown hc (g := mkF m pc Ls S) rfl hd _ hr
theorem own_f_ldc2DoubleC (X : Stand p l e R s m args below meth c T locs cells slots) (hx : p.tables.exec = Jvm.exec) {v : UInt64} (hown : s.vm.findClass own = some m.cls) (hc : (Jvm.Cond.constantDouble own index v).before args s = true) (hd : decode c.code pc = .ok (.ldc2_w index, 3)) (hp : pc + 3 = pc') (hr : Steps p.tables e below (T.setTop (mkF m pc' Ls (.double v :: S))) target) : Steps p.tables e below (T.setTop (mkF m pc Ls S)) target := by subst hp; exact X.ldc2DoubleC hx hown hc (g := mkF m pc Ls S) rfl hd _ hr
end OwnSteps
section OwnFloat
open Jvm.FP.Core
/-! a double as n * 2^(j - 1074) -/
def own_Rep (x : UInt64) (n : Int) (j : Nat) : Prop := DFin x ∧ zval b64 (val64 x) = n * ((2 ^ j : Nat) : Int)
theorem own_cancel {P Q u v : Nat} (h : P * 2 ^ u = Q * 2 ^ v) : P * 2 ^ (u - v) = Q * 2 ^ (v - u) := by
  rcases Nat.le_total u v with q | q
  · obtain ⟨d, rfl⟩ := Nat.exists_eq_add_of_le q
    rw [show u - (u + d) = 0 by omega, show u + d - u = d by omega]
    refine Nat.eq_of_mul_eq_mul_right (Nat.two_pow_pos u) ?_
    rw [Nat.pow_zero, Nat.mul_one, h, Nat.pow_add]; ac_rfl
  · obtain ⟨d, rfl⟩ := Nat.exists_eq_add_of_le q
    rw [show v - (v + d) = 0 by omega, show v + d - v = d by omega]
    refine Nat.eq_of_mul_eq_mul_right (Nat.two_pow_pos v) ?_
    rw [Nat.pow_zero, Nat.mul_one, ← h, Nat.pow_add]; ac_rfl
theorem own_qmax : b64.qmax = 971 := by decide
theorem own_natAbs_pow (n : Int) (j : Nat) : (n * ((2 ^ j : Nat) : Int)).natAbs = n.natAbs * 2 ^ j := by
  rw [Int.natAbs_mul, Int.natAbs_natCast]
theorem own_rr_exact {s : Bool} {A B M j u v : Nat} {e : Int} (hB : 0 < B) (hM : M < 2 ^ 53) (hj : j ≤ 2045) (h : A * 2 ^ u = M * B * 2 ^ v) (hu : (u : Int) - v = e - ((j : Int) - 1074)) :
    ∃ c q, roundRatio b64 s A B e = .fin s c q ∧ inUnits c q b64.qmin = M * 2 ^ j := by
  have h1 := own_cancel h
  rw [roundRatio_congr (A' := M) (B' := 1) (e' := (j : Int) - 1074) hB (by decide) (by rw [Nat.mul_one, show (e - ((j : Int) - 1074)).toNat = u - v by omega, show (((j : Int) - 1074) - e).toNat = v - u by omega]; exact h1)]
  have hp : b64.p = 53 := rfl
  obtain ⟨c, q, h3, h4⟩ := round_exact good_b64 s (c := M) (q := (j : Int) - 1074) (by rw [hp]; exact hM) (by rw [qmin_b64]; omega) (by rw [own_qmax]; omega)
  refine ⟨c, q, h3, ?_⟩
  rw [h4]; unfold inUnits; rw [qmin_b64, show ((j : Int) - 1074 - -1074).toNat = j by omega]
theorem own_round {z : UInt64} {sg : Bool} {N : Nat} {e n : Int} {j : Nat} (hv : val64 z = round b64 (.fin sg N e)) (h2 : b64.qmin ≤ e) (hs : n.natAbs < 2 ^ 53) (hj : j ≤ 2045)
    (h3 : signed sg (inUnits N e b64.qmin) = n * ((2 ^ j : Nat) : Int)) : own_Rep z n j := by
  have h4 : inUnits N e b64.qmin = n.natAbs * 2 ^ j := by
    have := congrArg Int.natAbs h3
    rwa [natAbs_signed, own_natAbs_pow] at this
  rw [qmin_b64] at h2
  have h5 : N * 2 ^ (e + 1074).toNat = n.natAbs * 1 * 2 ^ j := by
    rw [Nat.mul_one, ← h4]; unfold inUnits; rw [qmin_b64, show (e - -1074).toNat = (e + 1074).toNat by omega]
  obtain ⟨c, q, h6, h7⟩ := own_rr_exact (s := sg) (A := N) (B := 1) (e := e) (by decide) hs hj h5 (by omega)
  have h8 : val64 z = .fin sg c q := hv.trans h6
  refine ⟨⟨sg, c, q, h8⟩, ?_⟩
  rw [h8]
  show signed sg (inUnits c q b64.qmin) = _
  rw [h7, ← h4]; exact h3
theorem own_add {x y : UInt64} {n m : Int} {j : Nat} (hx : own_Rep x n j) (hy : own_Rep y m j) (hs : (n + m).natAbs < 2 ^ 53) (hj : j ≤ 2045) : own_Rep (dadd x y) (n + m) j := by
  obtain ⟨⟨s, c, q, ex⟩, zx⟩ := hx
  obtain ⟨⟨t, d, r, ey⟩, zy⟩ := hy
  have fx := val64_fits x; have fy := val64_fits y
  rw [ex] at fx zx; rw [ey] at fy zy
  obtain ⟨sg, N, e, h1, h2, h3⟩ := sum_units fx fy
  have hv : val64 (dadd x y) = round b64 (.fin sg N e) := by rw [val64_dadd, ex, ey, h1]
  rw [zx, zy, ← Int.add_mul] at h3
  exact own_round hv h2 hs hj h3
theorem own_sub {x y : UInt64} {n m : Int} {j : Nat} (hx : own_Rep x n j) (hy : own_Rep y m j) (hs : (n - m).natAbs < 2 ^ 53) (hj : j ≤ 2045) : own_Rep (dsub x y) (n - m) j := by
  obtain ⟨⟨s, c, q, ex⟩, zx⟩ := hx
  obtain ⟨⟨t, d, r, ey⟩, zy⟩ := hy
  have fx := val64_fits x; have fy := negate_fits (val64_fits y)
  have zy2 := zval_negate b64 (val64 y)
  rw [ex] at fx zx; rw [ey] at fy zy zy2
  rw [zy] at zy2
  obtain ⟨sg, N, e, h1, h2, h3⟩ := sum_units fx fy
  have hv : val64 (dsub x y) = round b64 (.fin sg N e) := by rw [val64_dsub, ex, ey]; exact congrArg (round b64) h1
  rw [zx, show zval b64 (.fin (!t) d r) = -(m * ((2 ^ j : Nat) : Int)) from zy2, ← Int.sub_eq_add_neg, ← Int.sub_mul] at h3
  exact own_round hv h2 hs hj h3
theorem own_zmag {x : UInt64} {n : Int} {j : Nat} (hx : own_Rep x n j) : zmag b64 (val64 x) = n.natAbs * 2 ^ j := by
  have := congrArg Int.natAbs hx.2
  rwa [zval, natAbs_signed, own_natAbs_pow] at this
theorem own_sgn {x : UInt64} {n : Int} {j : Nat} (hx : own_Rep x n j) (hn : n ≠ 0) : sgn (val64 x) = decide (n < 0) := by
  have h := hx.2
  have h0 := own_zmag hx
  unfold zval at h
  rw [h0] at h
  have hp : (0 : Int) < ((2 ^ j : Nat) : Int) := by exact_mod_cast Nat.two_pow_pos j
  have hq : 0 < n.natAbs * 2 ^ j := Nat.mul_pos (by omega) (Nat.two_pow_pos j)
  cases hS : sgn (val64 x)
  · rw [hS] at h
    simp only [signed, Bool.false_eq_true, if_false] at h
    have : ¬ n < 0 := fun q => by have := Int.mul_neg_of_neg_of_pos q hp; omega
    simp [this]
  · rw [hS] at h
    simp only [signed, if_true] at h
    have : n < 0 := by
      rcases (by omega : n < 0 ∨ 0 ≤ n) with q | q
      · exact q
      · have := Int.mul_nonneg q (Int.le_of_lt hp); omega
    simp [this]
theorem own_mul {x y : UInt64} {n m : Int} {j i k : Nat} (hx : own_Rep x n j) (hy : own_Rep y m i) (hk : k + 1074 = j + i) (hs : (n * m).natAbs < 2 ^ 53) (hk2 : k ≤ 2045) : own_Rep (dmul x y) (n * m) k := by
  have zx := own_zmag hx; have zy := own_zmag hy
  have sx := @own_sgn x n j hx; have sy := @own_sgn y m i hy
  obtain ⟨⟨s, c, q, ex⟩, -⟩ := hx
  obtain ⟨⟨t, d, r, ey⟩, -⟩ := hy
  have fx := val64_fits x; have fy := val64_fits y
  rw [ex] at fx zx sx; rw [ey] at fy zy sy
  obtain ⟨h1, h2, h3⟩ := product_units fx fy
  rw [zx, zy, qmin_b64] at h3
  rw [qmin_b64] at h2
  have hv : val64 (dmul x y) = roundRatio b64 (s != t) (c * d) 1 (q + r) := by rw [val64_dmul, ex, ey, h1]; rfl
  have h5 : c * d * 2 ^ (q + r + 2148).toNat = (n * m).natAbs * 1 * 2 ^ (j + i) := by
    have : inUnits (c * d) (q + r) (2 * -1074) = c * d * 2 ^ (q + r + 2148).toNat := by unfold inUnits; rw [show (q + r - 2 * -1074).toNat = (q + r + 2148).toNat by omega]
    rw [← this, h3, Int.natAbs_mul, Nat.pow_add]; ac_rfl
  obtain ⟨c', q', h6, h7⟩ := own_rr_exact (s := s != t) (B := 1) (e := q + r) (by decide) hs hk2 h5 (by omega)
  have h8 : val64 (dmul x y) = .fin (s != t) c' q' := hv.trans h6
  refine ⟨⟨_, _, _, h8⟩, ?_⟩
  rw [h8]
  show signed (s != t) (inUnits c' q' b64.qmin) = _
  rw [h7]
  by_cases hn : n = 0
  · subst hn; simp [signed]
  by_cases hm : m = 0
  · subst hm; simp [signed]
  have sx' : s = decide (n < 0) := sx hn
  have sy' : t = decide (m < 0) := sy hm
  subst sx' sy'
  rw [signed_mul]
  congr 1
  rcases Int.lt_or_gt_of_ne hn with a | a <;> rcases Int.lt_or_gt_of_ne hm with b | b
  · have := Int.mul_pos_of_neg_of_neg a b; simp only [a, b, decide_true, bne_self_eq_false, signed, Bool.false_eq_true, if_false]; omega
  · have := Int.mul_neg_of_neg_of_pos a b; have b' : ¬ m < 0 := by omega
    simp only [a, b', decide_true, decide_false, signed]; simp; omega
  · have := Int.mul_neg_of_pos_of_neg a b; have a' : ¬ n < 0 := by omega
    simp only [a', b, decide_true, decide_false, signed]; simp; omega
  · have := Int.mul_pos a b; have a' : ¬ n < 0 := by omega
    have b' : ¬ m < 0 := by omega
    simp only [a', b', decide_false, bne_self_eq_false, signed, Bool.false_eq_true, if_false]; omega
/-- the quotient, rounded once -/
theorem own_div_val {x y : UInt64} {n m : Int} {j i : Nat} (hx : own_Rep x n j) (hy : own_Rep y m i) (hm : m ≠ 0) :
    ∃ sg, val64 (ddiv x y) = roundRatio b64 sg n.natAbs m.natAbs ((j : Int) - i) ∧ (n ≠ 0 → sg = (decide (n < 0) != decide (m < 0))) := by
  have zx := own_zmag hx; have zy := own_zmag hy
  have sx := @own_sgn x n j hx; have sy := @own_sgn y m i hy
  obtain ⟨⟨s, c, q, ex⟩, -⟩ := hx
  obtain ⟨⟨t, d, r, ey⟩, -⟩ := hy
  have fx := val64_fits x; have fy := val64_fits y
  rw [ex] at fx zx sx; rw [ey] at fy zy sy
  have f1 : b64.qmin ≤ q := fx.2.1
  have f2 : b64.qmin ≤ r := fy.2.1
  rw [qmin_b64] at f1 f2
  have zx' : c * 2 ^ (q + 1074).toNat = n.natAbs * 2 ^ j := by rw [← zx]; show _ = inUnits c q b64.qmin; unfold inUnits; rw [qmin_b64, show (q - -1074).toNat = (q + 1074).toNat by omega]
  have zy' : d * 2 ^ (r + 1074).toNat = m.natAbs * 2 ^ i := by rw [← zy]; show _ = inUnits d r b64.qmin; unfold inUnits; rw [qmin_b64, show (r - -1074).toNat = (r + 1074).toNat by omega]
  have hd : d ≠ 0 := by
    rintro rfl
    rw [Nat.zero_mul] at zy'
    have := Nat.mul_pos (show 0 < m.natAbs by omega) (Nat.two_pow_pos i)
    omega
  refine ⟨s != t, ?_, fun hn => ?_⟩
  · rw [val64_ddiv, ex, ey]
    show (if d = 0 then _ else roundRatio b64 (s != t) c d (q - r)) = _
    rw [if_neg hd]
    have h1 : c * m.natAbs * 2 ^ ((q + 1074).toNat + i) = n.natAbs * d * 2 ^ ((r + 1074).toNat + j) := by
      rw [Nat.pow_add, Nat.pow_add]
      calc c * m.natAbs * (2 ^ (q + 1074).toNat * 2 ^ i) = (c * 2 ^ (q + 1074).toNat) * (m.natAbs * 2 ^ i) := by ac_rfl
        _ = (n.natAbs * 2 ^ j) * (d * 2 ^ (r + 1074).toNat) := by rw [zx', zy']
        _ = _ := by ac_rfl
    have h2 := own_cancel h1
    refine roundRatio_congr (Nat.pos_of_ne_zero hd) (by omega) ?_
    rw [show (q - r - ((j : Int) - i)).toNat = (q + 1074).toNat + i - ((r + 1074).toNat + j) by omega, show (((j : Int) - i) - (q - r)).toNat = (r + 1074).toNat + j - ((q + 1074).toNat + i) by omega]
    exact h2
  · rw [← show s = decide (n < 0) from sx hn, ← show t = decide (m < 0) from sy hm]
theorem own_signed_bne {n m : Int} (hn : n ≠ 0) (hm : m ≠ 0) {a : Int} (h : n = a * m) : signed (decide (n < 0) != decide (m < 0)) a.natAbs = a := by
  rcases Int.lt_or_gt_of_ne hn with p | p <;> rcases Int.lt_or_gt_of_ne hm with b | b
  · have : 0 ≤ a := by rcases (by omega : a < 0 ∨ 0 ≤ a) with q | q; (have := Int.mul_pos_of_neg_of_neg q b; omega); exact q
    simp only [p, b, decide_true, bne_self_eq_false, signed, Bool.false_eq_true, if_false]; omega
  · have : a < 0 := by rcases (by omega : a < 0 ∨ 0 ≤ a) with q | q; exact q; (have := Int.mul_nonneg q (Int.le_of_lt b); omega)
    have b' : ¬ m < 0 := by omega
    simp only [p, b', decide_true, decide_false, signed]; simp; omega
  · have : a < 0 := by rcases (by omega : a < 0 ∨ 0 ≤ a) with q | q; exact q; (have := Int.mul_nonpos_of_nonneg_of_nonpos q (Int.le_of_lt b); omega)
    have p' : ¬ n < 0 := by omega
    simp only [p', b, decide_true, decide_false, signed]; simp; omega
  · have : 0 ≤ a := by rcases (by omega : a < 0 ∨ 0 ≤ a) with q | q; (have := Int.mul_neg_of_neg_of_pos q b; omega); exact q
    have p' : ¬ n < 0 := by omega
    have b' : ¬ m < 0 := by omega
    simp only [p', b', decide_false, bne_self_eq_false, signed, Bool.false_eq_true, if_false]; omega
theorem own_div {x y : UInt64} {a m : Int} {j i k : Nat} (hx : own_Rep x (a * m) j) (hy : own_Rep y m i) (hm : m ≠ 0) (hk : k + i = j + 1074) (ha : a.natAbs < 2 ^ 53) (hk2 : k ≤ 2045) : own_Rep (ddiv x y) a k := by
  obtain ⟨sg, h1, h2⟩ := own_div_val hx hy hm
  have h3 : (a * m).natAbs * 2 ^ j = a.natAbs * m.natAbs * 2 ^ j := by rw [Int.natAbs_mul]
  obtain ⟨c, q, h4, h5⟩ := own_rr_exact (s := sg) (A := (a * m).natAbs) (B := m.natAbs) (e := (j : Int) - i) (M := a.natAbs) (j := k) (by omega) ha hk2 h3 (by omega)
  have h6 : val64 (ddiv x y) = .fin sg c q := h1.trans h4
  refine ⟨⟨_, _, _, h6⟩, ?_⟩
  rw [h6]
  show signed sg (inUnits c q b64.qmin) = _
  rw [h5, signed_mul]
  by_cases h0 : a = 0
  · subst h0; cases sg <;> simp [signed]
  · have hne : a * m ≠ 0 := Int.mul_ne_zero h0 hm
    rw [h2 hne, own_signed_bne hne hm rfl]
theorem own_ne_nan {x : UInt64} {n : Int} {j : Nat} (hx : own_Rep x n j) : val64 x ≠ .nan := hx.1.ne_nan
theorem own_cmp {x y : UInt64} {n m : Int} {j : Nat} (hx : own_Rep x n j) (hy : own_Rep y m j) : dcmp x y = some (compare n m) := by
  rw [dcmp_zval (own_ne_nan hx) (own_ne_nan hy), hx.2, hy.2]
  refine congrArg some ?_
  have hp : (0 : Int) < ((2 ^ j : Nat) : Int) := by exact_mod_cast Nat.two_pow_pos j
  exact compare_congr (Int.mul_lt_mul_right hp) (Int.mul_eq_mul_right_iff (by omega))
theorem own_cmp_eq {x y : UInt64} {n : Int} {j : Nat} {o : Jvm.ClassFile.CmpOp} (hx : own_Rep x n j) (hy : own_Rep y n j) : Jvm.Op.cmpValue (Jvm.FP.dcmp x y) o = (0 : Int32) := by
  rw [show Jvm.FP.dcmp x y = some .eq from (own_cmp hx hy).trans (by rw [(compare_eq_iff _ _).mpr rfl])]; rfl
theorem own_l2d {a : Int64} (h1 : -9007199254740992 < a.toInt) (h2 : a.toInt < 9007199254740992) : own_Rep (l2d a) a.toInt 1074 :=
  ⟨l2d_fin a, DInt_zval (l2d_whole ⟨h1, h2⟩)⟩
theorem own_i2d (a : Int32) : own_Rep (i2d a) a.toInt 1074 := by
  have h1 := a.le_toInt; have h2 := a.toInt_lt
  have := @own_l2d a.toInt64 (by rw [Int32.toInt_toInt64]; omega) (by rw [Int32.toInt_toInt64]; omega)
  rwa [← i2d_l2d, Int32.toInt_toInt64] at this
theorem own_shift {x : UInt64} {n : Int} {j i k : Nat} (hx : own_Rep x n j) (hk : k + i = j) : own_Rep x (n * ((2 ^ i : Nat) : Int)) k := by
  refine ⟨hx.1, ?_⟩
  rw [hx.2, ← hk, Nat.pow_add, Int.natCast_mul]; ac_rfl
theorem own_noNaN {x : UInt64} {n : Int} {j : Nat} (hx : own_Rep x n j) : Jvm.Free.Fl.NoNaN64 x := (Jvm.Free.Fl.fin64_core.mpr hx.1).noNaN
theorem own_fin {x : UInt64} {n : Int} {j : Nat} (hx : own_Rep x n j) : Jvm.Free.Fl.Fin64 x := Jvm.Free.Fl.fin64_core.mpr hx.1
/-- a rounded magnitude against a number of the format -/
theorem own_rr_ge {s : Bool} {A B v j E : Nat} {e : Int} (hB : 0 < B) (hv : v < 2 ^ 53) (hj : j ≤ 2045) (he : e + 1074 = (E : Int)) (h : v * 2 ^ j * B ≤ A * 2 ^ E) : v * 2 ^ j ≤ zmag b64 (roundRatio b64 s A B e) := by
  obtain ⟨c, q, h1, h2⟩ := own_rr_exact (s := false) (A := v) (B := 1) (M := v) (j := j) (u := 0) (v := 0) (e := (j : Int) - 1074) (by decide) hv hj (by simp) (by omega)
  have hf : Jvm.FP.Core.fits b64 (Datum.fin false c q) := h1 ▸ roundRatio_fits good_b64 false v (by decide) _
  have := zmag_roundRatio_ge good_b64 (s := s) (A := A) (B := B) (e := e) (e0 := b64.qmin) hB hf (Int.le_refl _) (by rw [qmin_b64]; omega) (by
    show inUnits c q b64.qmin * _ * B ≤ inUnits A e b64.qmin
    rw [h2, Int.sub_self]; unfold inUnits; rw [qmin_b64, show (e - -1074).toNat = E by omega]; simpa using h)
  exact h2 ▸ this
theorem own_rr_le {s : Bool} {A B v j E : Nat} {e : Int} (hB : 0 < B) (hv : v < 2 ^ 53) (hj : j ≤ 2045) (he : e + 1074 = (E : Int)) (h : A * 2 ^ E ≤ v * 2 ^ j * B) : zmag b64 (roundRatio b64 s A B e) ≤ v * 2 ^ j := by
  obtain ⟨c, q, h1, h2⟩ := own_rr_exact (s := false) (A := v) (B := 1) (M := v) (j := j) (u := 0) (v := 0) (e := (j : Int) - 1074) (by decide) hv hj (by simp) (by omega)
  have hf : Jvm.FP.Core.fits b64 (Datum.fin false c q) := h1 ▸ roundRatio_fits good_b64 false v (by decide) _
  have := zmag_roundRatio_le good_b64 (s := s) (A := A) (B := B) (e := e) (e0 := b64.qmin) hB hf Datum.noConfusion (Int.le_refl _) (by rw [qmin_b64]; omega) (by
    show inUnits A e b64.qmin ≤ inUnits c q b64.qmin * _ * B
    rw [h2, Int.sub_self]; unfold inUnits; rw [qmin_b64, show (e - -1074).toNat = E by omega]; simpa using h)
  exact h2 ▸ this
end OwnFloat
section OwnFloat2
open Jvm.FP.Core
theorem own_neg {x : UInt64} {n : Int} {j : Nat} (hx : own_Rep x n j) : own_Rep (dneg x) (-n) j := by
  obtain ⟨⟨s, c, q, ex⟩, zx⟩ := hx
  refine ⟨⟨!s, c, q, by rw [val64_dneg, ex]; rfl⟩, ?_⟩
  rw [val64_dneg, zval_negate, zx, Int.neg_mul]
theorem own_zeroJ (j : Nat) : own_Rep 0 0 j := ⟨⟨false, 0, b64.qmin, val64_zero⟩, by rw [zval64_zero, Int.zero_mul]⟩
theorem own_abs {x : UInt64} {n : Int} {j : Nat} (hx : own_Rep x n j) : own_Rep (x &&& 0x7fffffffffffffff) ((n.natAbs : Nat) : Int) j := by
  have h := own_cmp hx (own_zeroJ j)
  rcases Int.lt_trichotomy n 0 with a | a | a
  · rw [(compare_lt_iff _ _).mpr a] at h
    rw [Jvm.FP.Core.abs_neg h, show ((n.natAbs : Nat) : Int) = -n by omega]; exact own_neg hx
  · rw [(compare_eq_iff _ _).mpr a] at h
    rw [Jvm.FP.Core.abs_zero h, a]; exact own_zeroJ j
  · rw [(compare_gt_iff _ _).mpr a] at h
    rw [Jvm.FP.Core.abs_pos h, show ((n.natAbs : Nat) : Int) = n by omega]; exact hx
theorem own_pick {x y : UInt64} {n m : Int} {j : Nat} (hx : own_Rep x n j) (hy : own_Rep y m j) : own_Rep (Jvm.Native.java_lang_Math.nans.pick64 true x y) (if n < m then m else n) j := by
  have h := own_cmp hx hy
  rcases Int.lt_trichotomy n m with a | a | a
  · rw [(compare_lt_iff _ _).mpr a] at h
    rw [if_pos a, show Jvm.Native.java_lang_Math.nans.pick64 true x y = y by unfold Jvm.Native.java_lang_Math.nans.pick64; rw [show Jvm.FP.dcmp x y = some .lt from h]; rfl]; exact hy
  · rw [if_neg (by omega)]
    rcases Jvm.Free.Fl.pick64_or true x y with z | z
    · rw [z]; exact hx
    · rw [z, a]; exact hy
  · rw [(compare_gt_iff _ _).mpr a] at h
    rw [if_neg (by omega), show Jvm.Native.java_lang_Math.nans.pick64 true x y = x by unfold Jvm.Native.java_lang_Math.nans.pick64; rw [show Jvm.FP.dcmp x y = some .gt from h]; rfl]; exact hx
/-- a number of the format as a datum -/
theorem own_datum (v : Int) (i : Nat) (hv : v.natAbs < 2 ^ 53) (hi : i ≤ 2045) : ∃ V, Jvm.FP.Core.fits b64 V ∧ V ≠ .nan ∧ zval b64 V = v * ((2 ^ i : Nat) : Int) := by
  obtain ⟨c, q, h1, h2⟩ := own_rr_exact (s := decide (v < 0)) (A := v.natAbs) (B := 1) (M := v.natAbs) (j := i) (u := 0) (v := 0) (e := (i : Int) - 1074) (by decide) hv hi (by simp) (by omega)
  refine ⟨.fin (decide (v < 0)) c q, h1 ▸ roundRatio_fits good_b64 _ _ (by decide) _, Datum.noConfusion, ?_⟩
  show signed (decide (v < 0)) (inUnits c q b64.qmin) = _
  rw [h2, signed_mul]
  congr 1
  by_cases h : v < 0
  · simp only [h, decide_true, signed, if_true]; omega
  · simp only [h, decide_false, signed, Bool.false_eq_true, if_false]; omega
theorem own_dadd_nn {x y : UInt64} {n m : Int} {j i : Nat} (hx : own_Rep x n j) (hy : own_Rep y m i) : val64 (dadd x y) ≠ .nan := by
  obtain ⟨⟨s, c, q, ex⟩, zx⟩ := hx
  obtain ⟨⟨t, d, r, ey⟩, zy⟩ := hy
  rw [val64_dadd, ex, ey]
  exact roundRatio_ne_nan _ _ _ _ _
theorem own_dadd_le {x y : UInt64} {n m v : Int} {j i : Nat} (hx : own_Rep x n j) (hy : own_Rep y m j) (hv : v.natAbs < 2 ^ 53) (hi : i ≤ 2045) (h : (n + m) * ((2 ^ j : Nat) : Int) ≤ v * ((2 ^ i : Nat) : Int)) : zval b64 (val64 (dadd x y)) ≤ v * ((2 ^ i : Nat) : Int) := by
  obtain ⟨V, h1, h2, h3⟩ := own_datum v i hv hi
  obtain ⟨⟨s, c, q, ex⟩, zx⟩ := hx
  obtain ⟨⟨t, d, r, ey⟩, zy⟩ := hy
  have fx := val64_fits x; have fy := val64_fits y
  rw [ex] at fx zx; rw [ey] at fy zy
  obtain ⟨sg, N, e, k1, k2, k3⟩ := sum_units fx fy
  rw [val64_dadd, ex, ey, k1, ← h3]
  refine zval_round_le good_b64 h1 h2 (Int.le_refl _) k2 ?_
  rw [k3, zx, zy, ← Int.add_mul, h3, Int.sub_self]
  simpa using h
theorem own_dadd_ge {x y : UInt64} {n m v : Int} {j i : Nat} (hx : own_Rep x n j) (hy : own_Rep y m j) (hv : v.natAbs < 2 ^ 53) (hi : i ≤ 2045) (h : v * ((2 ^ i : Nat) : Int) ≤ (n + m) * ((2 ^ j : Nat) : Int)) : v * ((2 ^ i : Nat) : Int) ≤ zval b64 (val64 (dadd x y)) := by
  obtain ⟨V, h1, h2, h3⟩ := own_datum v i hv hi
  obtain ⟨⟨s, c, q, ex⟩, zx⟩ := hx
  obtain ⟨⟨t, d, r, ey⟩, zy⟩ := hy
  have fx := val64_fits x; have fy := val64_fits y
  rw [ex] at fx zx; rw [ey] at fy zy
  obtain ⟨sg, N, e, k1, k2, k3⟩ := sum_units fx fy
  rw [val64_dadd, ex, ey, k1, ← h3]
  refine zval_round_ge good_b64 h1 h2 (Int.le_refl _) k2 ?_
  rw [k3, zx, zy, ← Int.add_mul, h3, Int.sub_self]
  simpa using h
theorem own_nn_of {x : UInt64} (h : val64 x ≠ .nan) : Jvm.Free.Fl.NoNaN64 x := Jvm.Free.Fl.noNaN64_no.mpr ((notNaN_iff _).mpr h)
end OwnFloat2
section OwnRound
open Jvm.FP.Core
/-! rounding of whole numbers of 2^-1074: own_R; the numbers of the format: own_F -/
def own_F (z : Int) : Prop := ∃ (m : Int) (k : Nat), m.natAbs < 2 ^ 53 ∧ z = m * ((2 ^ k : Nat) : Int)
def own_R (z : Int) : Int := zval b64 (roundRatio b64 (decide (z < 0)) z.natAbs 1 (-1074))
def own_V (x : UInt64) (z : Int) : Prop := DFin x ∧ zval b64 (val64 x) = z
theorem own_signed_abs (z : Int) : signed (decide (z < 0)) z.natAbs = z := by
  by_cases h : z < 0
  · simp only [h, decide_true, signed, if_true]; omega
  · simp only [h, decide_false, signed, Bool.false_eq_true, if_false]; omega
theorem own_V_F {x : UInt64} {z : Int} (h : own_V x z) : own_F z := by
  obtain ⟨⟨s, c, q, ex⟩, rfl⟩ := h
  have f := val64_fits x
  rw [ex] at f ⊢
  have hp : b64.p = 53 := rfl
  refine ⟨signed s c, (q - b64.qmin).toNat, by rw [natAbs_signed, ← hp]; exact f.1, ?_⟩
  show signed s (inUnits c q b64.qmin) = _
  unfold inUnits
  rw [signed_mul]
theorem own_pow_pos (j : Nat) : (0 : Int) < ((2 ^ j : Nat) : Int) := by exact_mod_cast Nat.two_pow_pos j
theorem own_F_zero : own_F 0 := ⟨0, 0, by decide, by simp⟩
theorem own_F_neg {z : Int} (h : own_F z) : own_F (-z) := by
  obtain ⟨m, k, h1, rfl⟩ := h
  exact ⟨-m, k, by omega, by rw [Int.neg_mul]⟩
/-- a multiple of 2^k that is at most 2^53 * 2^k -/
theorem own_F_of {z m : Int} {k : Nat} (h : z = m * ((2 ^ k : Nat) : Int)) (hm : m.natAbs ≤ 2 ^ 53) : own_F z := by
  by_cases e : m.natAbs < 2 ^ 53
  · exact ⟨m, k, e, h⟩
  · have hk : ((2 ^ (k + 1) : Nat) : Int) = 2 * ((2 ^ k : Nat) : Int) := by rw [Nat.pow_succ]; omega
    rcases (by omega : m < 0 ∨ 0 ≤ m) with s | s
    · exact ⟨-(2 ^ 52), k + 1, by decide, by rw [h, hk, show m = -(2 ^ 53) by omega]; omega⟩
    · exact ⟨2 ^ 52, k + 1, by decide, by rw [h, hk, show m = 2 ^ 53 by omega]; omega⟩
/-- F up to the greatest exponent -/
theorem own_F_low {z : Int} (h : own_F z) (hz : z.natAbs < 2 ^ 2097) : ∃ (m : Int) (k : Nat), m.natAbs < 2 ^ 53 ∧ k ≤ 2045 ∧ z = m * ((2 ^ k : Nat) : Int) := by
  obtain ⟨m, k, h1, h2⟩ := h
  by_cases hk : k ≤ 2045
  · exact ⟨m, k, h1, hk, h2⟩
  · obtain ⟨d, rfl⟩ : ∃ d, k = 2045 + d := ⟨k - 2045, by omega⟩
    refine ⟨m * ((2 ^ d : Nat) : Int), 2045, ?_, Nat.le_refl _, by rw [h2, Nat.pow_add, Int.natCast_mul, Int.mul_comm ((2 ^ 2045 : Nat) : Int), Int.mul_assoc]⟩
    have e : z.natAbs = (m * ((2 ^ d : Nat) : Int)).natAbs * 2 ^ 2045 := by rw [h2, own_natAbs_pow, own_natAbs_pow, Nat.pow_add, Nat.mul_comm (2 ^ 2045), Nat.mul_assoc]
    rw [e, show (2097 : Nat) = 52 + 2045 from rfl, Nat.pow_add] at hz
    have := Nat.lt_of_mul_lt_mul_right hz
    omega
theorem own_top : b64.tails * 2 ^ (b64.exps - 2) = 2 ^ 2098 := by
  rw [tails_b64, show b64.exps - 2 = 2046 by decide, ← Nat.pow_add]
theorem own_inUnits0 (A : Nat) : inUnits A (-1074) b64.qmin = A := by unfold inUnits; rw [qmin_b64]; simp
/-- below the greatest, rounding is finite -/
theorem own_R_fin (s : Bool) {A : Nat} (h : A ≤ 2 ^ 2097) : ∃ c q, roundRatio b64 s A 1 (-1074) = .fin s c q := by
  rcases roundRatio_cases b64 s A 1 (-1074) with ⟨c, q, hR⟩ | hR
  · exact ⟨c, q, hR⟩
  · exfalso
    have := own_rr_le (s := s) (A := A) (B := 1) (v := 2 ^ 52) (j := 2045) (E := 0) (e := -1074) (by decide) (by decide) (Nat.le_refl _) (by decide) (by
      rw [Nat.pow_zero, Nat.mul_one, Nat.mul_one, ← Nat.pow_add]; exact h)
    rw [hR] at this
    change b64.tails * 2 ^ (b64.exps - 2) ≤ _ at this
    rw [own_top, ← Nat.pow_add, show (2098 : Nat) = 1 + 2097 from rfl, Nat.pow_add] at this
    have := Nat.two_pow_pos 2097
    omega
theorem own_R_val (s : Bool) (z : Int) (hs : z ≠ 0 → s = decide (z < 0)) : zval b64 (roundRatio b64 s z.natAbs 1 (-1074)) = own_R z := by
  by_cases h : z = 0
  · subst h
    unfold own_R
    show zval b64 (roundRatio b64 s 0 1 (-1074)) = zval b64 (roundRatio b64 _ 0 1 (-1074))
    unfold roundRatio
    simp [zval, sgn, zmag, inUnits, signed]
  · rw [hs h]; rfl
theorem own_round_val {s : Bool} {N : Nat} {e z : Int} (he : b64.qmin ≤ e) (h : signed s (inUnits N e b64.qmin) = z) : round b64 (.fin s N e) = roundRatio b64 s z.natAbs 1 (-1074) ∧ (z ≠ 0 → s = decide (z < 0)) := by
  have h1 : inUnits N e b64.qmin = z.natAbs := by have := congrArg Int.natAbs h; rwa [natAbs_signed] at this
  rw [qmin_b64] at he
  constructor
  · show roundRatio b64 s N 1 e = _
    refine roundRatio_congr (by decide) (by decide) ?_
    rw [← h1]; unfold inUnits
    rw [qmin_b64, show (-1074 - e).toNat = 0 by omega, Nat.pow_zero, Nat.mul_one, Nat.mul_one, Nat.mul_one]
  · intro hz
    rw [h1] at h
    cases s
    · simp only [signed, Bool.false_eq_true, if_false] at h; simp; omega
    · simp only [signed, if_true] at h; simp; omega
theorem own_V_add {x y : UInt64} {a b : Int} (hx : own_V x a) (hy : own_V y b) (h : (a + b).natAbs ≤ 2 ^ 2097) : own_V (dadd x y) (own_R (a + b)) := by
  obtain ⟨⟨s, c, q, ex⟩, zx⟩ := hx
  obtain ⟨⟨t, d, r, ey⟩, zy⟩ := hy
  have fx := val64_fits x; have fy := val64_fits y
  rw [ex] at fx zx; rw [ey] at fy zy
  obtain ⟨sg, N, e, k1, k2, k3⟩ := sum_units fx fy
  rw [zx, zy] at k3
  obtain ⟨r1, r2⟩ := own_round_val k2 k3
  have hv : val64 (dadd x y) = roundRatio b64 sg (a + b).natAbs 1 (-1074) := by rw [val64_dadd, ex, ey, k1, r1]
  obtain ⟨c', q', hR⟩ := own_R_fin sg h
  exact ⟨⟨sg, c', q', hv.trans hR⟩, by rw [hv]; exact own_R_val sg _ r2⟩
theorem own_V_sub {x y : UInt64} {a b : Int} (hx : own_V x a) (hy : own_V y b) (h : (a - b).natAbs ≤ 2 ^ 2097) : own_V (dsub x y) (own_R (a - b)) := by
  obtain ⟨⟨s, c, q, ex⟩, zx⟩ := hx
  obtain ⟨⟨t, d, r, ey⟩, zy⟩ := hy
  have fx := val64_fits x; have fy := negate_fits (val64_fits y)
  have zy2 := zval_negate b64 (val64 y)
  rw [ex] at fx zx; rw [ey] at fy zy zy2
  rw [zy] at zy2
  obtain ⟨sg, N, e, k1, k2, k3⟩ := sum_units fx fy
  rw [zx, show zval b64 (.fin (!t) d r) = -b from zy2, ← Int.sub_eq_add_neg] at k3
  obtain ⟨r1, r2⟩ := own_round_val k2 k3
  have hv : val64 (dsub x y) = roundRatio b64 sg (a - b).natAbs 1 (-1074) := by rw [val64_dsub, ex, ey]; exact (congrArg (round b64) k1).trans r1
  obtain ⟨c', q', hR⟩ := own_R_fin sg h
  exact ⟨⟨sg, c', q', hv.trans hR⟩, by rw [hv]; exact own_R_val sg _ r2⟩
theorem own_R_exact {z : Int} (h : own_F z) (hz : z.natAbs < 2 ^ 2097) : own_R z = z := by
  obtain ⟨m, k, h1, h2, rfl⟩ := own_F_low h hz
  unfold own_R
  obtain ⟨c, q, r1, r2⟩ := own_rr_exact (s := decide (m * ((2 ^ k : Nat) : Int) < 0)) (A := (m * ((2 ^ k : Nat) : Int)).natAbs) (B := 1) (M := m.natAbs) (j := k) (u := 0) (v := k) (e := -1074) (by decide) h1 h2 (by rw [own_natAbs_pow]; simp) (by omega)
  rw [r1]
  show signed (decide (m * ((2 ^ k : Nat) : Int) < 0)) (inUnits c q b64.qmin) = _
  rw [r2, ← own_natAbs_pow, own_signed_abs]
theorem own_R_F (z : Int) (hz : z.natAbs ≤ 2 ^ 2097) : own_F (own_R z) := by
  obtain ⟨c, q, hR⟩ := own_R_fin (decide (z < 0)) hz
  have f := roundRatio_fits good_b64 (decide (z < 0)) z.natAbs (B := 1) (by decide) (-1074)
  unfold own_R
  rw [hR] at f ⊢
  have hp : b64.p = 53 := rfl
  refine ⟨signed (decide (z < 0)) c, (q - b64.qmin).toNat, by rw [natAbs_signed, ← hp]; exact f.1, ?_⟩
  show signed (decide (z < 0)) (inUnits c q b64.qmin) = _
  unfold inUnits
  rw [signed_mul]
/-- the rounded number is a nearest one -/
theorem own_R_near {z f : Int} (hz : z.natAbs ≤ 2 ^ 2097) (hf : own_F f) : (z - own_R z).natAbs ≤ (z - f).natAbs := by
  obtain ⟨c, q, hR⟩ := own_R_fin (decide (z < 0)) hz
  have key : ∀ (m : Nat) (k : Nat), m < 2 ^ 53 → ((z.natAbs : Int) - (inUnits c q b64.qmin : Int)).natAbs ≤ ((z.natAbs : Int) - ((m * 2 ^ k : Nat) : Int)).natAbs := by
    intro m k hm
    have hp : b64.p = 53 := rfl
    have := roundRatio_nearest good_b64 (B := 1) (e0 := b64.qmin) (c' := m) (q' := (k : Int) + b64.qmin) (by decide) hR (by rw [hp]; exact hm) (by omega) (Int.le_refl _) (by rw [qmin_b64]; decide)
    unfold distance at this
    rw [own_inUnits0] at this
    have e : inUnits m ((k : Int) + b64.qmin) b64.qmin = m * 2 ^ k := by unfold inUnits; rw [show ((k : Int) + b64.qmin - b64.qmin).toNat = k by omega]
    rw [e] at this
    simpa using this
  have hv : own_R z = signed (decide (z < 0)) (inUnits c q b64.qmin) := by unfold own_R; rw [hR]; rfl
  rw [hv]
  generalize inUnits c q b64.qmin = r at *
  obtain ⟨m, k, h1, rfl⟩ := hf
  have k0 := key 0 0 (by decide)
  have k1 := key m.natAbs k h1
  rw [← own_natAbs_pow] at k1
  generalize m * ((2 ^ k : Nat) : Int) = f at *
  by_cases h : z < 0
  · simp only [h, decide_true, signed, if_true]
    omega
  · simp only [h, decide_false, signed, Bool.false_eq_true, if_false]
    omega
theorem own_R_le {z f : Int} (hz : z.natAbs ≤ 2 ^ 2097) (hf : own_F f) (h : z ≤ f) : own_R z ≤ f := by
  have n1 := own_R_near hz hf
  rcases (by omega : f < own_R z ∨ own_R z ≤ f) with a | a
  · omega
  · exact a
theorem own_R_ge {z f : Int} (hz : z.natAbs ≤ 2 ^ 2097) (hf : own_F f) (h : f ≤ z) : f ≤ own_R z := by
  have n1 := own_R_near hz hf
  rcases (by omega : own_R z < f ∨ f ≤ own_R z) with a | a
  · omega
  · exact a
/-- what is no number of the format is rounded at a bit u: within half of 2^u -/
theorem own_R_ulp {z : Int} (hz : z.natAbs ≤ 2 ^ 2097) (hF : ¬ own_F z) : ∃ (u : Nat) (n : Int), own_R z = n * ((2 ^ u : Nat) : Int) ∧ 2 ^ 52 ≤ n.natAbs ∧ n.natAbs ≤ 2 ^ 53 ∧ 2 * (z - own_R z).natAbs ≤ 2 ^ u ∧ 1 ≤ u := by
  obtain ⟨c, q, hR⟩ := own_R_fin (decide (z < 0)) hz
  have hA : 0 < z.natAbs := by
    rcases Nat.eq_zero_or_pos z.natAbs with a | a
    · exact absurd (show own_F z by rw [show z = 0 by omega]; exact own_F_zero) hF
    · exact a
  have hv : own_R z = signed (decide (z < 0)) (inUnits c q b64.qmin) := by unfold own_R; rw [hR]; rfl
  unfold roundRatio at hR
  rw [if_neg (by omega)] at hR
  have g1 := quantum_ge b64 z.natAbs 1 (-1074)
  have g2 := nearest_units_le (f := b64) hA (B := 1) (by decide) (-1074)
  have g3 := quantum_not_below (f := b64) hA (B := 1) (by decide) (-1074)
  have g4 := quantum_below (f := b64) hA (B := 1) (by decide) (-1074)
  unfold roundAt at hR
  generalize quantum b64 z.natAbs 1 (-1074) = r at *
  have hp : b64.p = 53 := rfl
  rw [hp] at g2 g3 g4
  rw [qmin_b64] at g1 g3
  obtain ⟨u, rfl⟩ : ∃ u : Nat, r = (u : Int) - 1074 := ⟨(r + 1074).toNat, by omega⟩
  have e1 : unitsNum z.natAbs (-1074) ((u : Int) - 1074) = z.natAbs := by unfold unitsNum; rw [show (-1074 - ((u : Int) - 1074)).toNat = 0 by omega]; simp
  have e2 : unitsDen 1 (-1074) ((u : Int) - 1074) = 2 ^ u := by unfold unitsDen; rw [show ((u : Int) - 1074 - -1074).toNat = u by omega]; simp
  rw [e1, e2] at hR g2
  have hs := (settle_value good_b64 (e0 := b64.qmin) (by rw [hp]; exact g2) hR (by rw [qmin_b64]; omega)).2
  have e3 : inUnits (nearest z.natAbs (2 ^ u)) ((u : Int) - 1074) b64.qmin = nearest z.natAbs (2 ^ u) * 2 ^ u := by unfold inUnits; rw [qmin_b64, show ((u : Int) - 1074 - -1074).toNat = u by omega]
  rw [e3] at hs
  obtain ⟨n1, n2, -⟩ := nearest_spec z.natAbs (2 ^ u) (Nat.two_pow_pos u)
  have hu : 1 ≤ u := by
    rcases Nat.eq_zero_or_pos u with a | a
    · exfalso
      subst a
      apply hF
      have : z.natAbs < 2 ^ 53 := by
        rw [show ((0 : Nat) : Int) - 1074 - -1074 + ((53 : Nat) : Int) = ((53 : Nat) : Int) - ((0 : Nat) : Int) by decide, below_iff] at g4
        simpa using g4
      exact ⟨z, 0, this, by simp⟩
    · exact a
  have hlow : 2 ^ 52 ≤ nearest z.natAbs (2 ^ u) := by
    refine nearest_ge (Nat.two_pow_pos u) ?_
    rcases g3 with g3 | g3
    · omega
    · rw [show ((u : Int) - 1074 - -1074 + (((53 : Nat) : Int) - 1)) = (((52 + u : Nat)) : Int) - ((0 : Nat) : Int) by omega, below_iff] at g3
      rw [← Nat.pow_add]
      simpa using g3
  refine ⟨u, signed (decide (z < 0)) (nearest z.natAbs (2 ^ u)), by rw [hv, hs, signed_mul], by rw [natAbs_signed]; exact hlow, by rw [natAbs_signed]; exact g2, ?_, hu⟩
  rw [hv, hs]
  generalize nearest z.natAbs (2 ^ u) = n at *
  have w1 : (2 * n + 1) * 2 ^ u = 2 * (n * 2 ^ u) + 2 ^ u := by rw [Nat.add_mul, Nat.one_mul, Nat.mul_assoc]
  have w2 : 2 * n * 2 ^ u = 2 * (n * 2 ^ u) := Nat.mul_assoc ..
  rw [w1] at n1; rw [w2] at n2
  generalize n * 2 ^ u = P at *
  generalize 2 ^ u = U at *
  by_cases h : z < 0
  · simp only [h, decide_true, signed, if_true]; omega
  · simp only [h, decide_false, signed, Bool.false_eq_true, if_false]; omega
end OwnRound
section OwnExact
open Jvm.FP.Core Jvm.Op
theorem own_VR {x : UInt64} {n : Int} (h : own_Rep x n 1074) : own_V x (n * ((2 ^ 1074 : Nat) : Int)) := h
theorem own_four (m : Int) (k : Nat) : 4 * m * ((2 ^ k : Nat) : Int) = m * ((2 ^ (k + 2) : Nat) : Int) := by
  rw [Nat.pow_add, Int.natCast_mul, Int.mul_comm 4 m, Int.mul_assoc, Int.mul_comm 4]; rfl
/-- an integer near Z, and a double -/
theorem own_R_int {Z : Int} (h : Z.natAbs ≤ 2 ^ 55) : ∃ H : Int, own_R (Z * ((2 ^ 1074 : Nat) : Int)) = H * ((2 ^ 1074 : Nat) : Int) ∧ (Z - H).natAbs ≤ 2 ∧ (Z.natAbs < 2 ^ 53 → H = Z) := by
  have hU := own_pow_pos 1074
  have hz : (Z * ((2 ^ 1074 : Nat) : Int)).natAbs < 2 ^ 2097 := by
    rw [own_natAbs_pow]
    calc Z.natAbs * 2 ^ 1074 ≤ 2 ^ 55 * 2 ^ 1074 := Nat.mul_le_mul_right _ h
      _ = 2 ^ (55 + 1074) := (Nat.pow_add 2 55 1074).symm
      _ < 2 ^ 2097 := Nat.pow_lt_pow_right (by decide) (by decide)
  by_cases hF : own_F (Z * ((2 ^ 1074 : Nat) : Int))
  · exact ⟨Z, own_R_exact hF hz, by simp, fun _ => rfl⟩
  · have h53 : ¬ Z.natAbs < 2 ^ 53 := fun q => hF (own_F_of (k := 1074) rfl (by omega))
    have hn := own_R_near (f := (4 * ((Z + 2) / 4)) * ((2 ^ 1074 : Nat) : Int)) (Nat.le_of_lt hz) (own_F_of (m := (Z + 2) / 4) (k := 1074 + 2) (own_four _ _) (by omega))
    obtain ⟨u, n, e1, e2, e3, -, -⟩ := own_R_ulp (Nat.le_of_lt hz) hF
    rw [← Int.sub_mul, own_natAbs_pow] at hn
    have hn2 : (Z * ((2 ^ 1074 : Nat) : Int) - own_R (Z * ((2 ^ 1074 : Nat) : Int))).natAbs ≤ 2 * 2 ^ 1074 := Nat.le_trans hn (Nat.mul_le_mul_right _ (by omega))
    have hu : 1074 ≤ u := by
      rcases Nat.lt_or_ge u 1074 with q | q
      · exfalso
        have h1 : (own_R (Z * ((2 ^ 1074 : Nat) : Int))).natAbs ≤ 2 ^ 53 * 2 ^ 1073 := by
          rw [e1, own_natAbs_pow]
          exact Nat.mul_le_mul e3 (Nat.pow_le_pow_right (by decide) (by omega))
        have h2 : (Z * ((2 ^ 1074 : Nat) : Int)).natAbs = Z.natAbs * 2 ^ 1074 := own_natAbs_pow _ _
        have h3 : 2 ^ 53 * 2 ^ 1074 ≤ Z.natAbs * 2 ^ 1074 := Nat.mul_le_mul_right _ (by omega)
        have h4 : (2 : Nat) ^ 1074 = 2 * 2 ^ 1073 := by rw [show (1074 : Nat) = 1 + 1073 from rfl, Nat.pow_add]
        have h5 : 0 < (2 : Nat) ^ 1073 := Nat.two_pow_pos _
        have h6 : (Z * ((2 ^ 1074 : Nat) : Int)).natAbs ≤ (own_R (Z * ((2 ^ 1074 : Nat) : Int))).natAbs + (Z * ((2 ^ 1074 : Nat) : Int) - own_R (Z * ((2 ^ 1074 : Nat) : Int))).natAbs := by omega
        rw [h4] at h3 hn2 h2
        generalize (2 : Nat) ^ 1073 = P at *
        omega
      · exact q
    refine ⟨n * ((2 ^ (u - 1074) : Nat) : Int), ?_, ?_, fun q => absurd q h53⟩
    · rw [e1, Int.mul_assoc, ← Int.natCast_mul, ← Nat.pow_add, show u - 1074 + 1074 = u by omega]
    · rw [e1, show u = (u - 1074) + 1074 by omega, Nat.pow_add, Int.natCast_mul, ← Int.mul_assoc, ← Int.sub_mul, own_natAbs_pow] at hn2
      exact Nat.le_of_mul_le_mul_right hn2 (Nat.two_pow_pos _)
theorem own_big {n : Int} {b : Nat} (h : n.natAbs ≤ 2 ^ b) (hb : b ≤ 1000) : (n * ((2 ^ 1074 : Nat) : Int)).natAbs < 2 ^ 2097 := by
  rw [own_natAbs_pow]
  calc n.natAbs * 2 ^ 1074 ≤ 2 ^ b * 2 ^ 1074 := Nat.mul_le_mul_right _ h
    _ = 2 ^ (b + 1074) := (Nat.pow_add 2 b 1074).symm
    _ < 2 ^ 2097 := Nat.pow_lt_pow_right (by decide) (by omega)
/-- the two-sum of integers, the greater ahead -/
theorem own_two {x y : UInt64} {X Y : Int} (hx : own_Rep x X 1074) (hy : own_Rep y Y 1074) (hX : X.natAbs ≤ 2 ^ 55) (hY : Y.natAbs ≤ 2 ^ 55) (hb : (X + Y).natAbs ≤ 2 ^ 55) (hs : (X + Y).natAbs < 2 ^ 53 ∨ Y.natAbs ≤ 2 ^ 26) :
    ∃ H : Int, own_Rep (dadd x y) H 1074 ∧ (∃ D : Int, own_Rep (dsub (dadd x y) x) D 1074) ∧ own_Rep (dsub y (dsub (dadd x y) x)) (X + Y - H) 1074 ∧ (X + Y - H).natAbs ≤ 2 ∧ ((X + Y).natAbs < 2 ^ 53 → H = X + Y) := by
  obtain ⟨H, e1, e2, e3⟩ := own_R_int hb
  have a : own_Rep (dadd x y) H 1074 := by
    have q := own_V_add (own_VR hx) (own_VR hy) (by rw [← Int.add_mul]; exact Nat.le_of_lt (own_big hb (by decide)))
    rw [← Int.add_mul, e1] at q
    exact q
  have b : own_Rep (dsub (dadd x y) x) (H - X) 1074 := by
    by_cases c : (X + Y).natAbs < 2 ^ 53
    · have q := own_V_sub (own_VR a) (own_VR hx) (by rw [← Int.sub_mul, e3 c, show X + Y - X = Y by omega]; exact Nat.le_of_lt (own_big hY (by decide)))
      rw [← Int.sub_mul, show H - X = Y by rw [e3 c]; omega, own_R_exact (own_V_F (own_VR hy)) (own_big hY (by decide))] at q
      rw [show H - X = Y by rw [e3 c]; omega]; exact q
    · exact own_sub a hx (by omega) (by decide)
  refine ⟨H, a, ⟨_, b⟩, ?_, e2, e3⟩
  have q := own_sub hy b (by omega) (by decide)
  rw [show X + Y - H = Y - (H - X) by omega]; exact q
/-- one turn of add's loop -/
def own_hi (x y : UInt64) : UInt64 := Jvm.FP.dadd x y
def own_lo (x y : UInt64) : UInt64 := Jvm.FP.dsub y (Jvm.FP.dsub (Jvm.FP.dadd x y) x)
def own_lt (x y : UInt64) : Prop := (cmpValue (Jvm.FP.dcmp (x &&& 0x7fffffffffffffff) (y &&& 0x7fffffffffffffff)) .g) < (0 : Int32)
instance (x y : UInt64) : Decidable (own_lt x y) := inferInstanceAs (Decidable (_ < _))
def own_nz (x : UInt64) : Prop := ¬ (cmpValue (Jvm.FP.dcmp x (0 : UInt64)) .l) = (0 : Int32)
instance (x : UInt64) : Decidable (own_nz x) := inferInstanceAs (Decidable (¬ _))
def own_fst (x y : UInt64) : UInt64 := if own_lt x y then y else x
def own_snd (x y : UInt64) : UInt64 := if own_lt x y then x else y
def own_ins : List UInt64 → UInt64 → List UInt64
  | [], x => [x]
  | q :: qs, x => (if own_nz (own_lo (own_fst x q) (own_snd x q)) then [own_lo (own_fst x q) (own_snd x q)] else []) ++ own_ins qs (own_hi (own_fst x q) (own_snd x q))
def own_NN : List UInt64 → UInt64 → Prop
  | [], _ => True
  | q :: qs, x => (Jvm.Free.Fl.NoNaN64 x ∧ Jvm.Free.Fl.NoNaN64 q) ∧ Jvm.Free.Fl.NoNaN64 (Jvm.FP.dadd (own_fst x q) (own_snd x q)) ∧ Jvm.Free.Fl.NoNaN64 (Jvm.FP.dsub (Jvm.FP.dadd (own_fst x q) (own_snd x q)) (own_fst x q)) ∧ Jvm.Free.Fl.NoNaN64 (own_lo (own_fst x q) (own_snd x q)) ∧ own_NN qs (own_hi (own_fst x q) (own_snd x q))
theorem own_lt_iff {x y : UInt64} {X Y : Int} (hx : own_Rep x X 1074) (hy : own_Rep y Y 1074) : own_lt x y ↔ X.natAbs < Y.natAbs := by
  have c := own_cmp (own_abs hx) (own_abs hy)
  unfold own_lt
  rw [show Jvm.FP.dcmp (x &&& 0x7fffffffffffffff) (y &&& 0x7fffffffffffffff) = some (compare (X.natAbs : Int) (Y.natAbs : Int)) from c]
  rcases Int.lt_trichotomy (X.natAbs : Int) (Y.natAbs : Int) with h | h | h
  · rw [(compare_lt_iff _ _).mpr h]; exact ⟨fun _ => by omega, fun _ => by decide⟩
  · rw [(compare_eq_iff _ _).mpr h]; exact ⟨fun q => absurd q (by decide), fun q => by omega⟩
  · rw [(compare_gt_iff _ _).mpr h]; exact ⟨fun q => absurd q (by decide), fun q => by omega⟩
theorem own_nz_iff {x : UInt64} {X : Int} (hx : own_Rep x X 1074) : own_nz x ↔ X ≠ 0 := by
  have c := own_cmp hx (own_zeroJ 1074)
  unfold own_nz
  rw [show Jvm.FP.dcmp x (0 : UInt64) = some (compare X 0) from c]
  rcases Int.lt_trichotomy X 0 with h | h | h
  · rw [(compare_lt_iff _ _).mpr h]; exact ⟨fun _ => by omega, fun _ => by decide⟩
  · rw [(compare_eq_iff _ _).mpr h]; exact ⟨fun q => absurd rfl q, fun q => absurd h q⟩
  · rw [(compare_gt_iff _ _).mpr h]; exact ⟨fun _ => by omega, fun _ => by decide⟩
/-- one turn, of integers -/
theorem own_turn {x y : UInt64} {X Y : Int} (hx : own_Rep x X 1074) (hy : own_Rep y Y 1074) (hX : X.natAbs ≤ 2 ^ 55) (hY : Y.natAbs ≤ 2 ^ 55) (hb : (X + Y).natAbs ≤ 2 ^ 55) (hs : (X + Y).natAbs < 2 ^ 53 ∨ X.natAbs ≤ 2 ^ 26 ∨ Y.natAbs ≤ 2 ^ 26) :
    ∃ H : Int, own_Rep (own_hi (own_fst x y) (own_snd x y)) H 1074 ∧ own_Rep (own_lo (own_fst x y) (own_snd x y)) (X + Y - H) 1074 ∧ (X + Y - H).natAbs ≤ 2 ∧ ((X + Y).natAbs < 2 ^ 53 → H = X + Y) ∧
      ∀ qs, own_NN qs (own_hi (own_fst x y) (own_snd x y)) → own_NN (y :: qs) x := by
  by_cases c : own_lt x y
  · have c' := (own_lt_iff hx hy).mp c
    have e1 : own_fst x y = y := if_pos c
    have e2 : own_snd x y = x := if_pos c
    obtain ⟨H, a1, ⟨D, a2⟩, a3, a4, a5⟩ := own_two hy hx hY hX (by rw [Int.add_comm]; exact hb) (by rw [Int.add_comm]; omega)
    rw [Int.add_comm] at a3 a4 a5
    refine ⟨H, by rw [e1, e2]; exact a1, by rw [e1, e2]; exact a3, a4, a5, fun qs hq => ?_⟩
    rw [e1, e2] at hq
    show (_ ∧ _) ∧ _
    rw [e1, e2]
    exact ⟨⟨own_noNaN hx, own_noNaN hy⟩, own_noNaN a1, own_noNaN a2, own_noNaN a3, hq⟩
  · have c' : ¬ X.natAbs < Y.natAbs := fun q => c ((own_lt_iff hx hy).mpr q)
    have e1 : own_fst x y = x := if_neg c
    have e2 : own_snd x y = y := if_neg c
    obtain ⟨H, a1, ⟨D, a2⟩, a3, a4, a5⟩ := own_two hx hy hX hY hb (by omega)
    refine ⟨H, by rw [e1, e2]; exact a1, by rw [e1, e2]; exact a3, a4, a5, fun qs hq => ?_⟩
    rw [e1, e2] at hq
    show (_ ∧ _) ∧ _
    rw [e1, e2]
    exact ⟨⟨own_noNaN hx, own_noNaN hy⟩, own_noNaN a1, own_noNaN a2, own_noNaN a3, hq⟩
theorem own_or3 {a b c d : Prop} (h : a ∨ b ∨ c) (h1 : a → d) (h2 : b → d) (h3 : c → d) : d := by rcases h with q | q | q; exact h1 q; exact h2 q; exact h3 q
/-- the partials: one, or a small one and one -/
def own_P (L : List UInt64) (S : Int) : Prop := (∃ h, L = [h] ∧ own_Rep h S 1074) ∨ ∃ l h A B, L = [l, h] ∧ own_Rep l A 1074 ∧ own_Rep h B 1074 ∧ A + B = S ∧ A.natAbs ≤ 2
set_option maxHeartbeats 4000000 in
theorem own_P_add {L : List UInt64} {S X : Int} {x : UInt64} (hP : own_P L S) (hx : own_Rep x X 1074) (hX : X.natAbs ≤ 2 ^ 54) (hS : S.natAbs + 4 ≤ 2 ^ 55) (hSX : (S + X).natAbs + 4 ≤ 2 ^ 55) (hs : X.natAbs ≤ 2 ^ 25 ∨ (S + X).natAbs + 4 < 2 ^ 53 ∨ (S.natAbs ≤ 2 ^ 25 ∧ L.length = 1)) :
    own_NN L x ∧ own_P (own_ins L x) (S + X) ∧ (S.natAbs + 4 ≤ 2 ^ 26 → X.natAbs ≤ 2 ^ 26 → ∃ v, own_ins L x = [v] ∧ own_Rep v (S + X) 1074) := by
  rcases hP with ⟨h, rfl, hh⟩ | ⟨l, h, A, B, rfl, hl, hh, rfl, hA⟩
  · obtain ⟨H, a1, a2, a3, a4, a5⟩ := own_turn (X := X) (Y := S) hx hh (by omega) (by omega) (by omega) (by rcases hs with q | q | q <;> omega)
    refine ⟨a5 [] trivial, ?_, fun s1 s2 => ?_⟩
    · show own_P ((if own_nz _ then [_] else []) ++ [_]) _
      by_cases c : own_nz (own_lo (own_fst x h) (own_snd x h))
      · rw [if_pos c]
        exact Or.inr ⟨_, _, _, _, rfl, a2, a1, by omega, a3⟩
      · rw [if_neg c]
        have z : X + S - H = 0 := Decidable.byContradiction fun q => c ((own_nz_iff a2).mpr q)
        exact Or.inl ⟨_, rfl, by rw [show S + X = H by omega]; exact a1⟩
    · have z := a4 (by omega)
      refine ⟨own_hi (own_fst x h) (own_snd x h), ?_, by rw [show S + X = H by omega]; exact a1⟩
      show (if own_nz _ then [_] else []) ++ [_] = _
      rw [if_neg (fun q => (own_nz_iff a2).mp q (by omega))]; rfl
  · obtain ⟨H, a1, a2, a3, a4, a5⟩ := own_turn (X := X) (Y := A) hx hl (by omega) (by omega) (by omega) (by omega)
    obtain ⟨K, b1, b2, b3, b4, b5⟩ := own_turn (X := H) (Y := B) a1 hh (by omega) (by omega) (by omega) (own_or3 hs (fun q => by have := a4 (by omega); omega) (fun q => by omega) (fun q => absurd q.2 (by simp)))
    refine ⟨a5 _ (b5 [] trivial), ?_, fun s1 s2 => ?_⟩
    · show own_P ((if own_nz _ then [_] else []) ++ ((if own_nz _ then [_] else []) ++ [_])) _
      by_cases c : own_nz (own_lo (own_fst x l) (own_snd x l))
      · rw [if_pos c]
        have c1 := (own_nz_iff a2).mp c
        have c2 : ¬ X.natAbs ≤ 2 ^ 25 := fun q => c1 (by have := a4 (by omega); omega)
        have z : K = H + B := b4 (own_or3 hs (fun q => absurd q c2) (fun q => by omega) (fun q => absurd q.2 (by simp)))
        rw [if_neg (fun q => (own_nz_iff b2).mp q (by omega))]
        exact Or.inr ⟨_, _, _, _, rfl, a2, b1, by omega, a3⟩
      · rw [if_neg c]
        have z : X + A - H = 0 := Decidable.byContradiction fun q => c ((own_nz_iff a2).mpr q)
        by_cases c3 : own_nz (own_lo (own_fst (own_hi (own_fst x l) (own_snd x l)) h) (own_snd (own_hi (own_fst x l) (own_snd x l)) h))
        · rw [if_pos c3]
          exact Or.inr ⟨_, _, _, _, rfl, b2, b1, by omega, b3⟩
        · rw [if_neg c3]
          have z2 : H + B - K = 0 := Decidable.byContradiction fun q => c3 ((own_nz_iff b2).mpr q)
          exact Or.inl ⟨_, rfl, by rw [show A + B + X = K by omega]; exact b1⟩
    · have z := a4 (by omega)
      have z2 := b4 (by omega)
      refine ⟨own_hi (own_fst (own_hi (own_fst x l) (own_snd x l)) h) (own_snd (own_hi (own_fst x l) (own_snd x l)) h), ?_, by rw [show A + B + X = K by omega]; exact b1⟩
      show (if own_nz _ then [_] else []) ++ ((if own_nz _ then [_] else []) ++ [_]) = _
      rw [if_neg (fun q => (own_nz_iff a2).mp q (by omega)), if_neg (fun q => (own_nz_iff b2).mp q (by omega))]; rfl
end OwnExact
theorem own_nn {q x : UInt64} {qs : List UInt64} (h : own_NN (q :: qs) x) : (Jvm.Free.Fl.NoNaN64 x ∧ Jvm.Free.Fl.NoNaN64 q) ∧ Jvm.Free.Fl.NoNaN64 (Jvm.FP.dadd (own_fst x q) (own_snd x q)) ∧ Jvm.Free.Fl.NoNaN64 (Jvm.FP.dsub (Jvm.FP.dadd (own_fst x q) (own_snd x q)) (own_fst x q)) ∧ Jvm.Free.Fl.NoNaN64 (own_lo (own_fst x q) (own_snd x q)) ∧ own_NN qs (own_hi (own_fst x q) (own_snd x q)) := h
theorem own_nn' {q x hi : UInt64} {qs : List UInt64} (hhi : hi = Jvm.FP.dadd (own_fst x q) (own_snd x q)) (h : own_NN (q :: qs) x) : own_NN qs hi := by rw [hhi]; exact h.2.2.2.2
theorem own_ins_c {q x lo hi : UInt64} {qs : List UInt64} (hlo : lo = own_lo (own_fst x q) (own_snd x q)) (hhi : hi = Jvm.FP.dadd (own_fst x q) (own_snd x q)) (hc : ¬ (Jvm.Op.cmpValue (Jvm.FP.dcmp lo (0 : UInt64)) .l) = (0 : Int32)) : own_ins (q :: qs) x = lo :: own_ins qs hi := by
  subst hlo hhi
  show (if own_nz _ then [_] else []) ++ own_ins qs _ = _
  rw [if_pos (show own_nz _ from hc)]; rfl
theorem own_ins_d {q x lo hi : UInt64} {qs : List UInt64} (hlo : lo = own_lo (own_fst x q) (own_snd x q)) (hhi : hi = Jvm.FP.dadd (own_fst x q) (own_snd x q)) (hc : (Jvm.Op.cmpValue (Jvm.FP.dcmp lo (0 : UInt64)) .l) = (0 : Int32)) : own_ins (q :: qs) x = own_ins qs hi := by
  subst hlo hhi
  show (if own_nz _ then [_] else []) ++ own_ins qs _ = _
  rw [if_neg (show ¬ own_nz _ from fun q => q hc)]; rfl
def own_Res (L : List UInt64) (k : Int32) (rs : List UInt64) : Prop := k.toInt = L.length ∧ rs.take L.length = L
theorem own_res {L M rs : List UInt64} {k : Int32} (e : L = M) (h1 : k.toInt = M.length) (h2 : rs.take M.length = M) : own_Res L k rs := by subst e; exact ⟨h1, h2⟩
theorem own_qs {L rs : List UInt64} {k : Int32} (h : own_Res L k rs) (n : Nat) (hn : k.toInt = n) : L = rs.take n := by
  have e : L.length = n := by have := h.1; omega
  rw [← e]; exact h.2.symm
theorem own_k4 {L rs : List UInt64} {k : Int32} (h : own_Res L k rs) (hl : L.length ≤ 3) : k = 0 ∨ k = 1 ∨ k = 2 ∨ k = 3 := by
  have e := h.1
  have : k.toInt = 0 ∨ k.toInt = 1 ∨ k.toInt = 2 ∨ k.toInt = 3 := by omega
  rcases this with q | q | q | q
  · exact Or.inl (Int32.toInt_inj.mp (by rw [q]; decide))
  · exact Or.inr (Or.inl (Int32.toInt_inj.mp (by rw [q]; decide)))
  · exact Or.inr (Or.inr (Or.inl (Int32.toInt_inj.mp (by rw [q]; decide))))
  · exact Or.inr (Or.inr (Or.inr (Int32.toInt_inj.mp (by rw [q]; decide))))
section OwnGen
open Jvm.FP.Core Jvm.Op
/-- 2^k as an integer -/
def own_p (k : Nat) : Int := ((2 ^ k : Nat) : Int)
theorem own_p_pos (k : Nat) : 0 < own_p k := own_pow_pos k
theorem own_p_add (a b : Nat) : own_p (a + b) = own_p a * own_p b := by unfold own_p; rw [Nat.pow_add, Int.natCast_mul]
theorem own_p_succ (a : Nat) : own_p (a + 1) = 2 * own_p a := by rw [own_p_add, Int.mul_comm]; rfl
theorem own_p_dvd {a b : Nat} (h : a ≤ b) : own_p a ∣ own_p b := ⟨own_p (b - a), by rw [← own_p_add, show a + (b - a) = b by omega]⟩
theorem own_p_le {a b : Nat} (h : a ≤ b) : own_p a ≤ own_p b := by unfold own_p; exact_mod_cast Nat.pow_le_pow_right (by decide) h
theorem own_abs_p (t : Int) (k : Nat) : ((t * own_p k).natAbs : Int) = (t.natAbs : Int) * own_p k := by unfold own_p; rw [own_natAbs_pow, Int.natCast_mul]
theorem own_abs_le {t m : Int} {k : Nat} (h : (t * own_p k).natAbs ≤ (m * own_p k).natAbs) : t.natAbs ≤ m.natAbs := by
  have h1 : ((t * own_p k).natAbs : Int) ≤ ((m * own_p k).natAbs : Int) := by omega
  rw [own_abs_p, own_abs_p] at h1
  have := Int.le_of_mul_le_mul_right h1 (own_p_pos k)
  omega
theorem own_F_p {z : Int} : own_F z ↔ ∃ (m : Int) (k : Nat), m.natAbs < 2 ^ 53 ∧ z = m * own_p k := Iff.rfl
theorem own_ulp {z : Int} (hz : z.natAbs ≤ 2 ^ 2097) (hF : ¬ own_F z) : ∃ (u : Nat) (n : Int), own_R z = n * own_p u ∧ 2 ^ 52 ≤ n.natAbs ∧ n.natAbs ≤ 2 ^ 53 ∧ 2 * ((z - own_R z).natAbs : Int) ≤ own_p u ∧ ∀ c, own_p c ∣ z → c < u := by
  obtain ⟨u, n, e1, e2, e3, e4, e5⟩ := own_R_ulp hz hF
  have e4' : 2 * ((z - own_R z).natAbs : Int) ≤ own_p u := by unfold own_p; exact_mod_cast e4
  refine ⟨u, n, e1, e2, e3, e4', fun c ⟨m, hm⟩ => ?_⟩
  rcases Nat.lt_or_ge c u with q | q
  · exact q
  · exfalso
    have h1 : z = (m * own_p (c - u)) * own_p u := by rw [hm, show own_p c = own_p (c - u) * own_p u by rw [← own_p_add, show c - u + u = c by omega]]; rw [Int.mul_comm, Int.mul_assoc]
    have e1' : own_R z = n * own_p u := e1
    have h2 : ((m * own_p (c - u) - n).natAbs : Int) * own_p u * 2 ≤ own_p u := by
      rw [← own_abs_p, Int.sub_mul, ← h1, ← e1']; omega
    have hp := own_p_pos u
    have h3 : ((m * own_p (c - u) - n).natAbs : Int) = 0 := by
      rcases Nat.eq_zero_or_pos (m * own_p (c - u) - n).natAbs with w | w
      · omega
      · exfalso
        have : own_p u ≤ ((m * own_p (c - u) - n).natAbs : Int) * own_p u := by
          have := Int.mul_le_mul_of_nonneg_right (show (1 : Int) ≤ ((m * own_p (c - u) - n).natAbs : Int) by omega) (Int.le_of_lt hp)
          omega
        omega
    have h4 : m * own_p (c - u) = n := by omega
    exact hF (own_F_of (k := u) (m := n) (by rw [← h4]; exact h1) e3)
/-- Dekker: what the fast two-sum computes is exact -/
theorem own_dekker {a b : Int} (ha : own_F a) (hb : own_F b) (hab : b.natAbs ≤ a.natAbs) (hz : (a + b).natAbs ≤ 2 ^ 2097) : own_F (a + b - own_R (a + b)) ∧ own_F (own_R (a + b) - a) := by
  by_cases hF : own_F (a + b)
  · have e : own_R (a + b) = a + b ∨ True := Or.inr trivial
    have hn := own_R_near hz hF
    have e1 : own_R (a + b) = a + b := by omega
    rw [e1]
    exact ⟨by rw [Int.sub_self]; exact own_F_zero, by rw [show a + b - a = b by omega]; exact hb⟩
  · obtain ⟨u, n, e1, e2, e3, e4, e5⟩ := own_ulp hz hF
    have hn := own_R_near hz ha
    have ha' := ha
    obtain ⟨ma, ka, a1, a2⟩ := own_F_p.mp ha
    obtain ⟨mb, kb, b1, b2⟩ := own_F_p.mp hb
    have da : own_p ka ∣ a := ⟨ma, by rw [a2, Int.mul_comm]⟩
    have db : own_p kb ∣ b := ⟨mb, by rw [b2, Int.mul_comm]⟩
    have du : own_p u ∣ own_R (a + b) := ⟨n, by rw [e1, Int.mul_comm]⟩
    have hk : ∀ k, k ≤ ka → k ≤ kb → own_p k ∣ (a + b - own_R (a + b)) ∧ k < u := fun k h1 h2 => by
      have d := Int.dvd_add (Int.dvd_trans (own_p_dvd h1) da) (Int.dvd_trans (own_p_dvd h2) db)
      have hu := e5 k d
      exact ⟨Int.dvd_sub d (Int.dvd_trans (own_p_dvd (Nat.le_of_lt hu)) du), hu⟩
    constructor
    · rcases Nat.le_total ka kb with q | q
      · obtain ⟨⟨t, ht⟩, -⟩ := hk ka (Nat.le_refl _) q
        have ht' : a + b - own_R (a + b) = t * own_p ka := by rw [ht, Int.mul_comm]
        have := own_abs_le (t := t) (m := ma) (k := ka) (by rw [← ht', ← a2]; omega)
        exact own_F_of (k := ka) (m := t) ht' (by omega)
      · obtain ⟨⟨t, ht⟩, -⟩ := hk kb q (Nat.le_refl _)
        have ht' : a + b - own_R (a + b) = t * own_p kb := by rw [ht, Int.mul_comm]
        have := own_abs_le (t := t) (m := mb) (k := kb) (by rw [← ht', ← b2]; omega)
        exact own_F_of (k := kb) (m := t) ht' (by omega)
    · rcases Nat.lt_or_ge ka u with q | q
      · obtain ⟨t, ht⟩ := Int.dvd_sub (Int.dvd_trans (own_p_dvd (Nat.le_of_lt q)) du) da
        have ht' : own_R (a + b) - a = t * own_p ka := by rw [ht, Int.mul_comm]
        have h2a : own_F (2 * a) := ⟨ma, ka + 1, a1, by rw [a2]; show 2 * (ma * own_p ka) = ma * own_p (ka + 1); rw [own_p_succ, ← Int.mul_assoc, Int.mul_comm 2 ma, Int.mul_assoc]⟩
        have hle : (own_R (a + b) - a).natAbs ≤ a.natAbs := by
          rcases Int.le_total 0 a with s | s
          · have h1 := own_R_ge hz own_F_zero (by omega)
            have h2 := own_R_le hz h2a (by omega)
            omega
          · have h1 := own_R_le hz own_F_zero (by omega)
            have h2 := own_R_ge hz h2a (by omega)
            omega
        have := own_abs_le (t := t) (m := ma) (k := ka) (by rw [← ht', ← a2]; exact hle)
        exact own_F_of (k := ka) (m := t) ht' (by omega)
      · have hkb : kb < u := by
          rcases Nat.lt_or_ge kb u with w | w
          · exact w
          · exact absurd (hk u q w).2 (Nat.lt_irrefl _)
        obtain ⟨t, ht⟩ := Int.dvd_sub du (Int.dvd_trans (own_p_dvd q) da)
        have ht' : own_R (a + b) - a = t * own_p u := by rw [ht, Int.mul_comm]
        have h1 : (b.natAbs : Int) = (mb.natAbs : Int) * own_p kb := by rw [b2, own_abs_p]
        have h2 : own_p kb * 2 ≤ own_p u := by have := own_p_le (show kb + 1 ≤ u by omega); rw [own_p_succ] at this; omega
        have h3 : (b.natAbs : Int) * 2 ≤ 9007199254740992 * own_p u := by
          have x1 := Int.mul_le_mul_of_nonneg_left h2 (show (0 : Int) ≤ (mb.natAbs : Int) by omega)
          have x2 := Int.mul_le_mul_of_nonneg_right (show (mb.natAbs : Int) ≤ 9007199254740992 by omega) (Int.le_of_lt (own_p_pos u))
          rw [h1, Int.mul_assoc]
          omega
        have h4 : ((own_R (a + b) - a).natAbs : Int) = (t.natAbs : Int) * own_p u := by rw [ht', own_abs_p]
        have h5 : (t.natAbs : Int) * own_p u * 2 ≤ 9007199254740993 * own_p u := by rw [← h4]; omega
        have h6 : (t.natAbs : Int) * 2 ≤ 9007199254740993 := by
          have : (t.natAbs : Int) * 2 * own_p u ≤ 9007199254740993 * own_p u := by rw [Int.mul_assoc, Int.mul_comm 2, ← Int.mul_assoc]; exact h5
          exact Int.le_of_mul_le_mul_right this (own_p_pos u)
        exact own_F_of (k := u) (m := t) ht' (by omega)
theorem own_F_pow (k : Nat) : own_F (own_p k) := ⟨1, k, by decide, (Int.one_mul _).symm⟩
theorem own_R_bd {z : Int} {k : Nat} (h : (z.natAbs : Int) ≤ own_p k) (hk : k ≤ 2097) : ((own_R z).natAbs : Int) ≤ own_p k := by
  have hz : z.natAbs ≤ 2 ^ 2097 := by
    have h1 := own_p_le hk
    have h2 : (z.natAbs : Int) ≤ own_p 2097 := Int.le_trans h h1
    unfold own_p at h2
    exact_mod_cast h2
  have h1 := own_R_le hz (own_F_pow k) (by omega)
  have h2 := own_R_ge hz (own_F_neg (own_F_pow k)) (by omega)
  omega
theorem own_nb {z : Int} {k : Nat} (h : (z.natAbs : Int) ≤ own_p k) (hk : k < 2097) : z.natAbs < 2 ^ 2097 := by
  have h1 := own_p_le (show k ≤ 2096 by omega)
  have h2 : (z.natAbs : Int) ≤ own_p 2096 := Int.le_trans h h1
  unfold own_p at h2
  have h3 : z.natAbs ≤ 2 ^ 2096 := by exact_mod_cast h2
  exact Nat.lt_of_le_of_lt h3 (Nat.pow_lt_pow_right (by decide) (by decide))
/-- the fast two-sum -/
theorem own_two_g {x y : UInt64} {a b : Int} {k : Nat} (hx : own_V x a) (hy : own_V y b) (hab : b.natAbs ≤ a.natAbs ∨ a = 0) (ha : (a.natAbs : Int) ≤ own_p k) (hb : (b.natAbs : Int) ≤ own_p k) (hk : k ≤ 2000) :
    own_V (dadd x y) (own_R (a + b)) ∧ own_V (dsub (dadd x y) x) (own_R (a + b) - a) ∧ own_V (dsub y (dsub (dadd x y) x)) (a + b - own_R (a + b)) := by
  have hz : ((a + b).natAbs : Int) ≤ own_p (k + 1) := by rw [own_p_succ]; omega
  have hz' := own_nb hz (by omega)
  have hR := own_R_bd hz (by omega)
  obtain ⟨d1, d2⟩ : own_F (a + b - own_R (a + b)) ∧ own_F (own_R (a + b) - a) := by
    rcases hab with q | q
    · exact own_dekker (own_V_F hx) (own_V_F hy) q (Nat.le_of_lt hz')
    · have e : own_R (a + b) = a + b := own_R_exact (by rw [q, Int.zero_add]; exact own_V_F hy) hz'
      rw [e]
      exact ⟨by rw [Int.sub_self]; exact own_F_zero, by rw [show a + b - a = b by omega]; exact own_V_F hy⟩
  have s1 := own_V_add hx hy (Nat.le_of_lt hz')
  have b2 : ((own_R (a + b) - a).natAbs : Int) ≤ own_p (k + 2) := by rw [show k + 2 = (k + 1) + 1 from rfl, own_p_succ]; rw [own_p_succ] at hR ⊢; omega
  have s2 := own_V_sub s1 hx (Nat.le_of_lt (own_nb b2 (by omega)))
  rw [own_R_exact d2 (own_nb b2 (by omega))] at s2
  have e3 : b - (own_R (a + b) - a) = a + b - own_R (a + b) := by omega
  have b3 : ((a + b - own_R (a + b)).natAbs : Int) ≤ own_p (k + 2) := by rw [show k + 2 = (k + 1) + 1 from rfl, own_p_succ]; omega
  have s3 := own_V_sub hy s2 (by rw [e3]; exact Nat.le_of_lt (own_nb b3 (by omega)))
  rw [e3, own_R_exact d1 (own_nb b3 (by omega))] at s3
  exact ⟨s1, s2, s3⟩
theorem own_V_nn {x : UInt64} {a : Int} (h : own_V x a) : Jvm.Free.Fl.NoNaN64 x := (Jvm.Free.Fl.fin64_core.mpr h.1).noNaN
theorem own_V_rep {x : UInt64} {a : Int} (h : own_V x a) : own_Rep x a 0 := ⟨h.1, by rw [h.2]; exact (Int.mul_one a).symm⟩
theorem own_ltV {x y : UInt64} {a b : Int} (hx : own_V x a) (hy : own_V y b) : own_lt x y ↔ a.natAbs < b.natAbs := by
  have c := own_cmp (own_abs (own_V_rep hx)) (own_abs (own_V_rep hy))
  unfold own_lt
  rw [show Jvm.FP.dcmp (x &&& 0x7fffffffffffffff) (y &&& 0x7fffffffffffffff) = some (compare (a.natAbs : Int) (b.natAbs : Int)) from c]
  rcases Int.lt_trichotomy (a.natAbs : Int) (b.natAbs : Int) with h | h | h
  · rw [(compare_lt_iff _ _).mpr h]; exact ⟨fun _ => by omega, fun _ => by decide⟩
  · rw [(compare_eq_iff _ _).mpr h]; exact ⟨fun q => absurd q (by decide), fun q => by omega⟩
  · rw [(compare_gt_iff _ _).mpr h]; exact ⟨fun q => absurd q (by decide), fun q => by omega⟩
theorem own_nzV {x : UInt64} {a : Int} (hx : own_V x a) : own_nz x ↔ a ≠ 0 := by
  have c := own_cmp (own_V_rep hx) (own_zeroJ 0)
  unfold own_nz
  rw [show Jvm.FP.dcmp x (0 : UInt64) = some (compare a 0) from c]
  rcases Int.lt_trichotomy a 0 with h | h | h
  · rw [(compare_lt_iff _ _).mpr h]; exact ⟨fun _ => by omega, fun _ => by decide⟩
  · rw [(compare_eq_iff _ _).mpr h]; exact ⟨fun q => absurd rfl q, fun q => absurd h q⟩
  · rw [(compare_gt_iff _ _).mpr h]; exact ⟨fun _ => by omega, fun _ => by decide⟩
/-- one turn of add's loop -/
theorem own_turn_g {x y : UInt64} {a b : Int} {k : Nat} (hx : own_V x a) (hy : own_V y b) (ha : (a.natAbs : Int) ≤ own_p k) (hb : (b.natAbs : Int) ≤ own_p k) (hk : k ≤ 2000) :
    own_V (own_hi (own_fst x y) (own_snd x y)) (own_R (a + b)) ∧ own_V (own_lo (own_fst x y) (own_snd x y)) (a + b - own_R (a + b)) ∧ ∀ qs, own_NN qs (own_hi (own_fst x y) (own_snd x y)) → own_NN (y :: qs) x := by
  by_cases c : own_lt x y
  · have c' := (own_ltV hx hy).mp c
    have e1 : own_fst x y = y := if_pos c
    have e2 : own_snd x y = x := if_pos c
    obtain ⟨a1, a2, a3⟩ := own_two_g hy hx (Or.inl (by omega)) hb ha hk
    rw [Int.add_comm] at a1 a3
    refine ⟨by rw [e1, e2]; exact a1, by rw [e1, e2]; exact a3, fun qs hq => ?_⟩
    rw [e1, e2] at hq
    show (_ ∧ _) ∧ _
    rw [e1, e2]
    exact ⟨⟨own_V_nn hx, own_V_nn hy⟩, own_V_nn a1, own_V_nn a2, own_V_nn a3, hq⟩
  · have c' : ¬ a.natAbs < b.natAbs := fun q => c ((own_ltV hx hy).mpr q)
    have e1 : own_fst x y = x := if_neg c
    have e2 : own_snd x y = y := if_neg c
    obtain ⟨a1, a2, a3⟩ := own_two_g hx hy (Or.inl (by omega)) ha hb hk
    refine ⟨by rw [e1, e2]; exact a1, by rw [e1, e2]; exact a3, fun qs hq => ?_⟩
    rw [e1, e2] at hq
    show (_ ∧ _) ∧ _
    rw [e1, e2]
    exact ⟨⟨own_V_nn hx, own_V_nn hy⟩, own_V_nn a1, own_V_nn a2, own_V_nn a3, hq⟩
/-- partials that do not overlap: s bounds those ahead, S is their sum, k bounds each -/
def own_NO (k : Nat) : Int → List UInt64 → Int → Prop
  | _, [], S => S = 0
  | s, x :: L, S => ∃ z : Int, own_V x z ∧ (z.natAbs : Int) ≤ own_p k ∧ (∃ b, own_p b ∣ z ∧ s < own_p b) ∧ (L ≠ [] → z ≠ 0) ∧ own_NO k (s + z.natAbs) L (S - z)
theorem own_min {s z1 z2 : Int} {b w : Nat} (h1 : own_p b ∣ z1) (h2 : s < own_p b) (h3 : own_p w ∣ z2) (h4 : s < own_p w) : ∃ c, own_p c ∣ z1 ∧ own_p c ∣ z2 ∧ s < own_p c := by
  rcases Nat.le_total b w with q | q
  · exact ⟨b, h1, Int.dvd_trans (own_p_dvd q) h3, h2⟩
  · exact ⟨w, Int.dvd_trans (own_p_dvd q) h1, h3, h4⟩
theorem own_ins_NO (k : Nat) : ∀ (L : List UInt64) (kq : Nat) (s s' S a : Int) (x : UInt64), own_NO k s L S → own_V x a → (a.natAbs : Int) ≤ own_p kq → k ≤ kq → kq + L.length ≤ 2000 → 0 ≤ s' → s' ≤ s → (∃ w, own_p w ∣ a ∧ s' < own_p w) →
    own_NN L x ∧ own_NO (kq + L.length) s' (own_ins L x) (S + a) ∧ own_ins L x ≠ []
  | [], kq, s, s', S, a, x, hN, hx, ha, hk, hl, h0, hs, hw => by
    refine ⟨trivial, ⟨a, hx, ha, hw, fun q => absurd rfl q, ?_⟩, by simp [own_ins]⟩
    have e : S = 0 := hN
    show S + a - a = 0
    omega
  | q :: L, kq, s, s', S, a, x, hN, hx, ha, hk, hl, h0, hs, ⟨w, hw1, hw2⟩ => by
    obtain ⟨p, hp, hpb, ⟨b, hb1, hb2⟩, -, hrest⟩ := hN
    have hpb' : (p.natAbs : Int) ≤ own_p kq := Int.le_trans hpb (own_p_le hk)
    have hl' : kq + (L.length + 1) ≤ 2000 := hl
    obtain ⟨t1, t2, t3⟩ := own_turn_g hx hp ha hpb' (by omega)
    have hz : ((a + p).natAbs : Int) ≤ own_p (kq + 1) := by rw [own_p_succ]; omega
    have hz' := Nat.le_of_lt (own_nb hz (by omega))
    have hR := own_R_bd hz (by omega)
    have hnear := own_R_near hz' (own_V_F hx)
    obtain ⟨c, c1, c2, c3⟩ := own_min hb1 (show s' < own_p b by omega) hw1 hw2
    have cz : own_p c ∣ a + p := Int.dvd_add c2 c1
    have ek : kq + (L.length + 1) = kq + 1 + L.length := by omega
    by_cases hF : own_F (a + p)
    · have e : own_R (a + p) = a + p := own_R_exact hF (own_nb hz (by omega))
      have z0 : ¬ own_nz (own_lo (own_fst x q) (own_snd x q)) := fun h => (own_nzV t2).mp h (by rw [e]; omega)
      obtain ⟨i1, i2, i3⟩ := own_ins_NO k L (kq + 1) (s + p.natAbs) s' (S - p) (own_R (a + p)) _ hrest t1 hR (by omega) (by omega) h0 (by omega) ⟨c, by rw [e]; exact cz, c3⟩
      have el : own_ins (q :: L) x = own_ins L (own_hi (own_fst x q) (own_snd x q)) := by show (if own_nz _ then [_] else []) ++ own_ins L _ = _; rw [if_neg z0]; rfl
      rw [el]
      refine ⟨t3 L i1, ?_, i3⟩
      rw [show S + a = S - p + own_R (a + p) by rw [e]; omega]
      show own_NO (kq + (L.length + 1)) _ _ _
      rw [ek]; exact i2
    · obtain ⟨u, n, e1, e2, e3, e4, e5⟩ := own_ulp hz' hF
      have cu := e5 c cz
      have ne : a + p - own_R (a + p) ≠ 0 := fun h => hF (by rw [show a + p = own_R (a + p) by omega]; exact own_R_F _ hz')
      have du : own_p u ∣ own_R (a + p) := ⟨n, by rw [e1, Int.mul_comm]⟩
      have dl : own_p c ∣ a + p - own_R (a + p) := Int.dvd_sub cz (Int.dvd_trans (own_p_dvd (Nat.le_of_lt cu)) du)
      have h2 : own_p c * 2 ≤ own_p u := by have := own_p_le (show c + 1 ≤ u by omega); rw [own_p_succ] at this; omega
      have hlp : (a + p - own_R (a + p)).natAbs ≤ p.natAbs := by omega
      obtain ⟨i1, i2, i3⟩ := own_ins_NO k L (kq + 1) (s + p.natAbs) (s' + (a + p - own_R (a + p)).natAbs) (S - p) (own_R (a + p)) _ hrest t1 hR (by omega) (by omega) (by omega) (by omega) ⟨u, du, by omega⟩
      have el : own_ins (q :: L) x = own_lo (own_fst x q) (own_snd x q) :: own_ins L (own_hi (own_fst x q) (own_snd x q)) := by show (if own_nz _ then [_] else []) ++ own_ins L _ = _; rw [if_pos ((own_nzV t2).mpr ne)]; rfl
      rw [el]
      refine ⟨t3 L i1, ?_, by simp⟩
      show own_NO (kq + (L.length + 1)) _ _ _
      rw [ek]
      refine ⟨_, t2, ?_, ⟨c, dl, c3⟩, fun _ => ne, ?_⟩
      · have := own_p_le (show k ≤ kq + 1 + L.length by omega); omega
      · rw [show S + a - (a + p - own_R (a + p)) = S - p + own_R (a + p) by omega]; exact i2
end OwnGen
section OwnVal
open Jvm.FP.Core Jvm.Op
def own_ng (x : UInt64) : Prop := (cmpValue (Jvm.FP.dcmp x (0 : UInt64)) .g) < (0 : Int32)
instance (x : UInt64) : Decidable (own_ng x) := inferInstanceAs (Decidable (_ < _))
def own_ps (x : UInt64) : Prop := (0 : Int32) < (cmpValue (Jvm.FP.dcmp x (0 : UInt64)) .l)
instance (x : UInt64) : Decidable (own_ps x) := inferInstanceAs (Decidable (_ < _))
def own_te (x y : UInt64) : Prop := (cmpValue (Jvm.FP.dcmp x y) .l) = (0 : Int32)
instance (x y : UInt64) : Decidable (own_te x y) := inferInstanceAs (Decidable (_ = _))
def own_vfin (h l p : UInt64) : UInt64 := if (own_ng l ∧ own_ng p) ∨ (own_ps l ∧ own_ps p) then (if own_te (Jvm.FP.dmul l 4611686018427387904) (Jvm.FP.dsub (Jvm.FP.dadd h (Jvm.FP.dmul l 4611686018427387904)) h) then Jvm.FP.dadd h (Jvm.FP.dmul l 4611686018427387904) else h) else h
def own_val : List UInt64 → UInt64 → UInt64
  | [], hi => hi
  | y :: r, hi => if own_nz (own_lo hi y) then (match r with | [] => own_hi hi y | p :: _ => own_vfin (own_hi hi y) (own_lo hi y) p) else own_val r (own_hi hi y)
def own_value (L : List UInt64) : UInt64 := match L.reverse with | [] => 0 | x :: ys => own_val ys x
def own_FN (h l : UInt64) : Prop := Jvm.Free.Fl.NoNaN64 (Jvm.FP.dmul l 4611686018427387904) ∧ Jvm.Free.Fl.NoNaN64 (Jvm.FP.dadd h (Jvm.FP.dmul l 4611686018427387904)) ∧ Jvm.Free.Fl.NoNaN64 (Jvm.FP.dsub (Jvm.FP.dadd h (Jvm.FP.dmul l 4611686018427387904)) h)
def own_VN : List UInt64 → UInt64 → Prop
  | [], _ => True
  | y :: r, hi => Jvm.Free.Fl.NoNaN64 (Jvm.FP.dadd hi y) ∧ Jvm.Free.Fl.NoNaN64 (Jvm.FP.dsub (Jvm.FP.dadd hi y) hi) ∧ Jvm.Free.Fl.NoNaN64 (own_lo hi y) ∧ (own_nz (own_lo hi y) → r ≠ [] → own_FN (own_hi hi y) (own_lo hi y)) ∧ (¬ own_nz (own_lo hi y) → own_VN r (own_hi hi y))
def own_VN0 (L : List UInt64) : Prop := match L.reverse with | [] => True | x :: ys => own_VN ys x
theorem own_ngV {x : UInt64} {a : Int} (hx : own_V x a) : own_ng x ↔ a < 0 := by
  have c := own_cmp (own_V_rep hx) (own_zeroJ 0)
  unfold own_ng
  rw [show Jvm.FP.dcmp x (0 : UInt64) = some (compare a 0) from c]
  rcases Int.lt_trichotomy a 0 with h | h | h
  · rw [(compare_lt_iff _ _).mpr h]; exact ⟨fun _ => h, fun _ => by decide⟩
  · rw [(compare_eq_iff _ _).mpr h]; exact ⟨fun q => absurd q (by decide), fun q => by omega⟩
  · rw [(compare_gt_iff _ _).mpr h]; exact ⟨fun q => absurd q (by decide), fun q => by omega⟩
theorem own_psV {x : UInt64} {a : Int} (hx : own_V x a) : own_ps x ↔ 0 < a := by
  have c := own_cmp (own_V_rep hx) (own_zeroJ 0)
  unfold own_ps
  rw [show Jvm.FP.dcmp x (0 : UInt64) = some (compare a 0) from c]
  rcases Int.lt_trichotomy a 0 with h | h | h
  · rw [(compare_lt_iff _ _).mpr h]; exact ⟨fun q => absurd q (by decide), fun q => by omega⟩
  · rw [(compare_eq_iff _ _).mpr h]; exact ⟨fun q => absurd q (by decide), fun q => by omega⟩
  · rw [(compare_gt_iff _ _).mpr h]; exact ⟨fun _ => h, fun _ => by decide⟩
theorem own_teV {x y : UInt64} {a b : Int} (hx : own_V x a) (hy : own_V y b) : own_te x y ↔ a = b := by
  have c := own_cmp (own_V_rep hx) (own_V_rep hy)
  unfold own_te
  rw [show Jvm.FP.dcmp x y = some (compare a b) from c]
  rcases Int.lt_trichotomy a b with h | h | h
  · rw [(compare_lt_iff _ _).mpr h]; exact ⟨fun q => absurd q (by decide), fun q => by omega⟩
  · rw [(compare_eq_iff _ _).mpr h]; exact ⟨fun _ => h, fun _ => by decide⟩
  · rw [(compare_gt_iff _ _).mpr h]; exact ⟨fun q => absurd q (by decide), fun q => by omega⟩
/-- the next number of the format -/
theorem own_next {g N : Int} {v : Nat} (hg : own_F g) (h : N * own_p v < g) (hN : 4503599627370496 ≤ N ∨ N < -4503599627370496) : N * own_p v + own_p v ≤ g := by
  obtain ⟨m, k, h1, h2⟩ := own_F_p.mp hg
  have hv := own_p_pos v
  rcases Nat.lt_or_ge k v with q | q
  · have e : own_p k * 2 ≤ own_p v := by have := own_p_le (show k + 1 ≤ v by omega); rw [own_p_succ] at this; omega
    have hb : (g.natAbs : Int) * 2 ≤ 9007199254740991 * own_p v := by
      have e1 : (g.natAbs : Int) = (m.natAbs : Int) * own_p k := by rw [h2, own_abs_p]
      have x1 := Int.mul_le_mul_of_nonneg_left e (show (0 : Int) ≤ (m.natAbs : Int) by omega)
      have x2 := Int.mul_le_mul_of_nonneg_right (show (m.natAbs : Int) ≤ 9007199254740991 by omega) (Int.le_of_lt hv)
      rw [e1, Int.mul_assoc]
      omega
    rcases hN with w | w
    · have := Int.mul_le_mul_of_nonneg_right w (Int.le_of_lt hv); omega
    · have := Int.mul_le_mul_of_nonneg_right (show N + 1 ≤ -4503599627370496 by omega) (Int.le_of_lt hv)
      rw [Int.add_mul, Int.one_mul] at this; omega
  · obtain ⟨t, ht⟩ : own_p v ∣ g := Int.dvd_trans (own_p_dvd q) ⟨m, by rw [h2, Int.mul_comm]⟩
    rw [Int.mul_comm] at ht
    have h3 : N < t := by rw [ht] at h; exact Int.lt_of_mul_lt_mul_right h (Int.le_of_lt hv)
    have := Int.mul_le_mul_of_nonneg_right (show N + 1 ≤ t by omega) (Int.le_of_lt hv)
    rw [Int.add_mul, Int.one_mul] at this; omega
/-- beyond the half-way point that is none: no other number is nearer -/
theorem own_core {h l r f n : Int} {c u : Nat} (hh : h = n * own_p u) (n1 : 2 ^ 52 ≤ n.natAbs) (n2 : n.natAbs ≤ 2 ^ 53) (l0 : 0 < l) (l1 : 2 * l ≤ own_p u) (hc : own_p c ∣ l) (r0 : 0 < r) (r1 : r < own_p c) (hf : own_F f) (hnF : ¬ own_F (h + 2 * l))
    (hnear : ∀ g, own_F g → l.natAbs ≤ (h + l - g).natAbs) (hd : (h + l + r - f).natAbs ≤ (l + r).natAbs) : f = h := by
  have hu := own_p_pos u
  obtain ⟨u', e1, e2, e3⟩ : ∃ u', 2 * l ≤ own_p u' ∧ (h < f → h + own_p u' ≤ f) ∧ (2 * l = own_p u' → h < f → h + 2 * own_p u' ≤ f) := by
    rcases (by omega : (4503599627370496 ≤ n ∧ n < 9007199254740992) ∨ n = 9007199254740992 ∨ n < -4503599627370496 ∨ n = -4503599627370496) with ⟨w1, w2⟩ | w | w | w
    · refine ⟨u, l1, fun q => ?_, fun w q => absurd ?_ hnF⟩
      · rw [hh] at q ⊢; exact own_next hf q (Or.inl w1)
      · exact own_F_of (k := u) (m := n + 1) (by show h + 2 * l = (n + 1) * own_p u; rw [Int.add_mul, Int.one_mul, ← hh, w]) (by omega)
    · refine ⟨u, l1, fun q => ?_, fun _ q => ?_⟩
      · rw [hh] at q ⊢; exact own_next hf q (Or.inl (by omega))
      · have h' : h = 4503599627370496 * own_p (u + 1) := by rw [hh, own_p_succ, w]; omega
        have := own_next hf (N := 4503599627370496) (v := u + 1) (by rw [← h']; exact q) (Or.inl (by decide))
        rw [← h', own_p_succ] at this; exact this
    · refine ⟨u, l1, fun q => ?_, fun w q => absurd ?_ hnF⟩
      · rw [hh] at q ⊢; exact own_next hf q (Or.inr w)
      · exact own_F_of (k := u) (m := n + 1) (by show h + 2 * l = (n + 1) * own_p u; rw [Int.add_mul, Int.one_mul, ← hh, w]) (by omega)
    · obtain ⟨v, rfl⟩ : ∃ v, u = v + 1 := by
        rcases u with _ | v
        · have e0 : own_p 0 = 1 := rfl
          rw [e0] at l1; omega
        · exact ⟨v, rfl⟩
      have hv := own_p_pos v
      have h' : h = -9007199254740992 * own_p v := by rw [hh, own_p_succ, w]; omega
      have hn := hnear (h + own_p v) (own_F_of (k := v) (m := -9007199254740991) (by show h + own_p v = -9007199254740991 * own_p v; rw [h']; omega) (by decide))
      rw [own_p_succ] at l1
      refine ⟨v, by omega, fun q => ?_, fun w q => absurd ?_ hnF⟩
      · rw [h'] at q ⊢; exact own_next hf q (Or.inr (by decide))
      · exact own_F_of (k := v) (m := -9007199254740991) (by show h + 2 * l = -9007199254740991 * own_p v; rw [h']; omega) (by decide)
  rcases (by omega : f = h ∨ h < f) with q | q
  · exact q
  · exfalso
    have a1 := e2 q
    have pc : own_p c ≤ l := Int.le_of_dvd l0 hc
    have cu : c + 1 ≤ u' := by
      rcases Nat.lt_or_ge c u' with w | w
      · exact w
      · have := own_p_le w; omega
    rcases (by omega : 2 * l = own_p u' ∨ 2 * l < own_p u') with w | w
    · have := e3 w q; omega
    · obtain ⟨v, rfl⟩ : ∃ v, u' = v + 1 := ⟨u' - 1, by omega⟩
      rw [own_p_succ] at w a1
      have d : own_p c ∣ own_p v - l := Int.dvd_sub (own_p_dvd (by omega)) hc
      have := Int.le_of_dvd (by omega) d
      omega
theorem own_core' {h l r f n : Int} {c u : Nat} (hh : h = n * own_p u) (n1 : 2 ^ 52 ≤ n.natAbs) (n2 : n.natAbs ≤ 2 ^ 53) (l1 : 2 * (l.natAbs : Int) ≤ own_p u) (hc : own_p c ∣ l) (hs : (0 < l ∧ 0 < r) ∨ (l < 0 ∧ r < 0)) (r1 : (r.natAbs : Int) < own_p c) (hf : own_F f) (hnF : ¬ own_F (h + 2 * l))
    (hnear : ∀ g, own_F g → l.natAbs ≤ (h + l - g).natAbs) (hd : (h + l + r - f).natAbs ≤ (l + r).natAbs) : f = h := by
  rcases hs with ⟨s1, s2⟩ | ⟨s1, s2⟩
  · exact own_core hh n1 n2 s1 (by omega) hc s2 (by omega) hf hnF hnear hd
  · have := own_core (h := -h) (l := -l) (r := -r) (f := -f) (n := -n) (c := c) (u := u) (by rw [hh, Int.neg_mul]) (by omega) (by omega) (by omega) (by omega) (Int.dvd_neg.mpr hc) (by omega) (by omega) (own_F_neg hf)
      (fun q => hnF (by have := own_F_neg q; rwa [show -(-h + 2 * -l) = h + 2 * l by omega] at this)) (fun g hg => by have := hnear (-g) (own_F_neg hg); omega) (by omega)
    omega
theorem own_repTwo : own_Rep 4611686018427387904 1 1075 := by
  have h := own_i2d 2
  rw [show i2d 2 = 4611686018427387904 by decide +kernel] at h
  refine ⟨h.1, ?_⟩
  rw [h.2]
  show (2 : Int) * own_p 1074 = 1 * own_p (1074 + 1)
  rw [own_p_succ 1074, Int.one_mul]
theorem own_twice {x : UInt64} {a : Int} {k : Nat} (hx : own_V x a) (hb : (a.natAbs : Int) ≤ own_p k) (hk : k ≤ 2000) : own_V (dmul x 4611686018427387904) (2 * a) := by
  obtain ⟨m, j, h1, h2, h3⟩ := own_F_low (own_V_F hx) (own_nb hb (by omega))
  obtain ⟨m, j, h1, h2, h3⟩ : ∃ (m : Int) (j : Nat), m.natAbs < 2 ^ 53 ∧ j ≤ 2044 ∧ a = m * own_p j := by
    by_cases e : m = 0
    · exact ⟨0, 0, by decide, by decide, by rw [h3, e]; simp⟩
    · refine ⟨m, j, h1, ?_, h3⟩
      rcases Nat.lt_or_ge j 2045 with w | w
      · omega
      · exfalso
        have p1 := own_p_le (show k + 1 ≤ j by omega)
        have p2 := own_p_pos k
        rw [own_p_succ] at p1
        have e1 : (a.natAbs : Int) = (m.natAbs : Int) * own_p j := by rw [h3]; exact own_abs_p m j
        have p3 := Int.mul_le_mul_of_nonneg_right (show (1 : Int) ≤ (m.natAbs : Int) by omega) (Int.le_of_lt (own_p_pos j))
        omega
  have r : own_Rep x m j := ⟨hx.1, by rw [hx.2]; exact h3⟩
  have := own_mul (k := j + 1) r own_repTwo (by omega) (by rw [Int.mul_one]; exact h1) (by omega)
  refine ⟨this.1, ?_⟩
  rw [this.2]
  show m * 1 * own_p (j + 1) = 2 * a
  rw [h3, own_p_succ, Int.mul_one, ← Int.mul_assoc, ← Int.mul_assoc, Int.mul_comm m 2]
set_option maxHeartbeats 4000000 in
theorem own_vfin_V {h l p : UInt64} {x r P : Int} {k c : Nat} (hh : own_V h (own_R x)) (hl : own_V l (x - own_R x)) (hp : own_V p P) (hP : (0 < P ∧ 0 < r) ∨ (P < 0 ∧ r < 0)) (hnF : ¬ own_F x) (hc : own_p c ∣ x) (hr : (r.natAbs : Int) < own_p c) (hb : (x.natAbs : Int) ≤ own_p k) (hk : k ≤ 1900) :
    own_V (own_vfin h l p) (own_R (x + r)) ∧ own_FN h l := by
  have hz := Nat.le_of_lt (own_nb hb (by omega))
  obtain ⟨u, n, e1, e2, e3, e4, e5⟩ := own_ulp hz hnF
  have cu := e5 c hc
  have near := fun g (hg : own_F g) => own_R_near hz hg
  have FH : own_F (own_R x) := own_V_F hh
  have bH := own_R_bd hb (by omega)
  have x0 : x ≠ 0 := fun q => hnF (by rw [q]; exact own_F_zero)
  have pcx : own_p c ≤ (x.natAbs : Int) := Int.le_of_dvd (by omega) (Int.dvd_natAbs.mpr hc)
  have hc' : own_p c ∣ x - own_R x := Int.dvd_sub hc (Int.dvd_trans (own_p_dvd (Nat.le_of_lt cu)) ⟨n, by rw [e1, Int.mul_comm]⟩)
  have bxr : ((x + r).natAbs : Int) ≤ own_p (k + 1) := by rw [own_p_succ]; omega
  have hzr := Nat.le_of_lt (own_nb bxr (by omega))
  have nearr := fun g (hg : own_F g) => own_R_near hzr hg
  have Ff : own_F (own_R (x + r)) := own_R_F _ hzr
  have l0 : x - own_R x ≠ 0 := fun q => hnF (by rw [show x = own_R x by omega]; exact FH)
  have hH : own_p u ≤ ((own_R x).natAbs : Int) := by
    rw [e1, own_abs_p]
    have := Int.mul_le_mul_of_nonneg_right (show (1 : Int) ≤ (n.natAbs : Int) by omega) (Int.le_of_lt (own_p_pos u))
    omega
  generalize hf : own_R (x + r) = f at *
  generalize hHH : own_R x = H at *
  obtain ⟨L, hL⟩ : ∃ L, L = x - H := ⟨_, rfl⟩
  rw [← hL] at hl hc' l0 e4 near
  have pcl : own_p c ≤ (L.natAbs : Int) := Int.le_of_dvd (by omega) (Int.dvd_natAbs.mpr hc')
  have bL : (L.natAbs : Int) ≤ own_p k := by have := own_p_pos u; omega
  have h2 := own_twice hl bL (by omega)
  obtain ⟨t1, t2, t3⟩ := own_two_g hh h2 (Or.inl (by omega)) bH (show (((2 * L).natAbs : Nat) : Int) ≤ own_p k by omega) (by omega)
  have b2 : ((H + 2 * L).natAbs : Int) ≤ own_p (k + 1) := by rw [own_p_succ]; omega
  refine ⟨?_, own_V_nn h2, own_V_nn t1, own_V_nn t2⟩
  have nr1 := nearr H FH
  have nr2 := near f Ff
  unfold own_vfin
  by_cases sg : (L < 0 ∧ P < 0) ∨ (0 < L ∧ 0 < P)
  · rw [if_pos (by rw [own_ngV hl, own_ngV hp, own_psV hl, own_psV hp]; exact sg)]
    by_cases F2 : own_F (H + 2 * L)
    · have eR := own_R_exact F2 (own_nb b2 (by omega))
      have nr3 := nearr _ F2
      rw [if_pos ((own_teV h2 t2).mpr (by rw [eR]; omega)), show f = H + 2 * L by omega]
      rw [eR] at t1; exact t1
    · rw [if_neg (fun q => F2 (by
        have := (own_teV h2 t2).mp q
        rw [show H + 2 * L = own_R (H + 2 * L) by omega]
        exact own_R_F _ (Nat.le_of_lt (own_nb b2 (by omega)))))]
      rw [own_core' (r := r) e1 e2 e3 e4 hc' (by omega) hr Ff F2 (fun g hg => by have := near g hg; rwa [show H + L - g = x - g by omega]) (by rw [show H + L + r - f = x + r - f by omega, show L + r = x + r - H by omega]; exact nr1)]
      exact hh
  · rw [if_neg (by rw [own_ngV hl, own_ngV hp, own_psV hl, own_psV hp]; exact sg), show f = H by omega]
    exact hh
/-- the partials, greatest first: S their sum, T the sum of their magnitudes -/
def own_ND (k : Nat) : List UInt64 → Int → Int → Prop
  | [], S, T => S = 0 ∧ T = 0
  | y :: L, S, T => ∃ z : Int, own_V y z ∧ (z.natAbs : Int) ≤ own_p k ∧ z ≠ 0 ∧ (∃ b, own_p b ∣ z ∧ T - z.natAbs < own_p b) ∧ own_ND k L (S - z) (T - z.natAbs)
theorem own_ND_abs {k : Nat} : ∀ (L : List UInt64) (S T : Int), own_ND k L S T → (S.natAbs : Int) ≤ T
  | [], S, T, ⟨h1, h2⟩ => by omega
  | y :: L, S, T, ⟨z, _, _, _, _, h⟩ => by have := own_ND_abs L _ _ h; omega
theorem own_rev {k : Nat} : ∀ (L acc : List UInt64) (A s S : Int), own_ND k acc A s → own_NO k s L S → L ≠ [] → ∃ x ys z T, L.reverse ++ acc = x :: ys ∧ own_V x z ∧ (z.natAbs : Int) ≤ own_p k ∧ (∃ b, own_p b ∣ z ∧ T < own_p b) ∧ own_ND k ys (A + S - z) T ∧ ys.length + 1 = L.length + acc.length
  | [], _, _, _, _, _, _, h => absurd rfl h
  | [x], acc, A, s, S, hD, ⟨z, h1, h2, h3, _, h5⟩, _ => ⟨x, acc, z, s, rfl, h1, h2, h3, by have e : S - z = 0 := h5; rw [show A + S - z = A by omega]; exact hD, by simp; omega⟩
  | x :: y :: L, acc, A, s, S, hD, ⟨z, h1, h2, ⟨b, h3, h3'⟩, h4, h5⟩, _ => by
    obtain ⟨x', ys, z', T, q1, q2, q3, q4, q5, q6⟩ := own_rev (y :: L) (x :: acc) (A + z) (s + z.natAbs) (S - z) ⟨z, h1, h2, h4 (by simp), ⟨b, h3, by omega⟩, by rw [show A + z - z = A by omega, show s + (z.natAbs : Int) - z.natAbs = s by omega]; exact hD⟩ h5 (by simp)
    exact ⟨x', ys, z', T, by rw [← q1]; simp, q2, q3, q4, by rw [show A + S - z' = A + z + (S - z) - z' by omega]; exact q5, by simp at q6 ⊢; omega⟩
set_option maxHeartbeats 4000000 in
theorem own_val_V (k : Nat) : ∀ (ys : List UInt64) (kq : Nat) (x : UInt64) (z S T : Int), own_V x z → (z.natAbs : Int) ≤ own_p kq → k ≤ kq → kq + ys.length ≤ 1800 → (∃ b, own_p b ∣ z ∧ T < own_p b) → own_ND k ys S T → own_V (own_val ys x) (own_R (z + S)) ∧ own_VN ys x
  | [], kq, x, z, S, T, hx, hz, hk, hl, _, ⟨hS, _⟩ => by
    subst hS
    refine ⟨?_, trivial⟩
    rw [Int.add_zero, own_R_exact (own_V_F hx) (own_nb hz (by omega))]
    exact hx
  | y :: r, kq, x, z, S, T, hx, hz, hk, hl, ⟨b, hb1, hb2⟩, ⟨w, hy, hw, w0, ⟨b', hb3, hb4⟩, hrest⟩ => by
    have hw' : (w.natAbs : Int) ≤ own_p kq := Int.le_trans hw (own_p_le hk)
    have hl' : kq + (r.length + 1) ≤ 1800 := hl
    have hT := own_ND_abs _ _ _ hrest
    have hab : w.natAbs ≤ z.natAbs ∨ z = 0 := by
      by_cases z0 : z = 0
      · exact Or.inr z0
      · have := Int.le_of_dvd (by omega) (Int.dvd_natAbs.mpr hb1); exact Or.inl (by omega)
    obtain ⟨t1, t2, t3⟩ := own_two_g hx hy hab hz hw' (by omega)
    have bz : ((z + w).natAbs : Int) ≤ own_p (kq + 1) := by rw [own_p_succ]; omega
    obtain ⟨c, c1, c2, c3⟩ := own_min hb1 (show T - w.natAbs < own_p b by omega) hb3 hb4
    have cz : own_p c ∣ z + w := Int.dvd_add c1 c2
    by_cases hF : own_F (z + w)
    · have e : own_R (z + w) = z + w := own_R_exact hF (own_nb bz (by omega))
      have z0 : ¬ own_nz (own_lo x y) := fun h => (own_nzV t3).mp h (by rw [e]; omega)
      rw [e] at t1
      obtain ⟨i1, i2⟩ := own_val_V k r (kq + 1) (own_hi x y) (z + w) (S - w) (T - w.natAbs) t1 bz (by omega) (by omega) ⟨c, cz, c3⟩ hrest
      refine ⟨?_, own_V_nn t1, own_V_nn t2, own_V_nn t3, fun q => absurd q z0, fun _ => i2⟩
      show own_V (if own_nz (own_lo x y) then _ else _) _
      rw [if_neg z0, show z + S = z + w + (S - w) by omega]
      exact i1
    · have ne : z + w - own_R (z + w) ≠ 0 := fun h => hF (by rw [show z + w = own_R (z + w) by omega]; exact own_R_F _ (Nat.le_of_lt (own_nb bz (by omega))))
      have z1 : own_nz (own_lo x y) := (own_nzV t3).mpr ne
      match r, hrest, hT with
      | [], hrest, hT =>
        refine ⟨?_, own_V_nn t1, own_V_nn t2, own_V_nn t3, fun _ q => absurd rfl q, fun q => absurd z1 q⟩
        show own_V (if own_nz (own_lo x y) then own_hi x y else _) _
        rw [if_pos z1, show z + S = z + w by have := hrest.1; omega]
        exact t1
      | p :: r', ⟨P, hp, hpb, p0, ⟨b2, d1, d2⟩, hr2⟩, hT =>
        have hT2 := own_ND_abs _ _ _ hr2
        have := Int.le_of_dvd (by omega) (Int.dvd_natAbs.mpr d1)
        obtain ⟨i1, i2⟩ := own_vfin_V (h := own_hi x y) (l := own_lo x y) (r := S - w) (c := c) (k := kq + 1) t1 t3 hp (by omega) hF cz (by omega) bz (by omega)
        refine ⟨?_, own_V_nn t1, own_V_nn t2, own_V_nn t3, fun _ _ => i2, fun q => absurd z1 q⟩
        show own_V (if own_nz (own_lo x y) then own_vfin (own_hi x y) (own_lo x y) p else _) _
        rw [if_pos z1, show z + S = z + w + (S - w) by omega]
        exact i1
theorem own_value_V {k : Nat} {L : List UInt64} {S : Int} (h : own_NO k 0 L S) (hL : L ≠ []) (hk : k + L.length ≤ 1800) : own_V (own_value L) (own_R S) ∧ own_VN0 L := by
  obtain ⟨x, ys, z, T, e, h1, h2, h3, h4, h5⟩ := own_rev L [] 0 0 S ⟨rfl, rfl⟩ h hL
  rw [List.append_nil] at e
  have h6 : ys.length + 1 = L.length := h5
  have := own_val_V k ys k x z _ T h1 h2 (Nat.le_refl _) (by omega) h3 h4
  unfold own_value own_VN0
  rw [e]
  rw [show z + (0 + S - z) = S by omega] at this
  exact this
theorem own_ins_len : ∀ (L : List UInt64) (x : UInt64), (own_ins L x).length ≤ L.length + 1
  | [], _ => Nat.le_refl _
  | q :: L, x => by
    have := own_ins_len L (own_hi (own_fst x q) (own_snd x q))
    show ((if own_nz _ then [_] else []) ++ own_ins L _).length ≤ L.length + 1 + 1
    rw [List.length_append]
    split <;> simp <;> omega
theorem own_p0 {a s : Int} (h : s = 0) : ∃ w, own_p w ∣ a ∧ s < own_p w := ⟨0, by show (1 : Int) ∣ a; exact Int.one_dvd a, by subst h; decide⟩
/-- four adds and the value -/
theorem own_four_V {x0 x1 x2 x3 : UInt64} {a0 a1 a2 a3 : Int} (h0 : own_V x0 a0) (h1 : own_V x1 a1) (h2 : own_V x2 a2) (h3 : own_V x3 a3) (b0 : (a0.natAbs : Int) ≤ own_p 1140) (b1 : (a1.natAbs : Int) ≤ own_p 1140) (b2 : (a2.natAbs : Int) ≤ own_p 1140) (b3 : (a3.natAbs : Int) ≤ own_p 1140) :
    own_NN [] x0 ∧ (own_ins [] x0).length ≤ 3 ∧ own_NN (own_ins [] x0) x1 ∧ (own_ins (own_ins [] x0) x1).length ≤ 3 ∧ own_NN (own_ins (own_ins [] x0) x1) x2 ∧ (own_ins (own_ins (own_ins [] x0) x1) x2).length ≤ 3 ∧ own_NN (own_ins (own_ins (own_ins [] x0) x1) x2) x3 ∧
      (own_ins (own_ins (own_ins (own_ins [] x0) x1) x2) x3).length ≤ 4 ∧ own_VN0 (own_ins (own_ins (own_ins (own_ins [] x0) x1) x2) x3) ∧ own_V (own_value (own_ins (own_ins (own_ins (own_ins [] x0) x1) x2) x3)) (own_R (a0 + a1 + a2 + a3)) := by
  have l1 := own_ins_len [] x0
  have l2 := own_ins_len (own_ins [] x0) x1
  have l3 := own_ins_len (own_ins (own_ins [] x0) x1) x2
  have l4 := own_ins_len (own_ins (own_ins (own_ins [] x0) x1) x2) x3
  have l1' : (own_ins [] x0).length ≤ 1 := l1
  obtain ⟨n0, o0, -⟩ := own_ins_NO 1140 [] 1140 0 0 0 a0 x0 rfl h0 b0 (Nat.le_refl _) (by simp) (Int.le_refl _) (Int.le_refl _) (own_p0 rfl)
  generalize own_ins [] x0 = L1 at *
  obtain ⟨n1, o1, -⟩ := own_ins_NO _ L1 1140 0 0 _ a1 x1 o0 h1 b1 (Nat.le_refl _) (by omega) (Int.le_refl _) (Int.le_refl _) (own_p0 rfl)
  generalize own_ins L1 x1 = L2 at *
  obtain ⟨n2, o2, -⟩ := own_ins_NO _ L2 (1140 + L1.length) 0 0 _ a2 x2 o1 h2 (Int.le_trans b2 (own_p_le (by omega))) (Nat.le_refl _) (by omega) (Int.le_refl _) (Int.le_refl _) (own_p0 rfl)
  generalize own_ins L2 x2 = L3 at *
  obtain ⟨n3, o3, e3⟩ := own_ins_NO _ L3 (1140 + L1.length + L2.length) 0 0 _ a3 x3 o2 h3 (Int.le_trans b3 (own_p_le (by omega))) (Nat.le_refl _) (by omega) (Int.le_refl _) (Int.le_refl _) (own_p0 rfl)
  obtain ⟨v1, v2⟩ := own_value_V o3 e3 (by omega)
  rw [Int.zero_add] at v1
  exact ⟨n0, by omega, n1, by omega, n2, by omega, n3, by omega, v2, v1⟩
end OwnVal
section OwnM1
open Jvm.FP.Core Jvm.Op
/-- the double of a long: rounded once -/
theorem own_l2d_V (a : Int64) : own_V (l2d a) (own_R (a.toInt * own_p 1074)) := by
  have h : signed (decide (a.toInt < 0)) (inUnits a.toInt.natAbs 0 b64.qmin) = a.toInt * own_p 1074 := by
    unfold inUnits
    rw [qmin_b64, signed_mul, own_signed_abs]
    rfl
  obtain ⟨r1, r2⟩ := own_round_val (e := 0) (by rw [qmin_b64]; decide) h
  have hv : val64 (l2d a) = roundRatio b64 (decide (a.toInt < 0)) (a.toInt * own_p 1074).natAbs 1 (-1074) := by rw [val64_l2d]; exact r1
  exact ⟨l2d_fin a, by rw [hv]; exact own_R_val _ _ r2⟩
theorem own_pk {n : Int} {b : Nat} (h : (n.natAbs : Int) ≤ own_p b) : ((n * own_p 1074).natAbs : Int) ≤ own_p (b + 1074) := by
  rw [own_abs_p, own_p_add]
  exact Int.mul_le_mul_of_nonneg_right h (Int.le_of_lt (own_p_pos _))
theorem own_l2d_ex {t : Int64} {mt : Int} {sh b : Nat} (h : t.toInt = mt * own_p sh) (hm : mt.natAbs ≤ 2 ^ 53) (hb : (t.toInt.natAbs : Int) ≤ own_p b) (hb2 : b ≤ 64) : own_V (l2d t) (t.toInt * own_p 1074) := by
  have := own_l2d_V t
  rwa [own_R_exact (own_F_of (k := sh + 1074) (m := mt) (by show t.toInt * own_p 1074 = mt * own_p (sh + 1074); rw [h, own_p_add, Int.mul_assoc]) hm) (own_nb (own_pk hb) (by omega))] at this
theorem own_tn {q : Int32} (h : 0 ≤ q.toInt) : q.toBitVec.toNat = q.toInt.toNat := by
  have e : q.toInt = q.toBitVec.toInt := rfl
  rw [e, BitVec.toInt_eq_toNat_cond] at h ⊢
  have := q.toBitVec.isLt
  split at h <;> rename_i c
  · rw [if_pos c]; rfl
  · omega
/-- a shift to the left that loses nothing -/
theorem own_shl {x : Int64} {q : Int32} (h0 : 0 ≤ q.toInt) (h1 : q.toInt < 64) (hb : ((x.toInt * own_p q.toInt.toNat).natAbs : Int) < 9223372036854775808) : (x <<< (q &&& 0x3f).toInt64).toInt = x.toInt * own_p q.toInt.toNat := by
  have a := Jvm.RoadKit.c_lshl x q q.toInt.toNat (by rw [own_tn h0]; omega)
  have b := Jvm.RoadKit.rng64 (x <<< (q &&& 0x3f).toInt64)
  change (_ - x.toInt * own_p q.toInt.toNat) % _ = 0 at a
  generalize x.toInt * own_p q.toInt.toNat = P at *
  generalize (x <<< (q &&& 0x3f).toInt64).toInt = Q at *
  omega
/-- the upper half of a long, modulo d -/
theorem own_modU {x : Int64} {y : Int64} {d : Int} (hy : y.toInt = d) (hd : 0 < d) (hd2 : d ≤ 100) :
    0 ≤ ((((x.toUInt64 >>> ((32 : Int32) &&& 0x3f).toInt64.toUInt64).toInt64) - (((x.toUInt64 >>> ((32 : Int32) &&& 0x3f).toInt64.toUInt64).toInt64) / y) * y).toInt32).toInt ∧
    ((((x.toUInt64 >>> ((32 : Int32) &&& 0x3f).toInt64.toUInt64).toInt64) - (((x.toUInt64 >>> ((32 : Int32) &&& 0x3f).toInt64.toUInt64).toInt64) / y) * y).toInt32).toInt < d := by
  have a := Jvm.RoadKit.c_lushr x 32 32 (by decide) (by decide)
  generalize ((x.toUInt64 >>> ((32 : Int32) &&& 0x3f).toInt64.toUInt64).toInt64) = u at *
  have u0 : 0 ≤ u.toInt := by rw [a]; omega
  have b := (Jvm.RoadKit.c_lrem u y d hy).1 u0
  generalize u - (u / y) * y = v at *
  have c := Jvm.RoadKit.c_l2i v
  have r := Jvm.RoadKit.rng32 v.toInt32
  have e1 := Int.emod_nonneg u.toInt (show d ≠ 0 by omega)
  have e2 := Int.emod_lt_of_pos u.toInt hd
  omega
theorem own_abs_mul {a : Int} {A B k : Nat} (ha : a.natAbs ≤ A) (hk : k ≤ B) : ((a * own_p k).natAbs : Int) ≤ (A : Int) * own_p B := by
  rw [own_abs_p]
  exact Int.le_trans (Int.mul_le_mul_of_nonneg_right (show (a.natAbs : Int) ≤ (A : Int) by omega) (Int.le_of_lt (own_p_pos k))) (Int.mul_le_mul_of_nonneg_left (own_p_le hk) (by omega))
/-- mid(x) -/
def own_Mid (t : Int64) : Prop := ∃ (mt : Int) (sh : Nat), t.toInt = mt * own_p sh ∧ mt.natAbs ≤ 2147483648 ∧ (t.toInt.natAbs : Int) ≤ 72057594037927936
theorem own_mid {x : Int64} : own_Mid ((x.toInt32.toInt64) <<< ((((((x.toUInt64 >>> ((32 : Int32) &&& 0x3f).toInt64.toUInt64).toInt64) - (((x.toUInt64 >>> ((32 : Int32) &&& 0x3f).toInt64.toUInt64).toInt64) / (26 : Int64)) * (26 : Int64)).toInt32)) &&& 0x3f).toInt64) := by
  obtain ⟨a, b⟩ := own_modU (x := x) (y := 26) (d := 26) (by decide) (by decide) (by decide)
  generalize ((((x.toUInt64 >>> ((32 : Int32) &&& 0x3f).toInt64.toUInt64).toInt64) - (((x.toUInt64 >>> ((32 : Int32) &&& 0x3f).toInt64.toUInt64).toInt64) / (26 : Int64)) * (26 : Int64)).toInt32) = q at *
  have r := Jvm.RoadKit.rng32 x.toInt32
  have e := Int32.toInt_toInt64 x.toInt32
  have h2 : x.toInt32.toInt.natAbs ≤ 2147483648 := by omega
  have h3 := own_abs_mul (B := 25) (k := q.toInt.toNat) h2 (by omega)
  have h4 : ((2147483648 : Nat) : Int) * own_p 25 = 72057594037927936 := by decide
  rw [h4] at h3
  have h5 := own_shl (x := x.toInt32.toInt64) a (by omega) (by rw [e]; omega)
  rw [e] at h5
  exact ⟨x.toInt32.toInt, q.toInt.toNat, h5, h2, by rw [h5]; exact h3⟩
/-- big(x) -/
def own_Big (t : Int64) : Prop := ∃ (mt : Int), t.toInt = mt * own_p 6 ∧ 4503599627370496 ≤ mt.natAbs ∧ mt.natAbs < 9007199254740992
theorem own_big0 {x : Int64} : ∃ M : Int, (((4503599627370496 : Int64) ||| (x &&& (4503599627370495 : Int64))) <<< ((6 : Int32) &&& 0x3f).toInt64).toInt = M * own_p 6 ∧ 4503599627370496 ≤ M ∧ M < 9007199254740992 := by
  have a := Jvm.RoadKit.c_maskL x 4503599627370495 52 (by decide) (by decide)
  have a2 : (x &&& (4503599627370495 : Int64)).toInt = x.toInt % 4503599627370496 := a
  generalize x &&& (4503599627370495 : Int64) = y at *
  have e1 : (4503599627370496 : Int64).toInt = 4503599627370496 := by decide
  have b := Jvm.RoadKit.c_orL 4503599627370496 y 52 (by decide) 4503599627370496 (by decide) (by decide) (by omega) (by omega)
  have r := Jvm.RoadKit.rng64 ((4503599627370496 : Int64) ||| y)
  rw [e1] at b
  generalize (4503599627370496 : Int64) ||| y = z at *
  have hz : 4503599627370496 ≤ z.toInt ∧ z.toInt < 9007199254740992 := by omega
  have e6 : (6 : Int32).toInt = 6 := by decide
  have e7 : own_p ((6 : Int32).toInt.toNat) = 64 := by decide
  have h5 := own_shl (x := z) (q := 6) (by decide) (by decide) (by rw [e7]; omega)
  exact ⟨z.toInt, h5, hz.1, hz.2⟩
theorem own_bigP {x : Int64} : own_Big (((4503599627370496 : Int64) ||| (x &&& (4503599627370495 : Int64))) <<< ((6 : Int32) &&& 0x3f).toInt64) := by
  obtain ⟨M, h1, h2, h3⟩ := own_big0 (x := x)
  exact ⟨M, h1, by omega, by omega⟩
theorem own_bigN {x : Int64} : own_Big (-(((4503599627370496 : Int64) ||| (x &&& (4503599627370495 : Int64))) <<< ((6 : Int32) &&& 0x3f).toInt64)) := by
  obtain ⟨M, h1, h2, h3⟩ := own_big0 (x := x)
  have a := Jvm.RoadKit.c_lneg (((4503599627370496 : Int64) ||| (x &&& (4503599627370495 : Int64))) <<< ((6 : Int32) &&& 0x3f).toInt64)
  have r := Jvm.RoadKit.rng64 (-(((4503599627370496 : Int64) ||| (x &&& (4503599627370495 : Int64))) <<< ((6 : Int32) &&& 0x3f).toInt64))
  rw [h1] at a
  have e7 : own_p 6 = 64 := by decide
  refine ⟨-M, ?_, by omega, by omega⟩
  rw [e7] at a ⊢
  omega
theorem own_mid_V {t : Int64} (h : own_Mid t) : own_V (l2d t) (t.toInt * own_p 1074) := by
  obtain ⟨mt, sh, h1, h2, h3⟩ := h
  exact own_l2d_ex h1 (by omega) (b := 56) (by rw [show own_p 56 = 72057594037927936 by decide]; exact h3) (by decide)
theorem own_big_V {t : Int64} (h : own_Big t) : own_V (l2d t) (t.toInt * own_p 1074) := by
  obtain ⟨mt, h1, h2, h3⟩ := h
  have e7 : own_p 6 = 64 := by decide
  exact own_l2d_ex h1 (by omega) (b := 59) (by rw [h1, show own_p 59 = 576460752303423488 by decide, e7]; omega) (by decide)
theorem own_mid_b {t : Int64} (h : own_Mid t) : (t.toInt.natAbs : Int) ≤ 72057594037927936 := h.choose_spec.choose_spec.2.2
theorem own_big_b {t : Int64} (h : own_Big t) : 288230376151711744 ≤ t.toInt.natAbs ∧ t.toInt.natAbs < 576460752303423488 := by
  obtain ⟨mt, h1, h2, h3⟩ := h
  have e7 : own_p 6 = 64 := by decide
  rw [h1, e7]; omega
theorem own_and3 (x : Int32) : x &&& 3 = 0 ∨ x &&& 3 = 1 ∨ x &&& 3 = 2 ∨ x &&& 3 = 3 := by
  have a : (x &&& 3).toInt = x.toInt % 4 := Jvm.RoadKit.c_mask x 3 2 (by decide) (by decide)
  rcases (by omega : (x &&& 3).toInt = 0 ∨ (x &&& 3).toInt = 1 ∨ (x &&& 3).toInt = 2 ∨ (x &&& 3).toInt = 3) with q | q | q | q
  · exact Or.inl (Int32.toInt_inj.mp (by rw [q]; decide))
  · exact Or.inr (Or.inl (Int32.toInt_inj.mp (by rw [q]; decide)))
  · exact Or.inr (Or.inr (Or.inl (Int32.toInt_inj.mp (by rw [q]; decide))))
  · exact Or.inr (Or.inr (Or.inr (Int32.toInt_inj.mp (by rw [q]; decide))))
/-- m / 2^e -/
theorem own_tiny {m e : Int32} (h0 : 20 ≤ e.toInt) (h1 : e.toInt ≤ 62) (hm : m.toInt.natAbs ≤ 524288) : own_V (ddiv (i2d m) (l2d ((1 : Int64) <<< (e &&& 0x3f).toInt64))) (m.toInt * own_p (1074 - e.toInt.toNat)) := by
  have e1 : (1 : Int64).toInt = 1 := by decide
  have hb : own_p e.toInt.toNat ≤ own_p 62 := own_p_le (by omega)
  have e62 : own_p 62 = 4611686018427387904 := by decide
  have hp := own_p_pos e.toInt.toNat
  have h5 := own_shl (x := 1) (q := e) (by omega) (by omega) (by rw [e1]; omega)
  rw [e1] at h5
  have r := own_l2d_ex (t := (1 : Int64) <<< (e &&& 0x3f).toInt64) (mt := 1) (sh := e.toInt.toNat) (b := 62) h5 (by decide) (by rw [h5]; omega) (by decide)
  have r2 : own_Rep (l2d ((1 : Int64) <<< (e &&& 0x3f).toInt64)) 1 (e.toInt.toNat + 1074) := ⟨r.1, by rw [r.2, h5]; show 1 * own_p e.toInt.toNat * own_p 1074 = 1 * own_p (e.toInt.toNat + 1074); rw [own_p_add, Int.mul_assoc]⟩
  exact own_div (a := m.toInt) (m := 1) (k := 1074 - e.toInt.toNat) (by rw [Int.mul_one]; exact own_i2d m) r2 (by decide) (by omega) (by omega) (by omega)
theorem own_tiny_b {m : Int} {e : Nat} (h0 : 20 ≤ e) (h1 : e ≤ 62) (hm : m.natAbs ≤ 524288) : 2 * ((m * own_p (1074 - e)).natAbs : Int) ≤ own_p 1074 := by
  have h := own_abs_mul (B := 1054) (k := 1074 - e) hm (by omega)
  have e1 : own_p 1074 = own_p 20 * own_p 1054 := own_p_add 20 1054
  have e2 : own_p 20 = 1048576 := by decide
  rw [e2] at e1
  omega
theorem own_tiny_s {m : Int} {k : Nat} : (0 < m → 0 < m * own_p k) ∧ (m < 0 → m * own_p k < 0) := ⟨fun h => Int.mul_pos h (own_p_pos k), fun h => Int.mul_neg_of_neg_of_pos h (own_p_pos k)⟩
/-- a large number of the format is a multiple -/
theorem own_mult {g : Int} {c : Nat} (hg : own_F g) (hb : own_p (53 + c) ≤ (g.natAbs : Int)) : own_p (c + 1) ∣ g := by
  obtain ⟨m, k, h1, h2⟩ := own_F_p.mp hg
  rcases Nat.lt_or_ge c k with q | q
  · exact Int.dvd_trans (own_p_dvd q) ⟨m, by rw [h2, Int.mul_comm]⟩
  · exfalso
    have h3 := own_abs_mul (A := 9007199254740991) (B := c) (k := k) (show m.natAbs ≤ 9007199254740991 by omega) q
    rw [← h2] at h3
    have e : own_p (53 + c) = 9007199254740992 * own_p c := by rw [own_p_add]; rfl
    have := own_p_pos c
    omega
theorem own_cl {S X Y : Int} (h : (S - X).natAbs ≤ (S - Y).natAbs) : (X < Y → 2 * S ≤ X + Y) ∧ (Y < X → X + Y ≤ 2 * S) := by omega
theorem own_key {EU AU BU U t s : Int} (U0 : 0 < U) (tri : EU + U ≤ AU + BU ∨ EU = AU + BU ∨ AU + BU + U ≤ EU) (c1 : (2 * AU < 2 * BU → 2 * (EU + t) ≤ 2 * AU + 2 * BU) ∧ (2 * BU < 2 * AU → 2 * AU + 2 * BU ≤ 2 * (EU + t)))
    (c2 : (2 * (2 * BU) < 2 * (2 * AU) → 2 * (2 * EU + s) ≤ 2 * (2 * BU) + 2 * (2 * AU)) ∧ (2 * (2 * AU) < 2 * (2 * BU) → 2 * (2 * BU) + 2 * (2 * AU) ≤ 2 * (2 * EU + s))) (hs : (s = U ∧ 0 < t) ∨ (s = -U ∧ t < 0)) (ht : -U ≤ 2 * t ∧ 2 * t ≤ U) (hAB : AU + U ≤ BU ∨ BU + U ≤ AU) : False := by
  rcases hAB with q | q
  · have d1 := c1.1 (by omega); have d2 := c2.2 (by omega); clear c1 c2
    rcases hs with ⟨rfl, h⟩ | ⟨rfl, h⟩ <;> omega
  · have d1 := c1.2 (by omega); have d2 := c2.1 (by omega); clear c1 c2
    rcases hs with ⟨rfl, h⟩ | ⟨rfl, h⟩ <;> omega
theorem own_ge {EU U t p : Int} (h : 144115188075855872 * U ≤ (EU.natAbs : Int)) (hp : p = 9007199254740992 * U) (U0 : 0 < U) (ht : 2 * (t.natAbs : Int) ≤ 2 * U) : (0 ≤ EU → p ≤ EU + t) ∧ (EU ≤ 0 → EU + t ≤ -p) := by omega
theorem own_o1 {EU U Ea t : Int} (h1 : (EU.natAbs : Int) = Ea) (h2 : Ea ≤ 1152921504606846976 * U) (h3 : 2 * (t.natAbs : Int) ≤ U) (h4 : 0 < U) : ((EU + t).natAbs : Int) ≤ 4611686018427387904 * U := by omega
theorem own_o2 {EU U Ea s t : Int} (h1 : (EU.natAbs : Int) = Ea) (h2 : Ea ≤ 1152921504606846976 * U) (h3 : (s = U ∧ 0 < t) ∨ (s = -U ∧ t < 0)) (h4 : 0 < U) : ((2 * EU + s).natAbs : Int) ≤ 4611686018427387904 * U := by omega
theorem own_o3 {U t : Int} (h : 2 * (t.natAbs : Int) ≤ U) (h4 : 0 < U) : 2 * (t.natAbs : Int) ≤ 2 * U := by omega
theorem own_o4 {EU U V Ea : Int} (h1 : (EU.natAbs : Int) = Ea) (h2 : 144115188075855872 * U ≤ Ea) (h3 : V = 2 * U) : 144115188075855872 * V ≤ ((2 * EU).natAbs : Int) := by omega
theorem own_o5 {U V s t : Int} (h3 : (s = U ∧ 0 < t) ∨ (s = -U ∧ t < 0)) (h1 : V = 2 * U) (h4 : 0 < U) : 2 * (s.natAbs : Int) ≤ 2 * V := by omega
theorem own_o6 {a b : Int} (h : a ≤ b) : a ≤ (b.natAbs : Int) := by omega
theorem own_o7 {a b : Int} (h : b ≤ -a) : a ≤ (b.natAbs : Int) := by omega
theorem own_o8 {a : Int} (h : a ≤ 0) : 2 * a ≤ 0 := by omega
theorem own_o9 {g P U V : Int} (h1 : (g.natAbs : Int) ≤ ((9007199254740991 : Nat) : Int) * 1) (h2 : P ≤ (g.natAbs : Int)) (h3 : P = 9007199254740992 * V) (h4 : V = 2 * U) (h5 : 0 < U) : False := by omega
theorem own_o10 {R a b c d : Int} (h1 : R = a) (h2 : a = 2 * b) (h3 : R = c) (h4 : c = 2 * d) : b = d := by omega
theorem own_o12 {t U V : Int} (h : 2 * (t.natAbs : Int) ≤ U) (h2 : U ≤ V) (h3 : 0 < U) : (t.natAbs : Int) ≤ V := by omega
theorem own_o13 {a t U V W : Int} (h : (a.natAbs : Int) ≤ V) (h2 : W = 2 * V) (h3 : 2 * (t.natAbs : Int) ≤ U) (h4 : U ≤ V) : ((a + t).natAbs : Int) ≤ W := by omega
theorem own_o11 {t U : Int} (h : 2 * (t.natAbs : Int) ≤ U) : -U ≤ 2 * t ∧ 2 * t ≤ U := by omega
set_option maxHeartbeats 4000000 in
/-- the half-way road: the sum and 2E+-1 over 2 round alike -/
theorem own_half_R {E t sg : Int} (hE : 144115188075855872 ≤ E.natAbs) (hE2 : E.natAbs ≤ 1152921504606846976) (ht : (sg = 1 ∧ 0 < t) ∨ (sg = -1 ∧ t < 0)) (ht2 : 2 * (t.natAbs : Int) ≤ own_p 1074) :
    own_R ((2 * E + sg) * own_p 1074) = 2 * own_R (E * own_p 1074 + t) := by
  have U0 := own_p_pos 1074
  have eU : own_p 1075 = 2 * own_p 1074 := own_p_succ 1074
  have eU2 : own_p 1076 = 2 * own_p 1075 := own_p_succ 1075
  have e3 : own_p (53 + 1074) = 9007199254740992 * own_p 1074 := by rw [own_p_add]; rfl
  have e4 : own_p (53 + 1075) = 9007199254740992 * own_p 1075 := by rw [own_p_add]; rfl
  have hEU : ((E * own_p 1074).natAbs : Int) = (E.natAbs : Int) * own_p 1074 := own_abs_p _ _
  have lo := Int.mul_le_mul_of_nonneg_right (show (144115188075855872 : Int) ≤ (E.natAbs : Int) by omega) (Int.le_of_lt U0)
  have hi := Int.mul_le_mul_of_nonneg_right (show (E.natAbs : Int) ≤ 1152921504606846976 by omega) (Int.le_of_lt U0)
  have e60 : own_p (62 + 1074) = 4611686018427387904 * own_p 1074 := by rw [own_p_add]; rfl
  have wE : (2 * E + sg) * own_p 1074 = 2 * (E * own_p 1074) + sg * own_p 1074 := by rw [Int.add_mul, Int.mul_assoc]
  have sU : (sg * own_p 1074 = own_p 1074 ∧ 0 < t) ∨ (sg * own_p 1074 = -own_p 1074 ∧ t < 0) := by
    rcases ht with ⟨rfl, q⟩ | ⟨rfl, q⟩
    · exact Or.inl ⟨Int.one_mul _, q⟩
    · exact Or.inr ⟨by omega, q⟩
  have bS : ((E * own_p 1074 + t).natAbs : Int) ≤ own_p (62 + 1074) := by rw [e60]; exact own_o1 hEU hi ht2 U0
  have bw : (((2 * E + sg) * own_p 1074).natAbs : Int) ≤ own_p (62 + 1074) := by rw [e60, wE]; exact own_o2 hEU hi sU U0
  have zS := Nat.le_of_lt (own_nb bS (by decide))
  have zw := Nat.le_of_lt (own_nb bw (by decide))
  have Ff := own_R_F _ zS
  have Fq := own_R_F _ zw
  have nS := fun g (hg : own_F g) => own_R_near zS hg
  have nw := fun g (hg : own_F g) => own_R_near zw hg
  have sE : (0 ≤ E → 0 ≤ E * own_p 1074) ∧ (E ≤ 0 → E * own_p 1074 ≤ 0) := ⟨fun s => Int.mul_nonneg s (Int.le_of_lt U0), fun s => by have := Int.mul_nonneg (show 0 ≤ -E by omega) (Int.le_of_lt U0); rw [Int.neg_mul] at this; omega⟩
  have g1 := own_ge (EU := E * own_p 1074) (t := t) (by rw [hEU]; exact lo) e3 U0 (own_o3 ht2 U0)
  have g2 := own_ge (EU := 2 * (E * own_p 1074)) (U := own_p 1075) (t := sg * own_p 1074) (own_o4 hEU lo eU) e4 (own_p_pos _) (own_o5 sU eU U0)
  have hfb : own_p (53 + 1074) ≤ ((own_R (E * own_p 1074 + t)).natAbs : Int) := by
    have F1 := own_F_pow (53 + 1074)
    rcases Int.le_total 0 E with s | s
    · have := own_R_ge zS F1 (g1.1 (sE.1 s))
      exact own_o6 this
    · have := own_R_le zS (own_F_neg F1) (g1.2 (sE.2 s))
      exact own_o7 this
  have hqb : own_p (53 + 1075) ≤ ((own_R ((2 * E + sg) * own_p 1074)).natAbs : Int) := by
    have F1 := own_F_pow (53 + 1075)
    rcases Int.le_total 0 E with s | s
    · have := own_R_ge zw F1 (by rw [wE]; exact g2.1 (Int.mul_nonneg (by decide) (sE.1 s)))
      exact own_o6 this
    · have := own_R_le zw (own_F_neg F1) (by rw [wE]; exact g2.2 (own_o8 (sE.2 s)))
      exact own_o7 this
  obtain ⟨A, hA⟩ := own_mult Ff hfb
  obtain ⟨B, hB⟩ := own_mult Fq hqb
  replace hA := hA.trans (Int.mul_comm (own_p 1075) A)
  replace hB := hB.trans (Int.mul_comm (own_p 1076) B)
  obtain ⟨mB, kB, b1, b2⟩ := own_F_p.mp Fq
  obtain ⟨mA, kA, a1, a2⟩ := own_F_p.mp Ff
  have hB2 : B * own_p 1076 = 2 * (B * own_p 1075) := by rw [eU2, ← Int.mul_assoc, Int.mul_comm B 2, Int.mul_assoc]
  have FY : own_F (B * own_p 1075) := by
    rcases Nat.eq_zero_or_pos kB with z | z
    · exfalso
      have h3 := own_abs_mul (A := 9007199254740991) (B := 0) (k := kB) (show mB.natAbs ≤ 9007199254740991 by omega) (by omega)
      rw [← b2] at h3
      have e0 : own_p 0 = 1 := rfl
      rw [e0] at h3
      exact own_o9 h3 hqb e4 eU U0
    · refine ⟨mB, kB - 1, b1, ?_⟩
      show B * own_p 1075 = mB * own_p (kB - 1)
      have e5 : own_p kB = 2 * own_p (kB - 1) := by rw [← own_p_succ, show kB - 1 + 1 = kB by omega]
      have e6 : mB * own_p kB = 2 * (mB * own_p (kB - 1)) := by rw [e5, ← Int.mul_assoc, Int.mul_comm mB 2, Int.mul_assoc]
      exact own_o10 hB hB2 b2 e6
  have FX : own_F (2 * (A * own_p 1075)) := by
    rw [← hA]
    refine ⟨mA, kA + 1, a1, ?_⟩
    show 2 * own_R (E * own_p 1074 + t) = mA * own_p (kA + 1)
    rw [a2, own_p_succ, ← Int.mul_assoc, Int.mul_comm 2 mA, Int.mul_assoc]
  have n1 := nS _ FY
  have n2 := nw _ FX
  rw [hA] at n1 ⊢
  rw [hB, hB2] at n2 ⊢
  have hX : A * own_p 1075 = 2 * (A * own_p 1074) := by rw [eU, ← Int.mul_assoc, Int.mul_comm A 2, Int.mul_assoc]
  have hY : B * own_p 1075 = 2 * (B * own_p 1074) := by rw [eU, ← Int.mul_assoc, Int.mul_comm B 2, Int.mul_assoc]
  have mono := fun (x y : Int) (h : x < y) => Int.mul_le_mul_of_nonneg_right (show x + 1 ≤ y by omega) (Int.le_of_lt U0)
  have tri : E * own_p 1074 + own_p 1074 ≤ A * own_p 1074 + B * own_p 1074 ∨ E * own_p 1074 = A * own_p 1074 + B * own_p 1074 ∨ A * own_p 1074 + B * own_p 1074 + own_p 1074 ≤ E * own_p 1074 := by
    rcases Int.lt_trichotomy E (A + B) with q | q | q
    · have := mono _ _ q; rw [Int.add_mul, Int.add_mul, Int.one_mul] at this; exact Or.inl this
    · rw [q, Int.add_mul]; exact Or.inr (Or.inl rfl)
    · have := mono _ _ q; rw [Int.add_mul, Int.add_mul, Int.one_mul] at this; exact Or.inr (Or.inr this)
  rw [hX, hY] at n1; rw [hX, hY, wE] at n2
  have c1 := own_cl n1
  have c2 := own_cl n2
  have t3 : -own_p 1074 ≤ 2 * t ∧ 2 * t ≤ own_p 1074 := own_o11 ht2
  have key : A = B := by
    rcases Int.lt_trichotomy A B with q | q | q
    · exfalso
      have := mono _ _ q; rw [Int.add_mul, Int.one_mul] at this
      exact own_key U0 tri c1 c2 sU t3 (Or.inl this)
    · exact q
    · exfalso
      have := mono _ _ q; rw [Int.add_mul, Int.one_mul] at this
      exact own_key U0 tri c1 c2 sU t3 (Or.inr this)
  rw [key]
theorem own_half_V {x : UInt64} {f : Int} (hx : own_V x (2 * f)) (hf : own_F f) (hb : f.natAbs < 2 ^ 2097) : own_V (ddiv x 4611686018427387904) f := by
  obtain ⟨m, k, h1, h2, h3⟩ := own_F_low hf hb
  have r : own_Rep x m (k + 1) := ⟨hx.1, by rw [hx.2, h3]; show 2 * (m * own_p k) = m * own_p (k + 1); rw [own_p_succ, ← Int.mul_assoc, Int.mul_comm 2 m, Int.mul_assoc]⟩
  have := own_div (a := m) (m := 1) (k := k) (by rw [Int.mul_one]; exact r) own_repTwo (by decide) (by omega) h1 h2
  exact ⟨this.1, by rw [this.2, h3]⟩
/-- four numbers and their sum -/
def own_Q4 (S : Int) (q0 q1 q2 q3 : UInt64) : Prop := ∃ a0 a1 a2 a3 : Int, own_V q0 a0 ∧ own_V q1 a1 ∧ own_V q2 a2 ∧ own_V q3 a3 ∧ (a0.natAbs : Int) ≤ own_p 1140 ∧ (a1.natAbs : Int) ≤ own_p 1140 ∧ (a2.natAbs : Int) ≤ own_p 1140 ∧ (a3.natAbs : Int) ≤ own_p 1140 ∧ a0 + a1 + a2 + a3 = S
def own_Pm (q0 q1 q2 q3 r0 r1 r2 r3 : UInt64) : Prop := ∀ S, own_Q4 S q0 q1 q2 q3 → own_Q4 S r0 r1 r2 r3
theorem own_pm01 {a b c d : UInt64} : own_Pm a b c d b a c d := fun _ ⟨x0, x1, x2, x3, h0, h1, h2, h3, b0, b1, b2, b3, e⟩ => ⟨x1, x0, x2, x3, h1, h0, h2, h3, b1, b0, b2, b3, by omega⟩
theorem own_pm02 {a b c d : UInt64} : own_Pm a b c d c b a d := fun _ ⟨x0, x1, x2, x3, h0, h1, h2, h3, b0, b1, b2, b3, e⟩ => ⟨x2, x1, x0, x3, h2, h1, h0, h3, b2, b1, b0, b3, by omega⟩
theorem own_pm03 {a b c d : UInt64} : own_Pm a b c d d b c a := fun _ ⟨x0, x1, x2, x3, h0, h1, h2, h3, b0, b1, b2, b3, e⟩ => ⟨x3, x1, x2, x0, h3, h1, h2, h0, b3, b1, b2, b0, by omega⟩
theorem own_pm12 {a b c d : UInt64} : own_Pm a b c d a c b d := fun _ ⟨x0, x1, x2, x3, h0, h1, h2, h3, b0, b1, b2, b3, e⟩ => ⟨x0, x2, x1, x3, h0, h2, h1, h3, b0, b2, b1, b3, by omega⟩
theorem own_pm13 {a b c d : UInt64} : own_Pm a b c d a d c b := fun _ ⟨x0, x1, x2, x3, h0, h1, h2, h3, b0, b1, b2, b3, e⟩ => ⟨x0, x3, x2, x1, h0, h3, h2, h1, b0, b3, b2, b1, by omega⟩
theorem own_pm23 {a b c d : UInt64} : own_Pm a b c d a b d c := fun _ ⟨x0, x1, x2, x3, h0, h1, h2, h3, b0, b1, b2, b3, e⟩ => ⟨x0, x1, x3, x2, h0, h1, h3, h2, b0, b1, b3, b2, by omega⟩
theorem own_pmr {a b c d : UInt64} : own_Pm a b c d a b c d := fun _ h => h
def own_S (t1 t2 t3 : Int64) (t : Int) : Int := t1.toInt * own_p 1074 + t2.toInt * own_p 1074 + t3.toInt * own_p 1074 + t
theorem own_b1140 {n : Int} (h : (n.natAbs : Int) ≤ 576460752303423488) : ((n * own_p 1074).natAbs : Int) ≤ own_p 1140 :=
  Int.le_trans (own_pk (b := 59) (by rw [show own_p 59 = 576460752303423488 by decide]; exact h)) (own_p_le (by decide))
theorem own_q4 {t1 t2 t3 : Int64} {tn : UInt64} {t : Int} (h1 : own_V (l2d t1) (t1.toInt * own_p 1074)) (h2 : own_Mid t2) (h3 : own_Mid t3) (ht : own_V tn t) (b1 : (t1.toInt.natAbs : Int) ≤ 576460752303423488) (bt : 2 * (t.natAbs : Int) ≤ own_p 1074) : own_Q4 (own_S t1 t2 t3 t) (l2d t1) (l2d t2) (l2d t3) tn := by
  have c2 := own_mid_b h2
  have c3 := own_mid_b h3
  have c4 := own_p_le (show 1074 ≤ 1140 by decide)
  have c5 := own_p_pos 1074
  exact ⟨_, _, _, _, h1, own_mid_V h2, own_mid_V h3, ht, own_b1140 b1, own_b1140 (by omega), own_b1140 (by omega), own_o12 bt c4 c5, rfl⟩
theorem own_four_Q {S : Int} {x0 x1 x2 x3 : UInt64} (h : own_Q4 S x0 x1 x2 x3) :
    own_NN [] x0 ∧ (own_ins [] x0).length ≤ 3 ∧ own_NN (own_ins [] x0) x1 ∧ (own_ins (own_ins [] x0) x1).length ≤ 3 ∧ own_NN (own_ins (own_ins [] x0) x1) x2 ∧ (own_ins (own_ins (own_ins [] x0) x1) x2).length ≤ 3 ∧ own_NN (own_ins (own_ins (own_ins [] x0) x1) x2) x3 ∧
      (own_ins (own_ins (own_ins (own_ins [] x0) x1) x2) x3).length ≤ 4 ∧ own_VN0 (own_ins (own_ins (own_ins (own_ins [] x0) x1) x2) x3) ∧ own_V (own_value (own_ins (own_ins (own_ins (own_ins [] x0) x1) x2) x3)) (own_R S) := by
  obtain ⟨a0, a1, a2, a3, h0, h1, h2, h3, b0, b1, b2, b3, rfl⟩ := h
  exact own_four_V h0 h1 h2 h3 b0 b1 b2 b3
theorem own_ex {t1 t2 t3 ex : Int64} (he : ex = t1 + t2 + t3) (b1 : (t1.toInt.natAbs : Int) ≤ 576460752303423488) (b2 : (t2.toInt.natAbs : Int) ≤ 72057594037927936) (b3 : (t3.toInt.natAbs : Int) ≤ 72057594037927936) : ex.toInt = t1.toInt + t2.toInt + t3.toInt := by
  have a := Jvm.RoadKit.c_ladd t1 t2
  have b := Jvm.RoadKit.c_ladd (t1 + t2) t3
  have r1 := Jvm.RoadKit.rng64 (t1 + t2)
  have r2 := Jvm.RoadKit.rng64 (t1 + t2 + t3)
  rw [he]
  omega
theorem own_S_ex {t1 t2 t3 ex : Int64} {t : Int} (h : ex.toInt = t1.toInt + t2.toInt + t3.toInt) : own_S t1 t2 t3 t = ex.toInt * own_p 1074 + t := by
  unfold own_S
  rw [h, Int.add_mul, Int.add_mul]
theorem own_end0 {t1 t2 t3 ex : Int64} {v : UInt64} {t : Int} (he : ex = t1 + t2 + t3) (b1 : (t1.toInt.natAbs : Int) ≤ 576460752303423488) (h2 : own_Mid t2) (h3 : own_Mid t3) (h0 : t = 0) (hv : own_V v (own_R (own_S t1 t2 t3 t))) : (cmpValue (Jvm.FP.dcmp v (l2d ex)) .l) = (0 : Int32) := by
  rw [own_S_ex (own_ex he b1 (own_mid_b h2) (own_mid_b h3)), h0, Int.add_zero] at hv
  exact (own_teV hv (own_l2d_V ex)).mpr rfl
theorem own_endH {t1 t2 t3 ex ey : Int64} {v : UInt64} {t sg : Int} (he : ex = t1 + t2 + t3) (h1 : own_Big t1) (h2 : own_Mid t2) (h3 : own_Mid t3) (ht : (sg = 1 ∧ 0 < t) ∨ (sg = -1 ∧ t < 0)) (ht2 : 2 * (t.natAbs : Int) ≤ own_p 1074) (hy : (ey.toInt - (2 * ex.toInt + sg)) % 18446744073709551616 = 0) (hv : own_V v (own_R (own_S t1 t2 t3 t))) :
    Jvm.Free.Fl.NoNaN64 (Jvm.FP.ddiv (l2d ey) 4611686018427387904) ∧ (cmpValue (Jvm.FP.dcmp v (ddiv (l2d ey) 4611686018427387904)) .l) = (0 : Int32) := by
  have c1 := own_big_b h1
  have c2 := own_mid_b h2
  have c3 := own_mid_b h3
  have e := own_ex he (by omega) c2 c3
  rw [own_S_ex e] at hv
  have r := Jvm.RoadKit.rng64 ey
  have ey2 : ey.toInt = 2 * ex.toInt + sg := by rcases ht with ⟨q, -⟩ | ⟨q, -⟩ <;> omega
  have hd := own_l2d_V ey
  rw [ey2, own_half_R (by omega) (by omega) ht ht2] at hd
  have hF := own_V_F hv
  have hb : (own_R (ex.toInt * own_p 1074 + t)).natAbs < 2 ^ 2097 := by
    have q1 : ((ex.toInt * own_p 1074).natAbs : Int) ≤ own_p (60 + 1074) := own_pk (by rw [show own_p 60 = 1152921504606846976 by decide]; omega)
    have q2 : ((ex.toInt * own_p 1074 + t).natAbs : Int) ≤ own_p (61 + 1074) := own_o13 q1 (own_p_succ (60 + 1074)) ht2 (own_p_le (show 1074 ≤ 60 + 1074 by decide))
    exact own_nb (own_R_bd q2 (by decide)) (by decide)
  have hq := own_half_V hd hF hb
  exact ⟨own_V_nn hq, (own_teV hv hq).mpr rfl⟩
theorem own_endP {t1 t2 t3 ex : Int64} {v : UInt64} {t : Int} (he : ex = t1 + t2 + t3) (h1 : own_Big t1) (h2 : own_Mid t2) (h3 : own_Mid t3) (ht : 0 < t) (ht2 : 2 * (t.natAbs : Int) ≤ own_p 1074) (hv : own_V v (own_R (own_S t1 t2 t3 t))) :
    Jvm.Free.Fl.NoNaN64 (Jvm.FP.ddiv (l2d ((2 : Int64) * ex + (1 : Int64))) 4611686018427387904) ∧ (cmpValue (Jvm.FP.dcmp v (Jvm.FP.ddiv (Jvm.FP.l2d ((2 : Int64) * ex + (1 : Int64))) 4611686018427387904)) .l) = (0 : Int32) := by
  refine own_endH he h1 h2 h3 (sg := 1) (Or.inl ⟨rfl, ht⟩) ht2 ?_ hv
  have a := Jvm.RoadKit.c_lmul 2 ex
  have b := Jvm.RoadKit.c_ladd (2 * ex) 1
  have e1 : (2 : Int64).toInt = 2 := by decide
  have e2 : (1 : Int64).toInt = 1 := by decide
  rw [e1] at a; rw [e2] at b
  omega
theorem own_endN {t1 t2 t3 ex : Int64} {v : UInt64} {t : Int} (he : ex = t1 + t2 + t3) (h1 : own_Big t1) (h2 : own_Mid t2) (h3 : own_Mid t3) (ht : t < 0) (ht2 : 2 * (t.natAbs : Int) ≤ own_p 1074) (hv : own_V v (own_R (own_S t1 t2 t3 t))) :
    Jvm.Free.Fl.NoNaN64 (Jvm.FP.ddiv (l2d ((2 : Int64) * ex - (1 : Int64))) 4611686018427387904) ∧ (cmpValue (Jvm.FP.dcmp v (Jvm.FP.ddiv (Jvm.FP.l2d ((2 : Int64) * ex - (1 : Int64))) 4611686018427387904)) .l) = (0 : Int32) := by
  refine own_endH he h1 h2 h3 (sg := -1) (Or.inr ⟨rfl, ht⟩) ht2 ?_ hv
  have a := Jvm.RoadKit.c_lmul 2 ex
  have b := Jvm.RoadKit.c_lsub (2 * ex) 1
  have e1 : (2 : Int64).toInt = 2 := by decide
  have e2 : (1 : Int64).toInt = 1 := by decide
  rw [e1] at a; rw [e2] at b
  omega
/-- the exponent e and the numerator m -/
theorem own_ee {x : Int64} {e : Int32} (h : e = (20 : Int32) + ((((x.toUInt64 >>> ((32 : Int32) &&& 0x3f).toInt64.toUInt64).toInt64) - (((x.toUInt64 >>> ((32 : Int32) &&& 0x3f).toInt64.toUInt64).toInt64) / (43 : Int64)) * (43 : Int64)).toInt32)) : 20 ≤ e.toInt ∧ e.toInt ≤ 62 := by
  obtain ⟨a, b⟩ := own_modU (x := x) (y := 43) (d := 43) (by decide) (by decide) (by decide)
  rw [h]
  generalize ((((x.toUInt64 >>> ((32 : Int32) &&& 0x3f).toInt64.toUInt64).toInt64) - (((x.toUInt64 >>> ((32 : Int32) &&& 0x3f).toInt64.toUInt64).toInt64) / (43 : Int64)) * (43 : Int64)).toInt32) = q at *
  have c := Jvm.RoadKit.c_iadd 20 q
  have r := Jvm.RoadKit.rng32 (20 + q)
  have e1 : (20 : Int32).toInt = 20 := by decide
  rw [e1] at c
  omega
theorem own_mm {x : Int64} {m : Int32} (h : m = (x.toInt32 >>> ((12 : Int32) &&& 31))) : m.toInt.natAbs ≤ 524288 := by
  have a := Jvm.RoadKit.c_ishr x.toInt32 12 12 (by decide)
  have b := Jvm.RoadKit.rng32 x.toInt32
  have c : m.toInt = x.toInt32.toInt / 4096 := by rw [h, a]; rfl
  omega
theorem own_m0 {m : Int32} (h : m = 0) : m.toInt = 0 := by rw [h]; decide
theorem own_mp {m : Int32} (h : (0 : Int32) < m) : 0 < m.toInt := Int32.lt_iff_toInt_lt.mp h
theorem own_mn {m : Int32} (h0 : ¬ m = (0 : Int32)) (h : ¬ (0 : Int32) < m) : m.toInt < 0 := by
  have h1 : ¬ 0 < m.toInt := fun q => h (Int32.lt_iff_toInt_lt.mpr q)
  have h2 : ¬ m.toInt = 0 := fun q => h0 (Int32.toInt_inj.mp (by rw [q]; decide))
  omega
/-- value()'s steps -/
theorem own_vn {x y hi : UInt64} {r : List UInt64} (hhi : hi = Jvm.FP.dadd x y) (h : own_VN (y :: r) x) : Jvm.Free.Fl.NoNaN64 (Jvm.FP.dsub hi x) ∧ Jvm.Free.Fl.NoNaN64 (Jvm.FP.dsub y (Jvm.FP.dsub hi x)) := by subst hhi; exact ⟨h.2.1, h.2.2.1⟩
theorem own_vnF {x y hi lo : UInt64} {r : List UInt64} (hhi : hi = Jvm.FP.dadd x y) (hlo : lo = Jvm.FP.dsub y (Jvm.FP.dsub hi x)) (h : own_VN (y :: r) x) (hc : ¬ (cmpValue (Jvm.FP.dcmp lo (0 : UInt64)) .l) = (0 : Int32)) (hr : r ≠ []) : own_FN hi lo := by subst hlo; subst hhi; exact h.2.2.2.1 hc hr
theorem own_vnN {x y hi lo : UInt64} {r : List UInt64} (hhi : hi = Jvm.FP.dadd x y) (hlo : lo = Jvm.FP.dsub y (Jvm.FP.dsub hi x)) (h : own_VN (y :: r) x) (hc : (cmpValue (Jvm.FP.dcmp lo (0 : UInt64)) .l) = (0 : Int32)) : own_VN r hi := by subst hlo; subst hhi; exact h.2.2.2.2 (fun q => q hc)
theorem own_val_z {x y hi lo : UInt64} {r : List UInt64} (hhi : hi = Jvm.FP.dadd x y) (hlo : lo = Jvm.FP.dsub y (Jvm.FP.dsub hi x)) (hc : (cmpValue (Jvm.FP.dcmp lo (0 : UInt64)) .l) = (0 : Int32)) : own_val (y :: r) x = own_val r hi := by
  subst hlo; subst hhi
  exact if_neg (fun q => q hc)
theorem own_val_1 {x y hi lo : UInt64} (hhi : hi = Jvm.FP.dadd x y) (hlo : lo = Jvm.FP.dsub y (Jvm.FP.dsub hi x)) (hc : ¬ (cmpValue (Jvm.FP.dcmp lo (0 : UInt64)) .l) = (0 : Int32)) : own_val [y] x = hi := by
  subst hlo; subst hhi
  exact if_pos hc
theorem own_val_f {x y p hi lo : UInt64} {r : List UInt64} (hhi : hi = Jvm.FP.dadd x y) (hlo : lo = Jvm.FP.dsub y (Jvm.FP.dsub hi x)) (hc : ¬ (cmpValue (Jvm.FP.dcmp lo (0 : UInt64)) .l) = (0 : Int32)) : own_val (y :: p :: r) x = own_vfin hi lo p := by
  subst hlo; subst hhi
  exact if_pos hc
theorem own_vf_no {h l p : UInt64} (h1 : ¬ ((own_ng l ∧ own_ng p) ∨ (own_ps l ∧ own_ps p))) : own_vfin h l p = h := if_neg h1
theorem own_vf_yn {h l p : UInt64} (h1 : (own_ng l ∧ own_ng p) ∨ (own_ps l ∧ own_ps p)) (ht : ¬ (cmpValue (Jvm.FP.dcmp (Jvm.FP.dmul l 4611686018427387904) (Jvm.FP.dsub (Jvm.FP.dadd h (Jvm.FP.dmul l 4611686018427387904)) h)) .l) = (0 : Int32)) : own_vfin h l p = h := (if_pos h1).trans (if_neg ht)
theorem own_vf_yy {h l p : UInt64} (h1 : (own_ng l ∧ own_ng p) ∨ (own_ps l ∧ own_ps p)) (ht : (cmpValue (Jvm.FP.dcmp (Jvm.FP.dmul l 4611686018427387904) (Jvm.FP.dsub (Jvm.FP.dadd h (Jvm.FP.dmul l 4611686018427387904)) h)) .l) = (0 : Int32)) : own_vfin h l p = Jvm.FP.dadd h (Jvm.FP.dmul l 4611686018427387904) := (if_pos h1).trans (if_pos ht)
theorem own_k5 {L rs : List UInt64} {k : Int32} (h : own_Res L k rs) (hl : L.length ≤ 4) : k = 0 ∨ k = 1 ∨ k = 2 ∨ k = 3 ∨ k = 4 := by
  have e := h.1
  have : k.toInt = 0 ∨ k.toInt = 1 ∨ k.toInt = 2 ∨ k.toInt = 3 ∨ k.toInt = 4 := by omega
  rcases this with q | q | q | q | q
  · exact Or.inl (Int32.toInt_inj.mp (by rw [q]; decide))
  · exact Or.inr (Or.inl (Int32.toInt_inj.mp (by rw [q]; decide)))
  · exact Or.inr (Or.inr (Or.inl (Int32.toInt_inj.mp (by rw [q]; decide))))
  · exact Or.inr (Or.inr (Or.inr (Or.inl (Int32.toInt_inj.mp (by rw [q]; decide)))))
  · exact Or.inr (Or.inr (Or.inr (Or.inr (Int32.toInt_inj.mp (by rw [q]; decide)))))
theorem own_res0 {rs : List UInt64} : own_Res [] 0 rs := ⟨by decide, rfl⟩
theorem own_V0 : own_V 0 0 := ⟨(own_zeroJ 0).1, by rw [(own_zeroJ 0).2]; rfl⟩
theorem own_val0 : (cmpValue (Jvm.FP.dcmp (own_value []) (0 : UInt64)) .l) = (0 : Int32) := (own_teV (x := own_value []) own_V0 own_V0).mpr rfl
end OwnM1
end Jvm.Pilot.@@N@@
namespace Jvm.Pilot.@@N@@
open Jvm Jvm.ClassFile Sem Op Lib Jvm.Free Jvm.Stand Jvm.LawKit Jvm.RoadKit Bundle Jvm.Pilot.@@N@@.Jvm.D
theorem d_prog_8_1_0 : decode prog_8_method_1_code 0 = .ok (.aload_n 0, 1) := by decide +kernel
theorem d_prog_8_1_1 : decode prog_8_method_1_code 1 = .ok (.invokespecial 1, 3) := by decide +kernel
theorem d_prog_8_1_4 : decode prog_8_method_1_code 4 = .ok (.aload_n 0, 1) := by decide +kernel
theorem d_prog_8_1_5 : decode prog_8_method_1_code 5 = .ok (.iconst 4, 1) := by decide +kernel
theorem d_prog_8_1_6 : decode prog_8_method_1_code 6 = .ok (.newarray .double, 2) := by decide +kernel
theorem d_prog_8_1_8 : decode prog_8_method_1_code 8 = .ok (.putfield 7, 3) := by decide +kernel
theorem d_prog_8_1_11 : decode prog_8_method_1_code 11 = .ok (.return_, 1) := by decide +kernel
theorem pn_0 : plainName "com/example/prose_to_query/prosetoquery/retrieval/ExactSum" = true := by first | (simp [plainName, overriddenIn]; done) | decide +kernel
theorem d_prog_8_2_0 : decode prog_8_method_2_code 0 = .ok (.dload_n 1, 1) := by decide +kernel
theorem d_prog_8_2_1 : decode prog_8_method_2_code 1 = .ok (.dstore_n 3, 1) := by decide +kernel
theorem d_prog_8_2_2 : decode prog_8_method_2_code 2 = .ok (.iconst 0, 1) := by decide +kernel
theorem d_prog_8_2_3 : decode prog_8_method_2_code 3 = .ok (.istore 5, 2) := by decide +kernel
theorem d_prog_8_2_5 : decode prog_8_method_2_code 5 = .ok (.iconst 0, 1) := by decide +kernel
theorem d_prog_8_2_6 : decode prog_8_method_2_code 6 = .ok (.istore 6, 2) := by decide +kernel
theorem d_prog_8_2_8 : decode prog_8_method_2_code 8 = .ok (.iload 6, 2) := by decide +kernel
theorem d_prog_8_2_10 : decode prog_8_method_2_code 10 = .ok (.aload_n 0, 1) := by decide +kernel
theorem d_prog_8_2_11 : decode prog_8_method_2_code 11 = .ok (.getfield 13, 3) := by decide +kernel
theorem d_prog_8_2_14 : decode prog_8_method_2_code 14 = .ok (.if_icmp .ge 78, 3) := by decide +kernel
theorem d_prog_8_2_92 : decode prog_8_method_2_code 92 = .ok (.iload 5, 2) := by decide +kernel
theorem d_prog_8_2_94 : decode prog_8_method_2_code 94 = .ok (.aload_n 0, 1) := by decide +kernel
theorem d_prog_8_2_95 : decode prog_8_method_2_code 95 = .ok (.getfield 7, 3) := by decide +kernel
theorem d_prog_8_2_98 : decode prog_8_method_2_code 98 = .ok (.arraylength, 1) := by decide +kernel
theorem d_prog_8_2_99 : decode prog_8_method_2_code 99 = .ok (.if_icmp .ne 18, 3) := by decide +kernel
theorem d_prog_8_2_117 : decode prog_8_method_2_code 117 = .ok (.aload_n 0, 1) := by decide +kernel
theorem d_prog_8_2_118 : decode prog_8_method_2_code 118 = .ok (.getfield 7, 3) := by decide +kernel
theorem d_prog_8_2_121 : decode prog_8_method_2_code 121 = .ok (.iload 5, 2) := by decide +kernel
theorem d_prog_8_2_123 : decode prog_8_method_2_code 123 = .ok (.iinc 5 1, 3) := by decide +kernel
theorem d_prog_8_2_126 : decode prog_8_method_2_code 126 = .ok (.dload_n 3, 1) := by decide +kernel
theorem d_prog_8_2_127 : decode prog_8_method_2_code 127 = .ok (.dastore, 1) := by decide +kernel
theorem d_prog_8_2_128 : decode prog_8_method_2_code 128 = .ok (.aload_n 0, 1) := by decide +kernel
theorem d_prog_8_2_129 : decode prog_8_method_2_code 129 = .ok (.iload 5, 2) := by decide +kernel
theorem d_prog_8_2_131 : decode prog_8_method_2_code 131 = .ok (.putfield 13, 3) := by decide +kernel
theorem d_prog_8_2_134 : decode prog_8_method_2_code 134 = .ok (.return_, 1) := by decide +kernel
theorem d_prog_8_2_17 : decode prog_8_method_2_code 17 = .ok (.aload_n 0, 1) := by decide +kernel
theorem d_prog_8_2_18 : decode prog_8_method_2_code 18 = .ok (.getfield 7, 3) := by decide +kernel
theorem d_prog_8_2_21 : decode prog_8_method_2_code 21 = .ok (.iload 6, 2) := by decide +kernel
theorem d_prog_8_2_23 : decode prog_8_method_2_code 23 = .ok (.daload, 1) := by decide +kernel
theorem d_prog_8_2_24 : decode prog_8_method_2_code 24 = .ok (.dstore 7, 2) := by decide +kernel
theorem d_prog_8_2_26 : decode prog_8_method_2_code 26 = .ok (.dload_n 3, 1) := by decide +kernel
theorem d_prog_8_2_27 : decode prog_8_method_2_code 27 = .ok (.invokestatic 17, 3) := by decide +kernel
theorem pd_0 : parseMethodDescriptor "(D)D" = some ⟨[.double], some .double⟩ := by decide +kernel
theorem d_prog_8_2_30 : decode prog_8_method_2_code 30 = .ok (.dload 7, 2) := by decide +kernel
theorem d_prog_8_2_32 : decode prog_8_method_2_code 32 = .ok (.invokestatic 17, 3) := by decide +kernel
theorem d_prog_8_2_35 : decode prog_8_method_2_code 35 = .ok (.dcmp .g, 1) := by decide +kernel
theorem d_prog_8_2_36 : decode prog_8_method_2_code 36 = .ok (.ifCond .ge 13, 3) := by decide +kernel
theorem d_prog_8_2_39 : decode prog_8_method_2_code 39 = .ok (.dload 7, 2) := by decide +kernel
theorem d_prog_8_2_41 : decode prog_8_method_2_code 41 = .ok (.dstore 9, 2) := by decide +kernel
theorem d_prog_8_2_43 : decode prog_8_method_2_code 43 = .ok (.dload_n 3, 1) := by decide +kernel
theorem d_prog_8_2_44 : decode prog_8_method_2_code 44 = .ok (.dstore 7, 2) := by decide +kernel
theorem d_prog_8_2_46 : decode prog_8_method_2_code 46 = .ok (.dload 9, 2) := by decide +kernel
theorem d_prog_8_2_48 : decode prog_8_method_2_code 48 = .ok (.dstore_n 3, 1) := by decide +kernel
theorem d_prog_8_2_49 : decode prog_8_method_2_code 49 = .ok (.dload_n 3, 1) := by decide +kernel
theorem d_prog_8_2_50 : decode prog_8_method_2_code 50 = .ok (.dload 7, 2) := by decide +kernel
theorem d_prog_8_2_52 : decode prog_8_method_2_code 52 = .ok (.dadd, 1) := by decide +kernel
theorem d_prog_8_2_53 : decode prog_8_method_2_code 53 = .ok (.dstore 9, 2) := by decide +kernel
theorem d_prog_8_2_55 : decode prog_8_method_2_code 55 = .ok (.dload 7, 2) := by decide +kernel
theorem d_prog_8_2_57 : decode prog_8_method_2_code 57 = .ok (.dload 9, 2) := by decide +kernel
theorem d_prog_8_2_59 : decode prog_8_method_2_code 59 = .ok (.dload_n 3, 1) := by decide +kernel
theorem d_prog_8_2_60 : decode prog_8_method_2_code 60 = .ok (.dsub, 1) := by decide +kernel
theorem d_prog_8_2_61 : decode prog_8_method_2_code 61 = .ok (.dsub, 1) := by decide +kernel
theorem d_prog_8_2_62 : decode prog_8_method_2_code 62 = .ok (.dstore 11, 2) := by decide +kernel
theorem d_prog_8_2_64 : decode prog_8_method_2_code 64 = .ok (.dload 11, 2) := by decide +kernel
theorem d_prog_8_2_66 : decode prog_8_method_2_code 66 = .ok (.dconst 0, 1) := by decide +kernel
theorem d_prog_8_2_67 : decode prog_8_method_2_code 67 = .ok (.dcmp .l, 1) := by decide +kernel
theorem d_prog_8_2_68 : decode prog_8_method_2_code 68 = .ok (.ifCond .eq 15, 3) := by decide +kernel
theorem d_prog_8_2_83 : decode prog_8_method_2_code 83 = .ok (.dload 9, 2) := by decide +kernel
theorem d_prog_8_2_85 : decode prog_8_method_2_code 85 = .ok (.dstore_n 3, 1) := by decide +kernel
theorem d_prog_8_2_86 : decode prog_8_method_2_code 86 = .ok (.iinc 6 1, 3) := by decide +kernel
theorem d_prog_8_2_89 : decode prog_8_method_2_code 89 = .ok (.goto (-81), 3) := by decide +kernel
theorem d_prog_8_2_71 : decode prog_8_method_2_code 71 = .ok (.aload_n 0, 1) := by decide +kernel
theorem d_prog_8_2_72 : decode prog_8_method_2_code 72 = .ok (.getfield 7, 3) := by decide +kernel
theorem d_prog_8_2_75 : decode prog_8_method_2_code 75 = .ok (.iload 5, 2) := by decide +kernel
theorem d_prog_8_2_77 : decode prog_8_method_2_code 77 = .ok (.iinc 5 1, 3) := by decide +kernel
theorem d_prog_8_2_80 : decode prog_8_method_2_code 80 = .ok (.dload 11, 2) := by decide +kernel
theorem d_prog_8_2_82 : decode prog_8_method_2_code 82 = .ok (.dastore, 1) := by decide +kernel
theorem d_prog_8_4_0 : decode prog_8_method_4_code 0 = .ok (.aload_n 0, 1) := by decide +kernel
theorem d_prog_8_4_1 : decode prog_8_method_4_code 1 = .ok (.getfield 13, 3) := by decide +kernel
theorem d_prog_8_4_4 : decode prog_8_method_4_code 4 = .ok (.ifCond .ne 5, 3) := by decide +kernel
theorem d_prog_8_4_7 : decode prog_8_method_4_code 7 = .ok (.dconst 0, 1) := by decide +kernel
theorem d_prog_8_4_8 : decode prog_8_method_4_code 8 = .ok (.dreturn, 1) := by decide +kernel
theorem d_prog_8_4_9 : decode prog_8_method_4_code 9 = .ok (.aload_n 0, 1) := by decide +kernel
theorem d_prog_8_4_10 : decode prog_8_method_4_code 10 = .ok (.getfield 13, 3) := by decide +kernel
theorem d_prog_8_4_13 : decode prog_8_method_4_code 13 = .ok (.iconst 1, 1) := by decide +kernel
theorem d_prog_8_4_14 : decode prog_8_method_4_code 14 = .ok (.isub, 1) := by decide +kernel
theorem d_prog_8_4_15 : decode prog_8_method_4_code 15 = .ok (.istore_n 1, 1) := by decide +kernel
theorem d_prog_8_4_16 : decode prog_8_method_4_code 16 = .ok (.aload_n 0, 1) := by decide +kernel
theorem d_prog_8_4_17 : decode prog_8_method_4_code 17 = .ok (.getfield 7, 3) := by decide +kernel
theorem d_prog_8_4_20 : decode prog_8_method_4_code 20 = .ok (.iload_n 1, 1) := by decide +kernel
theorem d_prog_8_4_21 : decode prog_8_method_4_code 21 = .ok (.daload, 1) := by decide +kernel
theorem d_prog_8_4_22 : decode prog_8_method_4_code 22 = .ok (.dstore_n 2, 1) := by decide +kernel
theorem d_prog_8_4_23 : decode prog_8_method_4_code 23 = .ok (.dconst 0, 1) := by decide +kernel
theorem d_prog_8_4_24 : decode prog_8_method_4_code 24 = .ok (.dstore 4, 2) := by decide +kernel
theorem d_prog_8_4_26 : decode prog_8_method_4_code 26 = .ok (.iload_n 1, 1) := by decide +kernel
theorem d_prog_8_4_27 : decode prog_8_method_4_code 27 = .ok (.ifCond .le 45, 3) := by decide +kernel
theorem d_prog_8_4_72 : decode prog_8_method_4_code 72 = .ok (.iload_n 1, 1) := by decide +kernel
theorem d_prog_8_4_73 : decode prog_8_method_4_code 73 = .ok (.ifCond .le 70, 3) := by decide +kernel
theorem d_prog_8_4_143 : decode prog_8_method_4_code 143 = .ok (.dload_n 2, 1) := by decide +kernel
theorem d_prog_8_4_144 : decode prog_8_method_4_code 144 = .ok (.dreturn, 1) := by decide +kernel
theorem d_prog_8_4_30 : decode prog_8_method_4_code 30 = .ok (.dload_n 2, 1) := by decide +kernel
theorem d_prog_8_4_31 : decode prog_8_method_4_code 31 = .ok (.dstore 6, 2) := by decide +kernel
theorem d_prog_8_4_33 : decode prog_8_method_4_code 33 = .ok (.iinc 1 (-1), 3) := by decide +kernel
theorem d_prog_8_4_36 : decode prog_8_method_4_code 36 = .ok (.aload_n 0, 1) := by decide +kernel
theorem d_prog_8_4_37 : decode prog_8_method_4_code 37 = .ok (.getfield 7, 3) := by decide +kernel
theorem d_prog_8_4_40 : decode prog_8_method_4_code 40 = .ok (.iload_n 1, 1) := by decide +kernel
theorem d_prog_8_4_41 : decode prog_8_method_4_code 41 = .ok (.daload, 1) := by decide +kernel
theorem d_prog_8_4_42 : decode prog_8_method_4_code 42 = .ok (.dstore 8, 2) := by decide +kernel
theorem d_prog_8_4_44 : decode prog_8_method_4_code 44 = .ok (.dload 6, 2) := by decide +kernel
theorem d_prog_8_4_46 : decode prog_8_method_4_code 46 = .ok (.dload 8, 2) := by decide +kernel
theorem d_prog_8_4_48 : decode prog_8_method_4_code 48 = .ok (.dadd, 1) := by decide +kernel
theorem d_prog_8_4_49 : decode prog_8_method_4_code 49 = .ok (.dstore_n 2, 1) := by decide +kernel
theorem d_prog_8_4_50 : decode prog_8_method_4_code 50 = .ok (.dload 8, 2) := by decide +kernel
theorem d_prog_8_4_52 : decode prog_8_method_4_code 52 = .ok (.dload_n 2, 1) := by decide +kernel
theorem d_prog_8_4_53 : decode prog_8_method_4_code 53 = .ok (.dload 6, 2) := by decide +kernel
theorem d_prog_8_4_55 : decode prog_8_method_4_code 55 = .ok (.dsub, 1) := by decide +kernel
theorem d_prog_8_4_56 : decode prog_8_method_4_code 56 = .ok (.dsub, 1) := by decide +kernel
theorem d_prog_8_4_57 : decode prog_8_method_4_code 57 = .ok (.dstore 4, 2) := by decide +kernel
theorem d_prog_8_4_59 : decode prog_8_method_4_code 59 = .ok (.dload 4, 2) := by decide +kernel
theorem d_prog_8_4_61 : decode prog_8_method_4_code 61 = .ok (.dconst 0, 1) := by decide +kernel
theorem d_prog_8_4_62 : decode prog_8_method_4_code 62 = .ok (.dcmp .l, 1) := by decide +kernel
theorem d_prog_8_4_63 : decode prog_8_method_4_code 63 = .ok (.ifCond .eq 6, 3) := by decide +kernel
theorem d_prog_8_4_69 : decode prog_8_method_4_code 69 = .ok (.goto (-43), 3) := by decide +kernel
theorem d_prog_8_4_66 : decode prog_8_method_4_code 66 = .ok (.goto 6, 3) := by decide +kernel
theorem d_prog_8_4_76 : decode prog_8_method_4_code 76 = .ok (.dload 4, 2) := by decide +kernel
theorem d_prog_8_4_78 : decode prog_8_method_4_code 78 = .ok (.dconst 0, 1) := by decide +kernel
theorem d_prog_8_4_79 : decode prog_8_method_4_code 79 = .ok (.dcmp .g, 1) := by decide +kernel
theorem d_prog_8_4_80 : decode prog_8_method_4_code 80 = .ok (.ifCond .ge 16, 3) := by decide +kernel
theorem d_prog_8_4_96 : decode prog_8_method_4_code 96 = .ok (.dload 4, 2) := by decide +kernel
theorem d_prog_8_4_98 : decode prog_8_method_4_code 98 = .ok (.dconst 0, 1) := by decide +kernel
theorem d_prog_8_4_99 : decode prog_8_method_4_code 99 = .ok (.dcmp .l, 1) := by decide +kernel
theorem d_prog_8_4_100 : decode prog_8_method_4_code 100 = .ok (.ifCond .le 43, 3) := by decide +kernel
theorem d_prog_8_4_103 : decode prog_8_method_4_code 103 = .ok (.aload_n 0, 1) := by decide +kernel
theorem d_prog_8_4_104 : decode prog_8_method_4_code 104 = .ok (.getfield 7, 3) := by decide +kernel
theorem d_prog_8_4_107 : decode prog_8_method_4_code 107 = .ok (.iload_n 1, 1) := by decide +kernel
theorem d_prog_8_4_108 : decode prog_8_method_4_code 108 = .ok (.iconst 1, 1) := by decide +kernel
theorem d_prog_8_4_109 : decode prog_8_method_4_code 109 = .ok (.isub, 1) := by decide +kernel
theorem d_prog_8_4_110 : decode prog_8_method_4_code 110 = .ok (.daload, 1) := by decide +kernel
theorem d_prog_8_4_111 : decode prog_8_method_4_code 111 = .ok (.dconst 0, 1) := by decide +kernel
theorem d_prog_8_4_112 : decode prog_8_method_4_code 112 = .ok (.dcmp .l, 1) := by decide +kernel
theorem d_prog_8_4_113 : decode prog_8_method_4_code 113 = .ok (.ifCond .le 30, 3) := by decide +kernel
theorem d_prog_8_4_116 : decode prog_8_method_4_code 116 = .ok (.dload 4, 2) := by decide +kernel
theorem d_prog_8_4_118 : decode prog_8_method_4_code 118 = .ok (.ldc2_w 37, 3) := by decide +kernel
theorem d_prog_8_4_121 : decode prog_8_method_4_code 121 = .ok (.dmul, 1) := by decide +kernel
theorem d_prog_8_4_122 : decode prog_8_method_4_code 122 = .ok (.dstore 6, 2) := by decide +kernel
theorem d_prog_8_4_124 : decode prog_8_method_4_code 124 = .ok (.dload_n 2, 1) := by decide +kernel
theorem d_prog_8_4_125 : decode prog_8_method_4_code 125 = .ok (.dload 6, 2) := by decide +kernel
theorem d_prog_8_4_127 : decode prog_8_method_4_code 127 = .ok (.dadd, 1) := by decide +kernel
theorem d_prog_8_4_128 : decode prog_8_method_4_code 128 = .ok (.dstore 8, 2) := by decide +kernel
theorem d_prog_8_4_130 : decode prog_8_method_4_code 130 = .ok (.dload 6, 2) := by decide +kernel
theorem d_prog_8_4_132 : decode prog_8_method_4_code 132 = .ok (.dload 8, 2) := by decide +kernel
theorem d_prog_8_4_134 : decode prog_8_method_4_code 134 = .ok (.dload_n 2, 1) := by decide +kernel
theorem d_prog_8_4_135 : decode prog_8_method_4_code 135 = .ok (.dsub, 1) := by decide +kernel
theorem d_prog_8_4_136 : decode prog_8_method_4_code 136 = .ok (.dcmp .l, 1) := by decide +kernel
theorem d_prog_8_4_137 : decode prog_8_method_4_code 137 = .ok (.ifCond .ne 6, 3) := by decide +kernel
theorem d_prog_8_4_140 : decode prog_8_method_4_code 140 = .ok (.dload 8, 2) := by decide +kernel
theorem d_prog_8_4_142 : decode prog_8_method_4_code 142 = .ok (.dstore_n 2, 1) := by decide +kernel
theorem d_prog_8_4_83 : decode prog_8_method_4_code 83 = .ok (.aload_n 0, 1) := by decide +kernel
theorem d_prog_8_4_84 : decode prog_8_method_4_code 84 = .ok (.getfield 7, 3) := by decide +kernel
theorem d_prog_8_4_87 : decode prog_8_method_4_code 87 = .ok (.iload_n 1, 1) := by decide +kernel
theorem d_prog_8_4_88 : decode prog_8_method_4_code 88 = .ok (.iconst 1, 1) := by decide +kernel
theorem d_prog_8_4_89 : decode prog_8_method_4_code 89 = .ok (.isub, 1) := by decide +kernel
theorem d_prog_8_4_90 : decode prog_8_method_4_code 90 = .ok (.daload, 1) := by decide +kernel
theorem d_prog_8_4_91 : decode prog_8_method_4_code 91 = .ok (.dconst 0, 1) := by decide +kernel
theorem d_prog_8_4_92 : decode prog_8_method_4_code 92 = .ok (.dcmp .g, 1) := by decide +kernel
theorem d_prog_8_4_93 : decode prog_8_method_4_code 93 = .ok (.ifCond .lt 23, 3) := by decide +kernel
theorem d_method_3_0 : decode method_3_code 0 = .ok (.lload_n 0, 1) := by decide +kernel
theorem d_method_3_1 : decode method_3_code 1 = .ok (.l2i, 1) := by decide +kernel
theorem d_method_3_2 : decode method_3_code 2 = .ok (.istore_n 2, 1) := by decide +kernel
theorem d_method_3_3 : decode method_3_code 3 = .ok (.lload_n 0, 1) := by decide +kernel
theorem d_method_3_4 : decode method_3_code 4 = .ok (.bipush 32, 2) := by decide +kernel
theorem d_method_3_6 : decode method_3_code 6 = .ok (.lushr, 1) := by decide +kernel
theorem d_method_3_7 : decode method_3_code 7 = .ok (.ldc2_w 37, 3) := by decide +kernel
theorem d_method_3_10 : decode method_3_code 10 = .ok (.lrem, 1) := by decide +kernel
theorem d_method_3_11 : decode method_3_code 11 = .ok (.l2i, 1) := by decide +kernel
theorem d_method_3_12 : decode method_3_code 12 = .ok (.istore_n 3, 1) := by decide +kernel
theorem d_method_3_13 : decode method_3_code 13 = .ok (.iload_n 2, 1) := by decide +kernel
theorem d_method_3_14 : decode method_3_code 14 = .ok (.i2l, 1) := by decide +kernel
theorem d_method_3_15 : decode method_3_code 15 = .ok (.iload_n 3, 1) := by decide +kernel
theorem d_method_3_16 : decode method_3_code 16 = .ok (.lshl, 1) := by decide +kernel
theorem d_method_3_17 : decode method_3_code 17 = .ok (.lreturn, 1) := by decide +kernel
theorem pn_1 : plainName "com/example/prose_to_query/prosetoquery/retrieval/ExactSumValuePinLaw" = true := by first | (simp [plainName, overriddenIn]; done) | decide +kernel
theorem d_method_4_0 : decode method_4_code 0 = .ok (.ldc2_w 39, 3) := by decide +kernel
theorem d_method_4_3 : decode method_4_code 3 = .ok (.lload_n 0, 1) := by decide +kernel
theorem d_method_4_4 : decode method_4_code 4 = .ok (.ldc2_w 41, 3) := by decide +kernel
theorem d_method_4_7 : decode method_4_code 7 = .ok (.land, 1) := by decide +kernel
theorem d_method_4_8 : decode method_4_code 8 = .ok (.lor, 1) := by decide +kernel
theorem d_method_4_9 : decode method_4_code 9 = .ok (.bipush 6, 2) := by decide +kernel
theorem d_method_4_11 : decode method_4_code 11 = .ok (.lshl, 1) := by decide +kernel
theorem d_method_4_12 : decode method_4_code 12 = .ok (.lstore_n 2, 1) := by decide +kernel
theorem d_method_4_13 : decode method_4_code 13 = .ok (.lload_n 0, 1) := by decide +kernel
theorem d_method_4_14 : decode method_4_code 14 = .ok (.lconst 0, 1) := by decide +kernel
theorem d_method_4_15 : decode method_4_code 15 = .ok (.lcmp, 1) := by decide +kernel
theorem d_method_4_16 : decode method_4_code 16 = .ok (.ifCond .ge 8, 3) := by decide +kernel
theorem d_method_4_24 : decode method_4_code 24 = .ok (.lload_n 2, 1) := by decide +kernel
theorem d_method_4_25 : decode method_4_code 25 = .ok (.lreturn, 1) := by decide +kernel
theorem d_method_4_19 : decode method_4_code 19 = .ok (.lload_n 2, 1) := by decide +kernel
theorem d_method_4_20 : decode method_4_code 20 = .ok (.lneg, 1) := by decide +kernel
theorem d_method_4_21 : decode method_4_code 21 = .ok (.goto 4, 3) := by decide +kernel
theorem d_method_5_0 : decode method_5_code 0 = .ok (.aload_n 0, 1) := by decide +kernel
theorem d_method_5_1 : decode method_5_code 1 = .ok (.iload_n 1, 1) := by decide +kernel
theorem d_method_5_2 : decode method_5_code 2 = .ok (.daload, 1) := by decide +kernel
theorem d_method_5_3 : decode method_5_code 3 = .ok (.dstore_n 3, 1) := by decide +kernel
theorem d_method_5_4 : decode method_5_code 4 = .ok (.aload_n 0, 1) := by decide +kernel
theorem d_method_5_5 : decode method_5_code 5 = .ok (.iload_n 1, 1) := by decide +kernel
theorem d_method_5_6 : decode method_5_code 6 = .ok (.aload_n 0, 1) := by decide +kernel
theorem d_method_5_7 : decode method_5_code 7 = .ok (.iload_n 2, 1) := by decide +kernel
theorem d_method_5_8 : decode method_5_code 8 = .ok (.daload, 1) := by decide +kernel
theorem d_method_5_9 : decode method_5_code 9 = .ok (.dastore, 1) := by decide +kernel
theorem d_method_5_10 : decode method_5_code 10 = .ok (.aload_n 0, 1) := by decide +kernel
theorem d_method_5_11 : decode method_5_code 11 = .ok (.iload_n 2, 1) := by decide +kernel
theorem d_method_5_12 : decode method_5_code 12 = .ok (.dload_n 3, 1) := by decide +kernel
theorem d_method_5_13 : decode method_5_code 13 = .ok (.dastore, 1) := by decide +kernel
theorem d_method_5_14 : decode method_5_code 14 = .ok (.return_, 1) := by decide +kernel
theorem pd_1 : parseMethodDescriptor "()V" = some ⟨[], none⟩ := by decide +kernel
theorem pd_2 : parseMethodDescriptor "()D" = some ⟨[], some .double⟩ := by decide +kernel
theorem pd_3 : parseMethodDescriptor "(J)J" = some ⟨[.long], some .long⟩ := by decide +kernel
theorem pd_4 : parseMethodDescriptor "([DII)V" = some ⟨[(.array .double), .int, .int], none⟩ := by decide +kernel
theorem pd_5 : parseMethodDescriptor "(D)V" = some ⟨[.double], none⟩ := by decide +kernel
theorem ef_1 (m : MethodId) (x0 : Addr) : entryFrame m #[(.ref x0)] 1 = mkF m 0 #[.val (.ref x0)] [] := by first | (simp [entryFrame, mkF, argsToLocals, Value.category]; done) | rfl
def Q1 (Z : State) (a1 : Addr) (u1 : Value) (h0 : Heap) (n0 : Nat) (v : Option Value) (h : Heap) (L : List Loc) : Prop := ∃ (ar : Addr) (kc : ClassId), v = none ∧ Fr n0 L ∧ Keep h0 h [a1] ∧ Fld Z h a1 "com/example/prose_to_query/prosetoquery/retrieval/ExactSum" "partials" "[D" (.ref ar) ∧ Fld Z h a1 "com/example/prose_to_query/prosetoquery/retrieval/ExactSum" "size" "I" (.int (0 : Int32)) ∧ Arv Z h ar kc .double (4 : Int32) [.double (0 : UInt64), .double (0 : UInt64), .double (0 : UInt64), .double (0 : UInt64)] (.double (0 : UInt64)) ∧ Exa Z h ar "[D" ∧ h0.size ≤ ar
set_option maxRecDepth 65536 in
set_option maxHeartbeats 40000000 in
theorem rm1 (l : Launch) (Z : State) (a0 : Array Value) (hw : ∀ d ∈ tables_1, d.before a0 Z = true) (ws : List Jvm.Cond) (a1 : Addr) (u1 : Value) (h0 : Heap) (n0 : Nat) (Z0 : n0 ≤ h0.size) (Ea : Exa Z h0 a1 "com/example/prose_to_query/prosetoquery/retrieval/ExactSum") (Fp : Fld Z h0 a1 "com/example/prose_to_query/prosetoquery/retrieval/ExactSum" "partials" "[D" u1) (Fs : Fld Z h0 a1 "com/example/prose_to_query/prosetoquery/retrieval/ExactSum" "size" "I" (.int (0 : Int32))) (g_a1 : n0 ≤ a1) :
    MetFree l (⟨"com/example/prose_to_query/prosetoquery/retrieval/ExactSum", "<init>", "()V"⟩ : MethodName) (head1 (Jvm.Cond.code (⟨"com/example/prose_to_query/prosetoquery/retrieval/ExactSum", "<init>", "()V"⟩ : MethodName) prog_8_method_1_code 1 none :: ws) ({ frames := 1, cells := 1, slots := 4, locals := 12 } : Room)) (fun a U => a = #[(.ref a1)] ∧ Z.Warmed39 U.vm ∧ U.heap = h0) (fun _ _ _ _ _ => True) (fun _ U o U' => ∃ v L, o = .returned v ∧ Q1 Z a1 u1 h0 n0 v U'.heap L ∧ FrameEnd U o U' L ({ frames := 1, cells := 1, slots := 4, locals := 12 } : Room).cells ({ frames := 1, cells := 1, slots := 4, locals := 12 } : Room).slots) := by
  refine MetFree.of_bodySF (plainFor_of_name pn_0) hisR ?_
  intro p e s m args below meth c s₁ Bd hml0 hP hK
  obtain ⟨rfl, hZ, hh⟩ := hP
  have hlk : meth.locks = false := BodyLoose.notSynchronized Bd
  have hx := Bd.exec
  have hby := Bd.bytes
  have hml : c.maxLocals = 1 := hml0
  have hown : s.vm.findClass "com/example/prose_to_query/prosetoquery/retrieval/ExactSum" = some m.cls := findClass_of_methodNamed Bd.named
  have hnm := (name_of_methodNamed Bd.named Bd.method).1
  have X0 : Stand p l e ({ frames := 1, cells := 1, slots := 4, locals := 12 } : Room) s m #[(.ref a1)] below meth c s₁ [] 0 0 := Stand.of_body Bd
  have e0 : s₁.heap = h0 := by rw [← hh, Bd.state]; rfl
  have N0 := Fr.nil n0
  obtain ⟨A, hA⟩ : ∃ A, A = s₁.setTop (mkF m 0 #[.val (.ref a1)] []) := ⟨_, rfl⟩
  have hA0 : ∀ t, Steps p.tables e below A t → Steps p.tables e below (s₁.setTop (entryFrame m #[(.ref a1)] 1)) t := fun t k => castTop (ef_1 m a1) (hA ▸ k)
  have k0 : ∀ t, Steps p.tables e below (s₁.setTop (mkF m 0 #[.val (.ref a1)] [])) t → Steps p.tables e below A t := fun t k => hA ▸ k
  have KK : Keep h0 h0 [a1] := Keep.refl h0 [a1]
  obtain ⟨T1, X1, e1, st1⟩ := initO X0 hx hZ hown (hw _ (List.mem_of_getElem? (i := 6) rfl)) (hw _ (List.mem_of_getElem? (i := 7) rfl)) (hw _ (List.mem_of_getElem? (i := 8) rfl)) e0 (g := (mkF m 1 #[.val (.ref a1)] [(.ref a1)])) rfl (by rw [hml]; rfl) rfl (hb hby d_prog_8_1_1) (by decide) (W := 0) (by show 2 * 0 + _ ≤ _; exact Nat.le_of_eq rfl) (by decide)
  obtain ⟨T2, h2, c2, X2, e2, E2, A2, B2, st2⟩ := newPE X1 hx hZ (hw _ (List.mem_of_getElem? (i := 9) rfl)) e1 (g := (mkF m 6 #[.val (.ref a1)] [(.int (4 : Int32)), (.ref a1)])) rfl (hb hby d_prog_8_1_6) rfl (by decide) (cap := 4) (by decide) (by decide) (by decide) (by decide) (ad := "[D") (by decide)
  obtain ⟨b2, g2⟩ : ∃ z, z = h0.size := ⟨_, rfl⟩
  rw [← g2] at A2 B2 st2
  have ne_a1_b2 : a1 ≠ b2 := Nat.ne_of_lt (Nat.lt_of_lt_of_le Ea.lt (Nat.le_of_eq g2.symm))
  have g_b2 : n0 ≤ b2 := Nat.le_trans Z0 (Nat.le_of_eq g2.symm)
  have sz_b2 : h0.size ≤ b2 := Nat.le_trans KK.1 (Nat.le_of_eq g2.symm)
  replace Ea := Ea.ext E2
  replace Fp := Fp.ext E2
  replace Fs := Fs.ext E2
  have Zs2 := Nat.le_trans Z0 E2.1
  replace KK := KK.ext E2
  have Ex_b2 := B2
  have V_b2 : Arv Z h2 b2 c2 .double (4 : Int32) [(.double (0 : UInt64)), (.double (0 : UInt64)), (.double (0 : UInt64)), (.double (0 : UInt64))] (.double (0 : UInt64)) := (Arv.new A2 (by decide)).pad (pad_rep [] (.double (0 : UInt64)) 4)
  obtain ⟨T3, h3, X3, e3, W3, st3⟩ := putF X2 hx hZ hown (host := "") (Or.inl (hw _ (List.mem_of_getElem? (i := 10) rfl))) Via.refl e2 Fp Ea (Or.inl (hw _ (List.mem_of_getElem? (i := 11) rfl))) (hw _ (List.mem_of_getElem? (i := 1) rfl)) (ty := (.array .double)) (by decide) rfl rfl (g := (mkF m 8 #[.val (.ref a1)] [(.ref b2), (.ref a1)])) rfl rfl (hb hby d_prog_8_1_8)
  replace Ea := Ea.wr W3
  replace Fs := Fs.other W3 (Or.inr (slot_ne (Or.inl (hw _ (List.mem_of_getElem? (i := 18) rfl))) (Or.inl (hw _ (List.mem_of_getElem? (i := 11) rfl))) (by decide) (t := .int) (t' := (.array .double)) (by decide) (by decide)))
  replace Ex_b2 := Ex_b2.wr W3
  replace V_b2 := V_b2.other W3 (Ne.symm ne_a1_b2)
  have Zs3 := Nat.le_trans Zs2 (Keep.of_wr W3).1
  replace KK := KK.wr W3 (Or.inl (by simp))
  replace Fp := Fp.same W3
  have N3 := Fr.snoc X3 N0 g_a1
  obtain ⟨fs, hr, hrun, hended, hW, hsame⟩ := X3.leave (v := none) (fun _ => rfl) hlk
  refine ⟨_, _, ?_, hrun, hended, _, _, rfl, ?_, ⟨_, rfl⟩, hW, hsame.mono (by decide) (by decide)⟩
  · refine hA0 _ ?_
    refine k0 _ ?_
    refine own_f_aloadN X0.here hx (hb hby d_prog_8_1_0) rfl rfl (rfl : _ = 1) ?_
    refine st1 _ ?_
    show Steps p.tables e below (T1.setTop (mkF m 4 #[.val (.ref a1)] [])) _
    refine own_f_aloadN X1.here hx (hb hby d_prog_8_1_4) rfl rfl (rfl : _ = 5) ?_
    refine own_f_iconst X1.here hx (hb hby d_prog_8_1_5) (rfl : _ = (4 : Int32)) (rfl : _ = 6) ?_
    refine st2 _ ?_
    show Steps p.tables e below (T2.setTop (mkF m 8 #[.val (.ref a1)] [(.ref b2), (.ref a1)])) _
    refine st3 _ ?_
    show Steps p.tables e below (T3.setTop (mkF m 11 #[.val (.ref a1)] [])) _
    exact X3.returnOut hx Bd.returns (hb hby d_prog_8_1_11) hr
  · show Q1 Z a1 u1 h0 n0 _ T3.heap _
    rw [e3]
    exact ⟨b2, c2, rfl, N3, KK, Fp, Fs, V_b2, Ex_b2, sz_b2⟩
theorem ef_2 (m : MethodId) (x0 : Addr) (x1 : UInt64) : entryFrame m #[(.ref x0), (.double x1)] 13 = mkF m 0 #[.val (.ref x0), .val (.double x1), .second, .unset, .unset, .unset, .unset, .unset, .unset, .unset, .unset, .unset, .unset] [] := by first | (simp [entryFrame, mkF, argsToLocals, Value.category]; done) | rfl
def Q2 (Z : State) (a1 : Addr) (dx : UInt64) (k1 : Int32) (ar : Addr) (kc : ClassId) (q0 : UInt64) (q1 : UInt64) (q2 : UInt64) (q3 : UInt64) (qs : List UInt64) (h0 : Heap) (n0 : Nat) (v : Option Value) (h : Heap) (L : List Loc) : Prop := ∃ (k2 : Int32) (r0 : UInt64) (r1 : UInt64) (r2 : UInt64) (r3 : UInt64), v = none ∧ Fr n0 L ∧ Keep h0 h [a1, ar] ∧ Fld Z h a1 "com/example/prose_to_query/prosetoquery/retrieval/ExactSum" "partials" "[D" (.ref ar) ∧ Fld Z h a1 "com/example/prose_to_query/prosetoquery/retrieval/ExactSum" "size" "I" (.int k2) ∧ Arv Z h ar kc .double (4 : Int32) [.double r0, .double r1, .double r2, .double r3] (.double (0 : UInt64)) ∧ own_Res (own_ins qs dx) k2 [r0, r1, r2, r3]
set_option maxRecDepth 65536 in
set_option maxHeartbeats 40000000 in
theorem rm2 (l : Launch) (Z : State) (a0 : Array Value) (hw : ∀ d ∈ tables_1, d.before a0 Z = true) (ws : List Jvm.Cond) (a1 : Addr) (dx : UInt64) (k1 : Int32) (ar : Addr) (kc : ClassId) (q0 : UInt64) (q1 : UInt64) (q2 : UInt64) (q3 : UInt64) (qs : List UInt64) (h0 : Heap) (n0 : Nat) (Z0 : n0 ≤ h0.size) (Ea : Exa Z h0 a1 "com/example/prose_to_query/prosetoquery/retrieval/ExactSum") (Fp : Fld Z h0 a1 "com/example/prose_to_query/prosetoquery/retrieval/ExactSum" "partials" "[D" (.ref ar)) (Fs : Fld Z h0 a1 "com/example/prose_to_query/prosetoquery/retrieval/ExactSum" "size" "I" (.int k1)) (Va : Arv Z h0 ar kc .double (4 : Int32) [.double q0, .double q1, .double q2, .double q3] (.double (0 : UInt64))) (hne : a1 ≠ ar) (g_a1 : n0 ≤ a1) (g_ar : n0 ≤ ar) (hq : own_Res qs k1 [q0, q1, q2, q3]) (hlen : qs.length ≤ 3) (hnn : own_NN qs dx) :
    MetFree l (⟨"com/example/prose_to_query/prosetoquery/retrieval/ExactSum", "add", "(D)V"⟩ : MethodName) (head1 (Jvm.Cond.code (⟨"com/example/prose_to_query/prosetoquery/retrieval/ExactSum", "add", "(D)V"⟩ : MethodName) prog_8_method_2_code 13 none :: ws) ({ frames := 1, cells := 0, slots := 0, locals := 15 } : Room)) (fun a U => a = #[(.ref a1), (.double dx)] ∧ Z.Warmed39 U.vm ∧ U.heap = h0) (fun _ _ _ _ _ => True) (fun _ U o U' => ∃ v L, o = .returned v ∧ Q2 Z a1 dx k1 ar kc q0 q1 q2 q3 qs h0 n0 v U'.heap L ∧ FrameEnd U o U' L ({ frames := 1, cells := 0, slots := 0, locals := 15 } : Room).cells ({ frames := 1, cells := 0, slots := 0, locals := 15 } : Room).slots) := by
  refine MetFree.of_bodySF (plainFor_of_name pn_0) hisR ?_
  intro p e s m args below meth c s₁ Bd hml0 hP hK
  obtain ⟨rfl, hZ, hh⟩ := hP
  have hlk : meth.locks = false := BodyLoose.notSynchronized Bd
  have hx := Bd.exec
  have hby := Bd.bytes
  have hml : c.maxLocals = 13 := hml0
  have hown : s.vm.findClass "com/example/prose_to_query/prosetoquery/retrieval/ExactSum" = some m.cls := findClass_of_methodNamed Bd.named
  have hnm := (name_of_methodNamed Bd.named Bd.method).1
  have X0 : Stand p l e ({ frames := 1, cells := 0, slots := 0, locals := 15 } : Room) s m #[(.ref a1), (.double dx)] below meth c s₁ [] 0 0 := Stand.of_body Bd
  have e0 : s₁.heap = h0 := by rw [← hh, Bd.state]; rfl
  have N0 := Fr.nil n0
  obtain ⟨A, hA⟩ : ∃ A, A = s₁.setTop (mkF m 0 #[.val (.ref a1), .val (.double dx), .second, .unset, .unset, .unset, .unset, .unset, .unset, .unset, .unset, .unset, .unset] []) := ⟨_, rfl⟩
  have hA0 : ∀ t, Steps p.tables e below A t → Steps p.tables e below (s₁.setTop (entryFrame m #[(.ref a1), (.double dx)] 13)) t := fun t k => castTop (ef_2 m a1 dx) (hA ▸ k)
  have k0 : ∀ t, Steps p.tables e below (s₁.setTop (mkF m 0 #[.val (.ref a1), .val (.double dx), .second, .unset, .unset, .unset, .unset, .unset, .unset, .unset, .unset, .unset, .unset] [])) t → Steps p.tables e below A t := fun t k => hA ▸ k
  have KK : Keep h0 h0 [a1, ar] := Keep.refl h0 [a1, ar]
  rcases own_k4 hq hlen with rfl | rfl | rfl | rfl
  · obtain rfl : qs = [] := own_qs hq 0 (by decide)
    obtain ⟨T1, X1, e1, st1⟩ := getF X0 hx hZ hown (host := "") (Or.inl (hw _ (List.mem_of_getElem? (i := 17) rfl))) Via.refl e0 Fs (g := (mkF m 11 #[.val (.ref a1), .val (.double dx), .second, .val (.double dx), .second, .val (.int (0 : Int32)), .val (.int (0 : Int32)), .unset, .unset, .unset, .unset, .unset, .unset] [(.ref a1), (.int (0 : Int32))])) rfl rfl (hb hby d_prog_8_2_11)
    obtain ⟨T2, X2, e2, st2⟩ := getF X1 hx hZ hown (host := "") (Or.inl (hw _ (List.mem_of_getElem? (i := 10) rfl))) Via.refl e1 Fp (g := (mkF m 95 #[.val (.ref a1), .val (.double dx), .second, .val (.double dx), .second, .val (.int (0 : Int32)), .val (.int (0 : Int32)), .unset, .unset, .unset, .unset, .unset, .unset] [(.ref a1), (.int (0 : Int32))])) rfl rfl (hb hby d_prog_8_2_95)
    obtain ⟨cl3, Ar3, -, Sz3, Ng3, -, -⟩ := id Va
    obtain ⟨T4, X4, e4, st4⟩ := getF X2 hx hZ hown (host := "") (Or.inl (hw _ (List.mem_of_getElem? (i := 10) rfl))) Via.refl e2 Fp (g := (mkF m 118 #[.val (.ref a1), .val (.double dx), .second, .val (.double dx), .second, .val (.int (0 : Int32)), .val (.int (0 : Int32)), .unset, .unset, .unset, .unset, .unset, .unset] [(.ref a1)])) rfl rfl (hb hby d_prog_8_2_118)
    obtain ⟨cl5, Ar5, q5, Sz5, Ng5, Hs5, Gs5⟩ := Va
    have hin5 : ¬ ((0 : Int32) < 0 ∨ cl5.slots.size ≤ ((0 : Int32)).toNatClampNeg) := inb_of Sz5 ⟨by decide, by decide⟩
    obtain ⟨T6, h6, X6, e6, W6, st6⟩ := stD X4 hx hZ e4 Ar5 (j := (0 : Int32)) hin5 (g := (mkF m 127 #[.val (.ref a1), .val (.double dx), .second, .val (.double dx), .second, .val (.int (1 : Int32)), .val (.int (0 : Int32)), .unset, .unset, .unset, .unset, .unset, .unset] [(.double dx), (.int (0 : Int32)), (.ref ar)])) rfl rfl (hb hby d_prog_8_2_127)
    replace Ea := Ea.wr W6
    replace Fp := Fp.other W6 (Or.inl hne)
    replace Fs := Fs.other W6 (Or.inl hne)
    have Zs6 := Nat.le_trans Z0 (Keep.of_wr W6).1
    replace KK := KK.wr W6 (Or.inl (by simp))
    have Va : Arv Z h6 ar kc .double (4 : Int32) [(.double dx), (.double q1), (.double q2), (.double q3)] (.double (0 : UInt64)) := Arv.set Ar5 q5 Sz5 Ng5 Hs5 Gs5 rfl W6 0 rfl (Nat.le_of_ble_eq_true rfl)
    have N6 := Fr.snoc X6 N0 g_ar
    obtain ⟨T7, h7, X7, e7, W7, st7⟩ := putF X6 hx hZ hown (host := "") (Or.inl (hw _ (List.mem_of_getElem? (i := 17) rfl))) Via.refl e6 Fs Ea (Or.inl (hw _ (List.mem_of_getElem? (i := 18) rfl))) (hw _ (List.mem_of_getElem? (i := 1) rfl)) (ty := .int) (by decide) rfl rfl (g := (mkF m 131 #[.val (.ref a1), .val (.double dx), .second, .val (.double dx), .second, .val (.int (1 : Int32)), .val (.int (0 : Int32)), .unset, .unset, .unset, .unset, .unset, .unset] [(.int (1 : Int32)), (.ref a1)])) rfl rfl (hb hby d_prog_8_2_131)
    replace Ea := Ea.wr W7
    replace Fp := Fp.other W7 (Or.inr (slot_ne (Or.inl (hw _ (List.mem_of_getElem? (i := 11) rfl))) (Or.inl (hw _ (List.mem_of_getElem? (i := 18) rfl))) (by decide) (t := (.array .double)) (t' := .int) (by decide) (by decide)))
    replace Va := Va.other W7 (Ne.symm hne)
    have Zs7 := Nat.le_trans Zs6 (Keep.of_wr W7).1
    replace KK := KK.wr W7 (Or.inl (by simp))
    replace Fs := Fs.same W7
    have N7 := Fr.snoc X7 N6 g_a1
    obtain ⟨fs, hr, hrun, hended, hW, hsame⟩ := X7.leave (v := none) (fun _ => rfl) hlk
    refine ⟨_, _, ?_, hrun, hended, _, _, rfl, ?_, ⟨_, rfl⟩, hW, hsame.mono (by decide) (by decide)⟩
    · refine hA0 _ ?_
      refine k0 _ ?_
      refine own_f_dloadN X0.here hx (hb hby d_prog_8_2_0) rfl (rfl : _ = 1) ?_
      refine own_f_dstoreN X0.here hx (hb hby d_prog_8_2_1) (rfl : storeLocals _ _ _ = some #[.val (.ref a1), .val (.double dx), .second, .val (.double dx), .second, .unset, .unset, .unset, .unset, .unset, .unset, .unset, .unset]) (rfl : _ = 2) ?_
      refine own_f_iconst X0.here hx (hb hby d_prog_8_2_2) (rfl : _ = (0 : Int32)) (rfl : _ = 3) ?_
      refine own_f_istore X0.here hx (hb hby d_prog_8_2_3) (rfl : storeLocals _ _ _ = some #[.val (.ref a1), .val (.double dx), .second, .val (.double dx), .second, .val (.int (0 : Int32)), .unset, .unset, .unset, .unset, .unset, .unset, .unset]) (rfl : _ = 5) ?_
      refine own_f_iconst X0.here hx (hb hby d_prog_8_2_5) (rfl : _ = (0 : Int32)) (rfl : _ = 6) ?_
      refine own_f_istore X0.here hx (hb hby d_prog_8_2_6) (rfl : storeLocals _ _ _ = some #[.val (.ref a1), .val (.double dx), .second, .val (.double dx), .second, .val (.int (0 : Int32)), .val (.int (0 : Int32)), .unset, .unset, .unset, .unset, .unset, .unset]) (rfl : _ = 8) ?_
      refine own_f_iload X0.here hx (hb hby d_prog_8_2_8) rfl (rfl : _ = 10) ?_
      refine own_f_aloadN X0.here hx (hb hby d_prog_8_2_10) rfl rfl (rfl : _ = 11) ?_
      refine st1 _ ?_
      show Steps p.tables e below (T1.setTop (mkF m 14 #[.val (.ref a1), .val (.double dx), .second, .val (.double dx), .second, .val (.int (0 : Int32)), .val (.int (0 : Int32)), .unset, .unset, .unset, .unset, .unset, .unset] [(.int (0 : Int32)), (.int (0 : Int32))])) _
      refine own_f_icmpYes X1.here hx (hb hby d_prog_8_2_14) (flt (by decide)).2.1 (by decide) (by decide : _ = 92) ?_
      refine own_f_iload X1.here hx (hb hby d_prog_8_2_92) rfl (rfl : _ = 94) ?_
      refine own_f_aloadN X1.here hx (hb hby d_prog_8_2_94) rfl rfl (rfl : _ = 95) ?_
      refine st2 _ ?_
      show Steps p.tables e below (T2.setTop (mkF m 98 #[.val (.ref a1), .val (.double dx), .second, .val (.double dx), .second, .val (.int (0 : Int32)), .val (.int (0 : Int32)), .unset, .unset, .unset, .unset, .unset, .unset] [(.ref ar), (.int (0 : Int32))])) _
      refine X2.arraylength hx (by rw [e2]; exact Ar3.1) (State.isArrayOf_alike hZ.alike Ar3.2.1) (g := (mkF m 98 #[.val (.ref a1), .val (.double dx), .second, .val (.double dx), .second, .val (.int (0 : Int32)), .val (.int (0 : Int32)), .unset, .unset, .unset, .unset, .unset, .unset] [(.ref ar), (.int (0 : Int32))])) rfl rfl (hb hby d_prog_8_2_98) _ ?_
      rw [len_of Sz3 Ng3]
      show Steps p.tables e below (T2.setTop (mkF m 99 #[.val (.ref a1), .val (.double dx), .second, .val (.double dx), .second, .val (.int (0 : Int32)), .val (.int (0 : Int32)), .unset, .unset, .unset, .unset, .unset, .unset] [(.int (4 : Int32)), (.int (0 : Int32))])) _
      refine own_f_icmpYes X2.here hx (hb hby d_prog_8_2_99) (feq (by decide)).2 (by decide) (by decide : _ = 117) ?_
      refine own_f_aloadN X2.here hx (hb hby d_prog_8_2_117) rfl rfl (rfl : _ = 118) ?_
      refine st4 _ ?_
      show Steps p.tables e below (T4.setTop (mkF m 121 #[.val (.ref a1), .val (.double dx), .second, .val (.double dx), .second, .val (.int (0 : Int32)), .val (.int (0 : Int32)), .unset, .unset, .unset, .unset, .unset, .unset] [(.ref ar)])) _
      refine own_f_iload X4.here hx (hb hby d_prog_8_2_121) rfl (rfl : _ = 123) ?_
      refine own_f_iinc X4.here hx (hb hby d_prog_8_2_123) rfl (rfl : storeLocals _ _ _ = some #[.val (.ref a1), .val (.double dx), .second, .val (.double dx), .second, .val (.int (1 : Int32)), .val (.int (0 : Int32)), .unset, .unset, .unset, .unset, .unset, .unset]) (rfl : _ = 126) ?_
      refine own_f_dloadN X4.here hx (hb hby d_prog_8_2_126) rfl (rfl : _ = 127) ?_
      refine st6 _ ?_
      show Steps p.tables e below (T6.setTop (mkF m 128 #[.val (.ref a1), .val (.double dx), .second, .val (.double dx), .second, .val (.int (1 : Int32)), .val (.int (0 : Int32)), .unset, .unset, .unset, .unset, .unset, .unset] [])) _
      refine own_f_aloadN X6.here hx (hb hby d_prog_8_2_128) rfl rfl (rfl : _ = 129) ?_
      refine own_f_iload X6.here hx (hb hby d_prog_8_2_129) rfl (rfl : _ = 131) ?_
      refine st7 _ ?_
      show Steps p.tables e below (T7.setTop (mkF m 134 #[.val (.ref a1), .val (.double dx), .second, .val (.double dx), .second, .val (.int (1 : Int32)), .val (.int (0 : Int32)), .unset, .unset, .unset, .unset, .unset, .unset] [])) _
      exact X7.returnOut hx Bd.returns (hb hby d_prog_8_2_134) hr
    · show Q2 Z a1 dx _ ar kc q0 q1 q2 q3 _ h0 n0 _ T7.heap _
      rw [e7]
      exact ⟨(1 : Int32), dx, q1, q2, q3, rfl, N7, KK, Fp, Fs, Va, own_res (M := [dx]) (by rfl) (by show Int32.toInt 1 = ((1 : Nat) : Int); decide) rfl⟩
  · obtain rfl : qs = [q0] := own_qs hq 1 (by decide)
    obtain ⟨T8, X8, e8, st8⟩ := getF X0 hx hZ hown (host := "") (Or.inl (hw _ (List.mem_of_getElem? (i := 17) rfl))) Via.refl e0 Fs (g := (mkF m 11 #[.val (.ref a1), .val (.double dx), .second, .val (.double dx), .second, .val (.int (0 : Int32)), .val (.int (0 : Int32)), .unset, .unset, .unset, .unset, .unset, .unset] [(.ref a1), (.int (0 : Int32))])) rfl rfl (hb hby d_prog_8_2_11)
    obtain ⟨T9, X9, e9, st9⟩ := getF X8 hx hZ hown (host := "") (Or.inl (hw _ (List.mem_of_getElem? (i := 10) rfl))) Via.refl e8 Fp (g := (mkF m 18 #[.val (.ref a1), .val (.double dx), .second, .val (.double dx), .second, .val (.int (0 : Int32)), .val (.int (0 : Int32)), .unset, .unset, .unset, .unset, .unset, .unset] [(.ref a1)])) rfl rfl (hb hby d_prog_8_2_18)
    obtain ⟨cl10, Ar10, -, Sz10, Ng10, Hs10, -⟩ := id Va
    have hin10 : ¬ ((0 : Int32) < 0 ∨ cl10.slots.size ≤ ((0 : Int32)).toNatClampNeg) := inb_of Sz10 ⟨by decide, by decide⟩
    have hat10 : cl10.slots[((0 : Int32)).toNatClampNeg]? = some (.double q0) := Hs10 _ (Nat.lt_of_not_le fun q => hin10 (Or.inr q))
    obtain ⟨⟨nx0, nq0⟩, na0, nb0, nc0, -⟩ := own_nn hnn
    obtain ⟨T11, X11, e11, st11⟩ := natS X9 hx hZ hown (hw _ (List.mem_of_getElem? (i := 38) rfl)) (hw _ (List.mem_of_getElem? (i := 39) rfl)) (hw _ (List.mem_of_getElem? (i := 40) rfl)) (hw _ (List.mem_of_getElem? (i := 41) rfl)) (by decide) e9 (W := 0) (val' := (.double (dx &&& 0x7fffffffffffffff))) (fun c => Jvm.Free.Fl.Abs.absD_pays dx c (by decide) (by decide)) (g := (mkF m 27 #[.val (.ref a1), .val (.double dx), .second, .val (.double dx), .second, .val (.int (0 : Int32)), .val (.int (0 : Int32)), .val (.double q0), .second, .unset, .unset, .unset, .unset] [(.double dx)])) rfl (by rw [hml]; rfl) (argsL := [(.double dx)]) (rest := []) (lenOf pd_0 rfl) rfl (by show 2 * 0 + _ ≤ _; exact Nat.le_of_eq rfl) (hb hby d_prog_8_2_27) (by decide) (by decide) ⟨rfl, nx0⟩ rfl
    obtain ⟨T12, X12, e12, st12⟩ := natS X11 hx hZ hown (hw _ (List.mem_of_getElem? (i := 38) rfl)) (hw _ (List.mem_of_getElem? (i := 39) rfl)) (hw _ (List.mem_of_getElem? (i := 40) rfl)) (hw _ (List.mem_of_getElem? (i := 41) rfl)) (by decide) e11 (W := 2) (val' := (.double (q0 &&& 0x7fffffffffffffff))) (fun c => Jvm.Free.Fl.Abs.absD_pays q0 c (by decide) (by decide)) (g := (mkF m 32 #[.val (.ref a1), .val (.double dx), .second, .val (.double dx), .second, .val (.int (0 : Int32)), .val (.int (0 : Int32)), .val (.double q0), .second, .unset, .unset, .unset, .unset] [(.double q0), (.double (dx &&& 0x7fffffffffffffff))])) rfl (by rw [hml]; rfl) (argsL := [(.double q0)]) (rest := [(.double (dx &&& 0x7fffffffffffffff))]) (lenOf pd_0 rfl) rfl (by show 2 * 0 + _ ≤ _; exact Nat.le_of_eq rfl) (hb hby d_prog_8_2_32) (by decide) (by decide) ⟨rfl, nq0⟩ rfl
    have k13 : ∀ t_, Steps p.tables e below (T12.setTop (mkF m 36 #[.val (.ref a1), .val (.double dx), .second, .val (.double dx), .second, .val (.int (0 : Int32)), .val (.int (0 : Int32)), .val (.double q0), .second, .unset, .unset, .unset, .unset] [(.int (cmpValue (FP.dcmp (dx &&& 0x7fffffffffffffff) (q0 &&& 0x7fffffffffffffff)) .g))])) t_ → Steps p.tables e below A t_ := by
      intro t_ ht_
      refine k0 t_ ?_
      refine own_f_dloadN X0.here hx (hb hby d_prog_8_2_0) rfl (rfl : _ = 1) ?_
      refine own_f_dstoreN X0.here hx (hb hby d_prog_8_2_1) (rfl : storeLocals _ _ _ = some #[.val (.ref a1), .val (.double dx), .second, .val (.double dx), .second, .unset, .unset, .unset, .unset, .unset, .unset, .unset, .unset]) (rfl : _ = 2) ?_
      refine own_f_iconst X0.here hx (hb hby d_prog_8_2_2) (rfl : _ = (0 : Int32)) (rfl : _ = 3) ?_
      refine own_f_istore X0.here hx (hb hby d_prog_8_2_3) (rfl : storeLocals _ _ _ = some #[.val (.ref a1), .val (.double dx), .second, .val (.double dx), .second, .val (.int (0 : Int32)), .unset, .unset, .unset, .unset, .unset, .unset, .unset]) (rfl : _ = 5) ?_
      refine own_f_iconst X0.here hx (hb hby d_prog_8_2_5) (rfl : _ = (0 : Int32)) (rfl : _ = 6) ?_
      refine own_f_istore X0.here hx (hb hby d_prog_8_2_6) (rfl : storeLocals _ _ _ = some #[.val (.ref a1), .val (.double dx), .second, .val (.double dx), .second, .val (.int (0 : Int32)), .val (.int (0 : Int32)), .unset, .unset, .unset, .unset, .unset, .unset]) (rfl : _ = 8) ?_
      refine own_f_iload X0.here hx (hb hby d_prog_8_2_8) rfl (rfl : _ = 10) ?_
      refine own_f_aloadN X0.here hx (hb hby d_prog_8_2_10) rfl rfl (rfl : _ = 11) ?_
      refine st8 _ ?_
      show Steps p.tables e below (T8.setTop (mkF m 14 #[.val (.ref a1), .val (.double dx), .second, .val (.double dx), .second, .val (.int (0 : Int32)), .val (.int (0 : Int32)), .unset, .unset, .unset, .unset, .unset, .unset] [(.int (1 : Int32)), (.int (0 : Int32))])) t_
      refine own_f_icmpNo X8.here hx (hb hby d_prog_8_2_14) (tlt (by decide)).2.1 (rfl : _ = 17) ?_
      refine own_f_aloadN X8.here hx (hb hby d_prog_8_2_17) rfl rfl (rfl : _ = 18) ?_
      refine st9 _ ?_
      show Steps p.tables e below (T9.setTop (mkF m 21 #[.val (.ref a1), .val (.double dx), .second, .val (.double dx), .second, .val (.int (0 : Int32)), .val (.int (0 : Int32)), .unset, .unset, .unset, .unset, .unset, .unset] [(.ref ar)])) t_
      refine own_f_iload X9.here hx (hb hby d_prog_8_2_21) rfl (rfl : _ = 23) ?_
      refine X9.daload hx (j := (0 : Int32)) (v := (.double q0)) (by rw [e9]; exact Ar10.1) (State.isArrayOf_alike hZ.alike Ar10.2.1) Ar10.2.2 hin10 hat10 (g := (mkF m 23 #[.val (.ref a1), .val (.double dx), .second, .val (.double dx), .second, .val (.int (0 : Int32)), .val (.int (0 : Int32)), .unset, .unset, .unset, .unset, .unset, .unset] [(.int (0 : Int32)), (.ref ar)])) rfl rfl (hb hby d_prog_8_2_23) _ ?_
      show Steps p.tables e below (T9.setTop (mkF m 24 #[.val (.ref a1), .val (.double dx), .second, .val (.double dx), .second, .val (.int (0 : Int32)), .val (.int (0 : Int32)), .unset, .unset, .unset, .unset, .unset, .unset] [(.double q0)])) t_
      refine own_f_dstore X9.here hx (hb hby d_prog_8_2_24) (rfl : storeLocals _ _ _ = some #[.val (.ref a1), .val (.double dx), .second, .val (.double dx), .second, .val (.int (0 : Int32)), .val (.int (0 : Int32)), .val (.double q0), .second, .unset, .unset, .unset, .unset]) (rfl : _ = 26) ?_
      refine own_f_dloadN X9.here hx (hb hby d_prog_8_2_26) rfl (rfl : _ = 27) ?_
      refine st11 _ ?_
      show Steps p.tables e below (T11.setTop (mkF m 30 #[.val (.ref a1), .val (.double dx), .second, .val (.double dx), .second, .val (.int (0 : Int32)), .val (.int (0 : Int32)), .val (.double q0), .second, .unset, .unset, .unset, .unset] [(.double (dx &&& 0x7fffffffffffffff))])) t_
      refine own_f_dload X11.here hx (hb hby d_prog_8_2_30) rfl (rfl : _ = 32) ?_
      refine st12 _ ?_
      show Steps p.tables e below (T12.setTop (mkF m 35 #[.val (.ref a1), .val (.double dx), .second, .val (.double dx), .second, .val (.int (0 : Int32)), .val (.int (0 : Int32)), .val (.double q0), .second, .unset, .unset, .unset, .unset] [(.double (q0 &&& 0x7fffffffffffffff)), (.double (dx &&& 0x7fffffffffffffff))])) t_
      refine own_f_dcmp X12.here hx (hb hby d_prog_8_2_35) rfl (rfl : _ = 36) ?_
      exact ht_
    have k14 : ∀ t_, Steps p.tables e below (T12.setTop (mkF m 64 #[.val (.ref a1), .val (.double dx), .second, .val (.double (own_fst dx q0)), .second, .val (.int (0 : Int32)), .val (.int (0 : Int32)), .val (.double (own_snd dx q0)), .second, .val (.double (FP.dadd (own_fst dx q0) (own_snd dx q0))), .second, .val (.double (own_lo (own_fst dx q0) (own_snd dx q0))), .second] [])) t_ → Steps p.tables e below A t_ := by
      intro t_ ht_
      refine k13 t_ ?_
      by_cases hsw : own_lt dx q0
      · have e1 : own_fst dx q0 = q0 := if_pos hsw
        have e2 : own_snd dx q0 = dx := if_pos hsw
        rw [e1, e2] at ht_ na0 nb0 nc0
        have hs_ : (cmpValue (FP.dcmp (dx &&& 0x7fffffffffffffff) (q0 &&& 0x7fffffffffffffff)) .g) < (0 : Int32) := hsw
        refine own_f_ifNo X12.here hx (hb hby d_prog_8_2_36) ((if0 _ _).trans (tlt (hs_)).2.1) (rfl : _ = 39) ?_
        refine own_f_dload X12.here hx (hb hby d_prog_8_2_39) rfl (rfl : _ = 41) ?_
        refine own_f_dstore X12.here hx (hb hby d_prog_8_2_41) (rfl : storeLocals _ _ _ = some #[.val (.ref a1), .val (.double dx), .second, .val (.double dx), .second, .val (.int (0 : Int32)), .val (.int (0 : Int32)), .val (.double q0), .second, .val (.double q0), .second, .unset, .unset]) (rfl : _ = 43) ?_
        refine own_f_dloadN X12.here hx (hb hby d_prog_8_2_43) rfl (rfl : _ = 44) ?_
        refine own_f_dstore X12.here hx (hb hby d_prog_8_2_44) (rfl : storeLocals _ _ _ = some #[.val (.ref a1), .val (.double dx), .second, .val (.double dx), .second, .val (.int (0 : Int32)), .val (.int (0 : Int32)), .val (.double dx), .second, .val (.double q0), .second, .unset, .unset]) (rfl : _ = 46) ?_
        refine own_f_dload X12.here hx (hb hby d_prog_8_2_46) rfl (rfl : _ = 48) ?_
        refine own_f_dstoreN X12.here hx (hb hby d_prog_8_2_48) (rfl : storeLocals _ _ _ = some #[.val (.ref a1), .val (.double dx), .second, .val (.double q0), .second, .val (.int (0 : Int32)), .val (.int (0 : Int32)), .val (.double dx), .second, .val (.double q0), .second, .unset, .unset]) (rfl : _ = 49) ?_
        refine own_f_dloadN X12.here hx (hb hby d_prog_8_2_49) rfl (rfl : _ = 50) ?_
        refine own_f_dload X12.here hx (hb hby d_prog_8_2_50) rfl (rfl : _ = 52) ?_
        refine own_f_dadd X12.here hx (hb hby d_prog_8_2_52) (na0) rfl (rfl : _ = 53) ?_
        refine own_f_dstore X12.here hx (hb hby d_prog_8_2_53) (rfl : storeLocals _ _ _ = some #[.val (.ref a1), .val (.double dx), .second, .val (.double q0), .second, .val (.int (0 : Int32)), .val (.int (0 : Int32)), .val (.double dx), .second, .val (.double (FP.dadd q0 dx)), .second, .unset, .unset]) (rfl : _ = 55) ?_
        refine own_f_dload X12.here hx (hb hby d_prog_8_2_55) rfl (rfl : _ = 57) ?_
        refine own_f_dload X12.here hx (hb hby d_prog_8_2_57) rfl (rfl : _ = 59) ?_
        refine own_f_dloadN X12.here hx (hb hby d_prog_8_2_59) rfl (rfl : _ = 60) ?_
        refine own_f_dsub X12.here hx (hb hby d_prog_8_2_60) (nb0) rfl (rfl : _ = 61) ?_
        refine own_f_dsub X12.here hx (hb hby d_prog_8_2_61) (nc0) rfl (rfl : _ = 62) ?_
        refine own_f_dstore X12.here hx (hb hby d_prog_8_2_62) (rfl : storeLocals _ _ _ = some #[.val (.ref a1), .val (.double dx), .second, .val (.double q0), .second, .val (.int (0 : Int32)), .val (.int (0 : Int32)), .val (.double dx), .second, .val (.double (FP.dadd q0 dx)), .second, .val (.double (FP.dsub dx (FP.dsub (FP.dadd q0 dx) q0))), .second]) (rfl : _ = 64) ?_
        exact ht_
      · have e1 : own_fst dx q0 = dx := if_neg hsw
        have e2 : own_snd dx q0 = q0 := if_neg hsw
        rw [e1, e2] at ht_ na0 nb0 nc0
        have hs_ : ¬ ((cmpValue (FP.dcmp (dx &&& 0x7fffffffffffffff) (q0 &&& 0x7fffffffffffffff)) .g) < (0 : Int32)) := hsw
        refine own_f_ifYes X12.here hx (hb hby d_prog_8_2_36) ((if0 _ _).trans (flt (hs_)).2.1) (by decide) (by decide : _ = 49) ?_
        refine own_f_dloadN X12.here hx (hb hby d_prog_8_2_49) rfl (rfl : _ = 50) ?_
        refine own_f_dload X12.here hx (hb hby d_prog_8_2_50) rfl (rfl : _ = 52) ?_
        refine own_f_dadd X12.here hx (hb hby d_prog_8_2_52) (na0) rfl (rfl : _ = 53) ?_
        refine own_f_dstore X12.here hx (hb hby d_prog_8_2_53) (rfl : storeLocals _ _ _ = some #[.val (.ref a1), .val (.double dx), .second, .val (.double dx), .second, .val (.int (0 : Int32)), .val (.int (0 : Int32)), .val (.double q0), .second, .val (.double (FP.dadd dx q0)), .second, .unset, .unset]) (rfl : _ = 55) ?_
        refine own_f_dload X12.here hx (hb hby d_prog_8_2_55) rfl (rfl : _ = 57) ?_
        refine own_f_dload X12.here hx (hb hby d_prog_8_2_57) rfl (rfl : _ = 59) ?_
        refine own_f_dloadN X12.here hx (hb hby d_prog_8_2_59) rfl (rfl : _ = 60) ?_
        refine own_f_dsub X12.here hx (hb hby d_prog_8_2_60) (nb0) rfl (rfl : _ = 61) ?_
        refine own_f_dsub X12.here hx (hb hby d_prog_8_2_61) (nc0) rfl (rfl : _ = 62) ?_
        refine own_f_dstore X12.here hx (hb hby d_prog_8_2_62) (rfl : storeLocals _ _ _ = some #[.val (.ref a1), .val (.double dx), .second, .val (.double dx), .second, .val (.int (0 : Int32)), .val (.int (0 : Int32)), .val (.double q0), .second, .val (.double (FP.dadd dx q0)), .second, .val (.double (FP.dsub q0 (FP.dsub (FP.dadd dx q0) dx))), .second]) (rfl : _ = 64) ?_
        exact ht_
    obtain ⟨hi0, hhi0⟩ : ∃ z : UInt64, z = (FP.dadd (own_fst dx q0) (own_snd dx q0)) := ⟨_, rfl⟩
    rw [← hhi0] at k14
    obtain ⟨lo0, hlo0⟩ : ∃ z : UInt64, z = (own_lo (own_fst dx q0) (own_snd dx q0)) := ⟨_, rfl⟩
    rw [← hlo0] at k14
    replace hnn := own_nn' hhi0 hnn
    have k15 : ∀ t_, Steps p.tables e below (T12.setTop (mkF m 68 #[.val (.ref a1), .val (.double dx), .second, .val (.double (own_fst dx q0)), .second, .val (.int (0 : Int32)), .val (.int (0 : Int32)), .val (.double (own_snd dx q0)), .second, .val (.double hi0), .second, .val (.double lo0), .second] [(.int (cmpValue (FP.dcmp lo0 (0 : UInt64)) .l))])) t_ → Steps p.tables e below A t_ := by
      intro t_ ht_
      refine k14 t_ ?_
      refine own_f_dload X12.here hx (hb hby d_prog_8_2_64) rfl (rfl : _ = 66) ?_
      refine own_f_dconst0 X12.here hx (hb hby d_prog_8_2_66) (rfl : _ = (0 : UInt64)) (rfl : _ = 67) ?_
      refine own_f_dcmp X12.here hx (hb hby d_prog_8_2_67) rfl (rfl : _ = 68) ?_
      exact ht_
    by_cases hz0 : (cmpValue (FP.dcmp lo0 (0 : UInt64)) .l) = (0 : Int32)
    · obtain ⟨T16, X16, e16, st16⟩ := getF X12 hx hZ hown (host := "") (Or.inl (hw _ (List.mem_of_getElem? (i := 17) rfl))) Via.refl e12 Fs (g := (mkF m 11 #[.val (.ref a1), .val (.double dx), .second, .val (.double hi0), .second, .val (.int (0 : Int32)), .val (.int (1 : Int32)), .val (.double (own_snd dx q0)), .second, .val (.double hi0), .second, .val (.double lo0), .second] [(.ref a1), (.int (1 : Int32))])) rfl rfl (hb hby d_prog_8_2_11)
      obtain ⟨T17, X17, e17, st17⟩ := getF X16 hx hZ hown (host := "") (Or.inl (hw _ (List.mem_of_getElem? (i := 10) rfl))) Via.refl e16 Fp (g := (mkF m 95 #[.val (.ref a1), .val (.double dx), .second, .val (.double hi0), .second, .val (.int (0 : Int32)), .val (.int (1 : Int32)), .val (.double (own_snd dx q0)), .second, .val (.double hi0), .second, .val (.double lo0), .second] [(.ref a1), (.int (0 : Int32))])) rfl rfl (hb hby d_prog_8_2_95)
      obtain ⟨cl18, Ar18, -, Sz18, Ng18, -, -⟩ := id Va
      obtain ⟨T19, X19, e19, st19⟩ := getF X17 hx hZ hown (host := "") (Or.inl (hw _ (List.mem_of_getElem? (i := 10) rfl))) Via.refl e17 Fp (g := (mkF m 118 #[.val (.ref a1), .val (.double dx), .second, .val (.double hi0), .second, .val (.int (0 : Int32)), .val (.int (1 : Int32)), .val (.double (own_snd dx q0)), .second, .val (.double hi0), .second, .val (.double lo0), .second] [(.ref a1)])) rfl rfl (hb hby d_prog_8_2_118)
      obtain ⟨cl20, Ar20, q20, Sz20, Ng20, Hs20, Gs20⟩ := Va
      have hin20 : ¬ ((0 : Int32) < 0 ∨ cl20.slots.size ≤ ((0 : Int32)).toNatClampNeg) := inb_of Sz20 ⟨by decide, by decide⟩
      obtain ⟨T21, h21, X21, e21, W21, st21⟩ := stD X19 hx hZ e19 Ar20 (j := (0 : Int32)) hin20 (g := (mkF m 127 #[.val (.ref a1), .val (.double dx), .second, .val (.double hi0), .second, .val (.int (1 : Int32)), .val (.int (1 : Int32)), .val (.double (own_snd dx q0)), .second, .val (.double hi0), .second, .val (.double lo0), .second] [(.double hi0), (.int (0 : Int32)), (.ref ar)])) rfl rfl (hb hby d_prog_8_2_127)
      replace Ea := Ea.wr W21
      replace Fp := Fp.other W21 (Or.inl hne)
      replace Fs := Fs.other W21 (Or.inl hne)
      have Zs21 := Nat.le_trans Z0 (Keep.of_wr W21).1
      replace KK := KK.wr W21 (Or.inl (by simp))
      have Va : Arv Z h21 ar kc .double (4 : Int32) [(.double hi0), (.double q1), (.double q2), (.double q3)] (.double (0 : UInt64)) := Arv.set Ar20 q20 Sz20 Ng20 Hs20 Gs20 rfl W21 0 rfl (Nat.le_of_ble_eq_true rfl)
      have N21 := Fr.snoc X21 N0 g_ar
      obtain ⟨T22, h22, X22, e22, W22, st22⟩ := putF X21 hx hZ hown (host := "") (Or.inl (hw _ (List.mem_of_getElem? (i := 17) rfl))) Via.refl e21 Fs Ea (Or.inl (hw _ (List.mem_of_getElem? (i := 18) rfl))) (hw _ (List.mem_of_getElem? (i := 1) rfl)) (ty := .int) (by decide) rfl rfl (g := (mkF m 131 #[.val (.ref a1), .val (.double dx), .second, .val (.double hi0), .second, .val (.int (1 : Int32)), .val (.int (1 : Int32)), .val (.double (own_snd dx q0)), .second, .val (.double hi0), .second, .val (.double lo0), .second] [(.int (1 : Int32)), (.ref a1)])) rfl rfl (hb hby d_prog_8_2_131)
      replace Ea := Ea.wr W22
      replace Fp := Fp.other W22 (Or.inr (slot_ne (Or.inl (hw _ (List.mem_of_getElem? (i := 11) rfl))) (Or.inl (hw _ (List.mem_of_getElem? (i := 18) rfl))) (by decide) (t := (.array .double)) (t' := .int) (by decide) (by decide)))
      replace Va := Va.other W22 (Ne.symm hne)
      have Zs22 := Nat.le_trans Zs21 (Keep.of_wr W22).1
      replace KK := KK.wr W22 (Or.inl (by simp))
      replace Fs := Fs.same W22
      have N22 := Fr.snoc X22 N21 g_a1
      obtain ⟨fs, hr, hrun, hended, hW, hsame⟩ := X22.leave (v := none) (fun _ => rfl) hlk
      refine ⟨_, _, ?_, hrun, hended, _, _, rfl, ?_, ⟨_, rfl⟩, hW, hsame.mono (by decide) (by decide)⟩
      · refine hA0 _ ?_
        refine k15 _ ?_
        refine own_f_ifYes X12.here hx (hb hby d_prog_8_2_68) ((if0 _ _).trans (teq (hz0)).1) (by decide) (by decide : _ = 83) ?_
        refine own_f_dload X12.here hx (hb hby d_prog_8_2_83) rfl (rfl : _ = 85) ?_
        refine own_f_dstoreN X12.here hx (hb hby d_prog_8_2_85) (rfl : storeLocals _ _ _ = some #[.val (.ref a1), .val (.double dx), .second, .val (.double hi0), .second, .val (.int (0 : Int32)), .val (.int (0 : Int32)), .val (.double (own_snd dx q0)), .second, .val (.double hi0), .second, .val (.double lo0), .second]) (rfl : _ = 86) ?_
        refine own_f_iinc X12.here hx (hb hby d_prog_8_2_86) rfl (rfl : storeLocals _ _ _ = some #[.val (.ref a1), .val (.double dx), .second, .val (.double hi0), .second, .val (.int (0 : Int32)), .val (.int (1 : Int32)), .val (.double (own_snd dx q0)), .second, .val (.double hi0), .second, .val (.double lo0), .second]) (rfl : _ = 89) ?_
        refine own_f_goto X12.here hx (hb hby d_prog_8_2_89) (by decide) (by decide : _ = 8) ?_
        refine own_f_iload X12.here hx (hb hby d_prog_8_2_8) rfl (rfl : _ = 10) ?_
        refine own_f_aloadN X12.here hx (hb hby d_prog_8_2_10) rfl rfl (rfl : _ = 11) ?_
        refine st16 _ ?_
        show Steps p.tables e below (T16.setTop (mkF m 14 #[.val (.ref a1), .val (.double dx), .second, .val (.double hi0), .second, .val (.int (0 : Int32)), .val (.int (1 : Int32)), .val (.double (own_snd dx q0)), .second, .val (.double hi0), .second, .val (.double lo0), .second] [(.int (1 : Int32)), (.int (1 : Int32))])) _
        refine own_f_icmpYes X16.here hx (hb hby d_prog_8_2_14) (flt (by decide)).2.1 (by decide) (by decide : _ = 92) ?_
        refine own_f_iload X16.here hx (hb hby d_prog_8_2_92) rfl (rfl : _ = 94) ?_
        refine own_f_aloadN X16.here hx (hb hby d_prog_8_2_94) rfl rfl (rfl : _ = 95) ?_
        refine st17 _ ?_
        show Steps p.tables e below (T17.setTop (mkF m 98 #[.val (.ref a1), .val (.double dx), .second, .val (.double hi0), .second, .val (.int (0 : Int32)), .val (.int (1 : Int32)), .val (.double (own_snd dx q0)), .second, .val (.double hi0), .second, .val (.double lo0), .second] [(.ref ar), (.int (0 : Int32))])) _
        refine X17.arraylength hx (by rw [e17]; exact Ar18.1) (State.isArrayOf_alike hZ.alike Ar18.2.1) (g := (mkF m 98 #[.val (.ref a1), .val (.double dx), .second, .val (.double hi0), .second, .val (.int (0 : Int32)), .val (.int (1 : Int32)), .val (.double (own_snd dx q0)), .second, .val (.double hi0), .second, .val (.double lo0), .second] [(.ref ar), (.int (0 : Int32))])) rfl rfl (hb hby d_prog_8_2_98) _ ?_
        rw [len_of Sz18 Ng18]
        show Steps p.tables e below (T17.setTop (mkF m 99 #[.val (.ref a1), .val (.double dx), .second, .val (.double hi0), .second, .val (.int (0 : Int32)), .val (.int (1 : Int32)), .val (.double (own_snd dx q0)), .second, .val (.double hi0), .second, .val (.double lo0), .second] [(.int (4 : Int32)), (.int (0 : Int32))])) _
        refine own_f_icmpYes X17.here hx (hb hby d_prog_8_2_99) (feq (by decide)).2 (by decide) (by decide : _ = 117) ?_
        refine own_f_aloadN X17.here hx (hb hby d_prog_8_2_117) rfl rfl (rfl : _ = 118) ?_
        refine st19 _ ?_
        show Steps p.tables e below (T19.setTop (mkF m 121 #[.val (.ref a1), .val (.double dx), .second, .val (.double hi0), .second, .val (.int (0 : Int32)), .val (.int (1 : Int32)), .val (.double (own_snd dx q0)), .second, .val (.double hi0), .second, .val (.double lo0), .second] [(.ref ar)])) _
        refine own_f_iload X19.here hx (hb hby d_prog_8_2_121) rfl (rfl : _ = 123) ?_
        refine own_f_iinc X19.here hx (hb hby d_prog_8_2_123) rfl (rfl : storeLocals _ _ _ = some #[.val (.ref a1), .val (.double dx), .second, .val (.double hi0), .second, .val (.int (1 : Int32)), .val (.int (1 : Int32)), .val (.double (own_snd dx q0)), .second, .val (.double hi0), .second, .val (.double lo0), .second]) (rfl : _ = 126) ?_
        refine own_f_dloadN X19.here hx (hb hby d_prog_8_2_126) rfl (rfl : _ = 127) ?_
        refine st21 _ ?_
        show Steps p.tables e below (T21.setTop (mkF m 128 #[.val (.ref a1), .val (.double dx), .second, .val (.double hi0), .second, .val (.int (1 : Int32)), .val (.int (1 : Int32)), .val (.double (own_snd dx q0)), .second, .val (.double hi0), .second, .val (.double lo0), .second] [])) _
        refine own_f_aloadN X21.here hx (hb hby d_prog_8_2_128) rfl rfl (rfl : _ = 129) ?_
        refine own_f_iload X21.here hx (hb hby d_prog_8_2_129) rfl (rfl : _ = 131) ?_
        refine st22 _ ?_
        show Steps p.tables e below (T22.setTop (mkF m 134 #[.val (.ref a1), .val (.double dx), .second, .val (.double hi0), .second, .val (.int (1 : Int32)), .val (.int (1 : Int32)), .val (.double (own_snd dx q0)), .second, .val (.double hi0), .second, .val (.double lo0), .second] [])) _
        exact X22.returnOut hx Bd.returns (hb hby d_prog_8_2_134) hr
      · show Q2 Z a1 dx _ ar kc q0 q1 q2 q3 _ h0 n0 _ T22.heap _
        rw [e22]
        exact ⟨(1 : Int32), hi0, q1, q2, q3, rfl, N22, KK, Fp, Fs, Va, own_res (M := [hi0]) (by rw [own_ins_d hlo0 hhi0 hz0]; rfl) (by show Int32.toInt 1 = ((1 : Nat) : Int); decide) rfl⟩
    · obtain ⟨T23, X23, e23, st23⟩ := getF X12 hx hZ hown (host := "") (Or.inl (hw _ (List.mem_of_getElem? (i := 10) rfl))) Via.refl e12 Fp (g := (mkF m 72 #[.val (.ref a1), .val (.double dx), .second, .val (.double (own_fst dx q0)), .second, .val (.int (0 : Int32)), .val (.int (0 : Int32)), .val (.double (own_snd dx q0)), .second, .val (.double hi0), .second, .val (.double lo0), .second] [(.ref a1)])) rfl rfl (hb hby d_prog_8_2_72)
      obtain ⟨cl24, Ar24, q24, Sz24, Ng24, Hs24, Gs24⟩ := Va
      have hin24 : ¬ ((0 : Int32) < 0 ∨ cl24.slots.size ≤ ((0 : Int32)).toNatClampNeg) := inb_of Sz24 ⟨by decide, by decide⟩
      obtain ⟨T25, h25, X25, e25, W25, st25⟩ := stD X23 hx hZ e23 Ar24 (j := (0 : Int32)) hin24 (g := (mkF m 82 #[.val (.ref a1), .val (.double dx), .second, .val (.double (own_fst dx q0)), .second, .val (.int (1 : Int32)), .val (.int (0 : Int32)), .val (.double (own_snd dx q0)), .second, .val (.double hi0), .second, .val (.double lo0), .second] [(.double lo0), (.int (0 : Int32)), (.ref ar)])) rfl rfl (hb hby d_prog_8_2_82)
      replace Ea := Ea.wr W25
      replace Fp := Fp.other W25 (Or.inl hne)
      replace Fs := Fs.other W25 (Or.inl hne)
      have Zs25 := Nat.le_trans Z0 (Keep.of_wr W25).1
      replace KK := KK.wr W25 (Or.inl (by simp))
      have Va : Arv Z h25 ar kc .double (4 : Int32) [(.double lo0), (.double q1), (.double q2), (.double q3)] (.double (0 : UInt64)) := Arv.set Ar24 q24 Sz24 Ng24 Hs24 Gs24 rfl W25 0 rfl (Nat.le_of_ble_eq_true rfl)
      have N25 := Fr.snoc X25 N0 g_ar
      obtain ⟨T26, X26, e26, st26⟩ := getF X25 hx hZ hown (host := "") (Or.inl (hw _ (List.mem_of_getElem? (i := 17) rfl))) Via.refl e25 Fs (g := (mkF m 11 #[.val (.ref a1), .val (.double dx), .second, .val (.double hi0), .second, .val (.int (1 : Int32)), .val (.int (1 : Int32)), .val (.double (own_snd dx q0)), .second, .val (.double hi0), .second, .val (.double lo0), .second] [(.ref a1), (.int (1 : Int32))])) rfl rfl (hb hby d_prog_8_2_11)
      obtain ⟨T27, X27, e27, st27⟩ := getF X26 hx hZ hown (host := "") (Or.inl (hw _ (List.mem_of_getElem? (i := 10) rfl))) Via.refl e26 Fp (g := (mkF m 95 #[.val (.ref a1), .val (.double dx), .second, .val (.double hi0), .second, .val (.int (1 : Int32)), .val (.int (1 : Int32)), .val (.double (own_snd dx q0)), .second, .val (.double hi0), .second, .val (.double lo0), .second] [(.ref a1), (.int (1 : Int32))])) rfl rfl (hb hby d_prog_8_2_95)
      obtain ⟨cl28, Ar28, -, Sz28, Ng28, -, -⟩ := id Va
      obtain ⟨T29, X29, e29, st29⟩ := getF X27 hx hZ hown (host := "") (Or.inl (hw _ (List.mem_of_getElem? (i := 10) rfl))) Via.refl e27 Fp (g := (mkF m 118 #[.val (.ref a1), .val (.double dx), .second, .val (.double hi0), .second, .val (.int (1 : Int32)), .val (.int (1 : Int32)), .val (.double (own_snd dx q0)), .second, .val (.double hi0), .second, .val (.double lo0), .second] [(.ref a1)])) rfl rfl (hb hby d_prog_8_2_118)
      obtain ⟨cl30, Ar30, q30, Sz30, Ng30, Hs30, Gs30⟩ := Va
      have hin30 : ¬ ((1 : Int32) < 0 ∨ cl30.slots.size ≤ ((1 : Int32)).toNatClampNeg) := inb_of Sz30 ⟨by decide, by decide⟩
      obtain ⟨T31, h31, X31, e31, W31, st31⟩ := stD X29 hx hZ e29 Ar30 (j := (1 : Int32)) hin30 (g := (mkF m 127 #[.val (.ref a1), .val (.double dx), .second, .val (.double hi0), .second, .val (.int (2 : Int32)), .val (.int (1 : Int32)), .val (.double (own_snd dx q0)), .second, .val (.double hi0), .second, .val (.double lo0), .second] [(.double hi0), (.int (1 : Int32)), (.ref ar)])) rfl rfl (hb hby d_prog_8_2_127)
      replace Ea := Ea.wr W31
      replace Fp := Fp.other W31 (Or.inl hne)
      replace Fs := Fs.other W31 (Or.inl hne)
      have Zs31 := Nat.le_trans Zs25 (Keep.of_wr W31).1
      replace KK := KK.wr W31 (Or.inl (by simp))
      have Va : Arv Z h31 ar kc .double (4 : Int32) [(.double lo0), (.double hi0), (.double q2), (.double q3)] (.double (0 : UInt64)) := Arv.set Ar30 q30 Sz30 Ng30 Hs30 Gs30 rfl W31 1 rfl (Nat.le_of_ble_eq_true rfl)
      have N31 := Fr.snoc X31 N25 g_ar
      obtain ⟨T32, h32, X32, e32, W32, st32⟩ := putF X31 hx hZ hown (host := "") (Or.inl (hw _ (List.mem_of_getElem? (i := 17) rfl))) Via.refl e31 Fs Ea (Or.inl (hw _ (List.mem_of_getElem? (i := 18) rfl))) (hw _ (List.mem_of_getElem? (i := 1) rfl)) (ty := .int) (by decide) rfl rfl (g := (mkF m 131 #[.val (.ref a1), .val (.double dx), .second, .val (.double hi0), .second, .val (.int (2 : Int32)), .val (.int (1 : Int32)), .val (.double (own_snd dx q0)), .second, .val (.double hi0), .second, .val (.double lo0), .second] [(.int (2 : Int32)), (.ref a1)])) rfl rfl (hb hby d_prog_8_2_131)
      replace Ea := Ea.wr W32
      replace Fp := Fp.other W32 (Or.inr (slot_ne (Or.inl (hw _ (List.mem_of_getElem? (i := 11) rfl))) (Or.inl (hw _ (List.mem_of_getElem? (i := 18) rfl))) (by decide) (t := (.array .double)) (t' := .int) (by decide) (by decide)))
      replace Va := Va.other W32 (Ne.symm hne)
      have Zs32 := Nat.le_trans Zs31 (Keep.of_wr W32).1
      replace KK := KK.wr W32 (Or.inl (by simp))
      replace Fs := Fs.same W32
      have N32 := Fr.snoc X32 N31 g_a1
      obtain ⟨fs, hr, hrun, hended, hW, hsame⟩ := X32.leave (v := none) (fun _ => rfl) hlk
      refine ⟨_, _, ?_, hrun, hended, _, _, rfl, ?_, ⟨_, rfl⟩, hW, hsame.mono (by decide) (by decide)⟩
      · refine hA0 _ ?_
        refine k15 _ ?_
        refine own_f_ifNo X12.here hx (hb hby d_prog_8_2_68) ((if0 _ _).trans (feq (hz0)).1) (rfl : _ = 71) ?_
        refine own_f_aloadN X12.here hx (hb hby d_prog_8_2_71) rfl rfl (rfl : _ = 72) ?_
        refine st23 _ ?_
        show Steps p.tables e below (T23.setTop (mkF m 75 #[.val (.ref a1), .val (.double dx), .second, .val (.double (own_fst dx q0)), .second, .val (.int (0 : Int32)), .val (.int (0 : Int32)), .val (.double (own_snd dx q0)), .second, .val (.double hi0), .second, .val (.double lo0), .second] [(.ref ar)])) _
        refine own_f_iload X23.here hx (hb hby d_prog_8_2_75) rfl (rfl : _ = 77) ?_
        refine own_f_iinc X23.here hx (hb hby d_prog_8_2_77) rfl (rfl : storeLocals _ _ _ = some #[.val (.ref a1), .val (.double dx), .second, .val (.double (own_fst dx q0)), .second, .val (.int (1 : Int32)), .val (.int (0 : Int32)), .val (.double (own_snd dx q0)), .second, .val (.double hi0), .second, .val (.double lo0), .second]) (rfl : _ = 80) ?_
        refine own_f_dload X23.here hx (hb hby d_prog_8_2_80) rfl (rfl : _ = 82) ?_
        refine st25 _ ?_
        show Steps p.tables e below (T25.setTop (mkF m 83 #[.val (.ref a1), .val (.double dx), .second, .val (.double (own_fst dx q0)), .second, .val (.int (1 : Int32)), .val (.int (0 : Int32)), .val (.double (own_snd dx q0)), .second, .val (.double hi0), .second, .val (.double lo0), .second] [])) _
        refine own_f_dload X25.here hx (hb hby d_prog_8_2_83) rfl (rfl : _ = 85) ?_
        refine own_f_dstoreN X25.here hx (hb hby d_prog_8_2_85) (rfl : storeLocals _ _ _ = some #[.val (.ref a1), .val (.double dx), .second, .val (.double hi0), .second, .val (.int (1 : Int32)), .val (.int (0 : Int32)), .val (.double (own_snd dx q0)), .second, .val (.double hi0), .second, .val (.double lo0), .second]) (rfl : _ = 86) ?_
        refine own_f_iinc X25.here hx (hb hby d_prog_8_2_86) rfl (rfl : storeLocals _ _ _ = some #[.val (.ref a1), .val (.double dx), .second, .val (.double hi0), .second, .val (.int (1 : Int32)), .val (.int (1 : Int32)), .val (.double (own_snd dx q0)), .second, .val (.double hi0), .second, .val (.double lo0), .second]) (rfl : _ = 89) ?_
        refine own_f_goto X25.here hx (hb hby d_prog_8_2_89) (by decide) (by decide : _ = 8) ?_
        refine own_f_iload X25.here hx (hb hby d_prog_8_2_8) rfl (rfl : _ = 10) ?_
        refine own_f_aloadN X25.here hx (hb hby d_prog_8_2_10) rfl rfl (rfl : _ = 11) ?_
        refine st26 _ ?_
        show Steps p.tables e below (T26.setTop (mkF m 14 #[.val (.ref a1), .val (.double dx), .second, .val (.double hi0), .second, .val (.int (1 : Int32)), .val (.int (1 : Int32)), .val (.double (own_snd dx q0)), .second, .val (.double hi0), .second, .val (.double lo0), .second] [(.int (1 : Int32)), (.int (1 : Int32))])) _
        refine own_f_icmpYes X26.here hx (hb hby d_prog_8_2_14) (flt (by decide)).2.1 (by decide) (by decide : _ = 92) ?_
        refine own_f_iload X26.here hx (hb hby d_prog_8_2_92) rfl (rfl : _ = 94) ?_
        refine own_f_aloadN X26.here hx (hb hby d_prog_8_2_94) rfl rfl (rfl : _ = 95) ?_
        refine st27 _ ?_
        show Steps p.tables e below (T27.setTop (mkF m 98 #[.val (.ref a1), .val (.double dx), .second, .val (.double hi0), .second, .val (.int (1 : Int32)), .val (.int (1 : Int32)), .val (.double (own_snd dx q0)), .second, .val (.double hi0), .second, .val (.double lo0), .second] [(.ref ar), (.int (1 : Int32))])) _
        refine X27.arraylength hx (by rw [e27]; exact Ar28.1) (State.isArrayOf_alike hZ.alike Ar28.2.1) (g := (mkF m 98 #[.val (.ref a1), .val (.double dx), .second, .val (.double hi0), .second, .val (.int (1 : Int32)), .val (.int (1 : Int32)), .val (.double (own_snd dx q0)), .second, .val (.double hi0), .second, .val (.double lo0), .second] [(.ref ar), (.int (1 : Int32))])) rfl rfl (hb hby d_prog_8_2_98) _ ?_
        rw [len_of Sz28 Ng28]
        show Steps p.tables e below (T27.setTop (mkF m 99 #[.val (.ref a1), .val (.double dx), .second, .val (.double hi0), .second, .val (.int (1 : Int32)), .val (.int (1 : Int32)), .val (.double (own_snd dx q0)), .second, .val (.double hi0), .second, .val (.double lo0), .second] [(.int (4 : Int32)), (.int (1 : Int32))])) _
        refine own_f_icmpYes X27.here hx (hb hby d_prog_8_2_99) (feq (by decide)).2 (by decide) (by decide : _ = 117) ?_
        refine own_f_aloadN X27.here hx (hb hby d_prog_8_2_117) rfl rfl (rfl : _ = 118) ?_
        refine st29 _ ?_
        show Steps p.tables e below (T29.setTop (mkF m 121 #[.val (.ref a1), .val (.double dx), .second, .val (.double hi0), .second, .val (.int (1 : Int32)), .val (.int (1 : Int32)), .val (.double (own_snd dx q0)), .second, .val (.double hi0), .second, .val (.double lo0), .second] [(.ref ar)])) _
        refine own_f_iload X29.here hx (hb hby d_prog_8_2_121) rfl (rfl : _ = 123) ?_
        refine own_f_iinc X29.here hx (hb hby d_prog_8_2_123) rfl (rfl : storeLocals _ _ _ = some #[.val (.ref a1), .val (.double dx), .second, .val (.double hi0), .second, .val (.int (2 : Int32)), .val (.int (1 : Int32)), .val (.double (own_snd dx q0)), .second, .val (.double hi0), .second, .val (.double lo0), .second]) (rfl : _ = 126) ?_
        refine own_f_dloadN X29.here hx (hb hby d_prog_8_2_126) rfl (rfl : _ = 127) ?_
        refine st31 _ ?_
        show Steps p.tables e below (T31.setTop (mkF m 128 #[.val (.ref a1), .val (.double dx), .second, .val (.double hi0), .second, .val (.int (2 : Int32)), .val (.int (1 : Int32)), .val (.double (own_snd dx q0)), .second, .val (.double hi0), .second, .val (.double lo0), .second] [])) _
        refine own_f_aloadN X31.here hx (hb hby d_prog_8_2_128) rfl rfl (rfl : _ = 129) ?_
        refine own_f_iload X31.here hx (hb hby d_prog_8_2_129) rfl (rfl : _ = 131) ?_
        refine st32 _ ?_
        show Steps p.tables e below (T32.setTop (mkF m 134 #[.val (.ref a1), .val (.double dx), .second, .val (.double hi0), .second, .val (.int (2 : Int32)), .val (.int (1 : Int32)), .val (.double (own_snd dx q0)), .second, .val (.double hi0), .second, .val (.double lo0), .second] [])) _
        exact X32.returnOut hx Bd.returns (hb hby d_prog_8_2_134) hr
      · show Q2 Z a1 dx _ ar kc q0 q1 q2 q3 _ h0 n0 _ T32.heap _
        rw [e32]
        exact ⟨(2 : Int32), lo0, hi0, q2, q3, rfl, N32, KK, Fp, Fs, Va, own_res (M := [lo0, hi0]) (by rw [own_ins_c hlo0 hhi0 hz0]; rfl) (by show Int32.toInt 2 = ((2 : Nat) : Int); decide) rfl⟩
  · obtain rfl : qs = [q0, q1] := own_qs hq 2 (by decide)
    obtain ⟨T33, X33, e33, st33⟩ := getF X0 hx hZ hown (host := "") (Or.inl (hw _ (List.mem_of_getElem? (i := 17) rfl))) Via.refl e0 Fs (g := (mkF m 11 #[.val (.ref a1), .val (.double dx), .second, .val (.double dx), .second, .val (.int (0 : Int32)), .val (.int (0 : Int32)), .unset, .unset, .unset, .unset, .unset, .unset] [(.ref a1), (.int (0 : Int32))])) rfl rfl (hb hby d_prog_8_2_11)
    obtain ⟨T34, X34, e34, st34⟩ := getF X33 hx hZ hown (host := "") (Or.inl (hw _ (List.mem_of_getElem? (i := 10) rfl))) Via.refl e33 Fp (g := (mkF m 18 #[.val (.ref a1), .val (.double dx), .second, .val (.double dx), .second, .val (.int (0 : Int32)), .val (.int (0 : Int32)), .unset, .unset, .unset, .unset, .unset, .unset] [(.ref a1)])) rfl rfl (hb hby d_prog_8_2_18)
    obtain ⟨cl35, Ar35, -, Sz35, Ng35, Hs35, -⟩ := id Va
    have hin35 : ¬ ((0 : Int32) < 0 ∨ cl35.slots.size ≤ ((0 : Int32)).toNatClampNeg) := inb_of Sz35 ⟨by decide, by decide⟩
    have hat35 : cl35.slots[((0 : Int32)).toNatClampNeg]? = some (.double q0) := Hs35 _ (Nat.lt_of_not_le fun q => hin35 (Or.inr q))
    obtain ⟨⟨nx0, nq0⟩, na0, nb0, nc0, -⟩ := own_nn hnn
    obtain ⟨T36, X36, e36, st36⟩ := natS X34 hx hZ hown (hw _ (List.mem_of_getElem? (i := 38) rfl)) (hw _ (List.mem_of_getElem? (i := 39) rfl)) (hw _ (List.mem_of_getElem? (i := 40) rfl)) (hw _ (List.mem_of_getElem? (i := 41) rfl)) (by decide) e34 (W := 0) (val' := (.double (dx &&& 0x7fffffffffffffff))) (fun c => Jvm.Free.Fl.Abs.absD_pays dx c (by decide) (by decide)) (g := (mkF m 27 #[.val (.ref a1), .val (.double dx), .second, .val (.double dx), .second, .val (.int (0 : Int32)), .val (.int (0 : Int32)), .val (.double q0), .second, .unset, .unset, .unset, .unset] [(.double dx)])) rfl (by rw [hml]; rfl) (argsL := [(.double dx)]) (rest := []) (lenOf pd_0 rfl) rfl (by show 2 * 0 + _ ≤ _; exact Nat.le_of_eq rfl) (hb hby d_prog_8_2_27) (by decide) (by decide) ⟨rfl, nx0⟩ rfl
    obtain ⟨T37, X37, e37, st37⟩ := natS X36 hx hZ hown (hw _ (List.mem_of_getElem? (i := 38) rfl)) (hw _ (List.mem_of_getElem? (i := 39) rfl)) (hw _ (List.mem_of_getElem? (i := 40) rfl)) (hw _ (List.mem_of_getElem? (i := 41) rfl)) (by decide) e36 (W := 2) (val' := (.double (q0 &&& 0x7fffffffffffffff))) (fun c => Jvm.Free.Fl.Abs.absD_pays q0 c (by decide) (by decide)) (g := (mkF m 32 #[.val (.ref a1), .val (.double dx), .second, .val (.double dx), .second, .val (.int (0 : Int32)), .val (.int (0 : Int32)), .val (.double q0), .second, .unset, .unset, .unset, .unset] [(.double q0), (.double (dx &&& 0x7fffffffffffffff))])) rfl (by rw [hml]; rfl) (argsL := [(.double q0)]) (rest := [(.double (dx &&& 0x7fffffffffffffff))]) (lenOf pd_0 rfl) rfl (by show 2 * 0 + _ ≤ _; exact Nat.le_of_eq rfl) (hb hby d_prog_8_2_32) (by decide) (by decide) ⟨rfl, nq0⟩ rfl
    have k38 : ∀ t_, Steps p.tables e below (T37.setTop (mkF m 36 #[.val (.ref a1), .val (.double dx), .second, .val (.double dx), .second, .val (.int (0 : Int32)), .val (.int (0 : Int32)), .val (.double q0), .second, .unset, .unset, .unset, .unset] [(.int (cmpValue (FP.dcmp (dx &&& 0x7fffffffffffffff) (q0 &&& 0x7fffffffffffffff)) .g))])) t_ → Steps p.tables e below A t_ := by
      intro t_ ht_
      refine k0 t_ ?_
      refine own_f_dloadN X0.here hx (hb hby d_prog_8_2_0) rfl (rfl : _ = 1) ?_
      refine own_f_dstoreN X0.here hx (hb hby d_prog_8_2_1) (rfl : storeLocals _ _ _ = some #[.val (.ref a1), .val (.double dx), .second, .val (.double dx), .second, .unset, .unset, .unset, .unset, .unset, .unset, .unset, .unset]) (rfl : _ = 2) ?_
      refine own_f_iconst X0.here hx (hb hby d_prog_8_2_2) (rfl : _ = (0 : Int32)) (rfl : _ = 3) ?_
      refine own_f_istore X0.here hx (hb hby d_prog_8_2_3) (rfl : storeLocals _ _ _ = some #[.val (.ref a1), .val (.double dx), .second, .val (.double dx), .second, .val (.int (0 : Int32)), .unset, .unset, .unset, .unset, .unset, .unset, .unset]) (rfl : _ = 5) ?_
      refine own_f_iconst X0.here hx (hb hby d_prog_8_2_5) (rfl : _ = (0 : Int32)) (rfl : _ = 6) ?_
      refine own_f_istore X0.here hx (hb hby d_prog_8_2_6) (rfl : storeLocals _ _ _ = some #[.val (.ref a1), .val (.double dx), .second, .val (.double dx), .second, .val (.int (0 : Int32)), .val (.int (0 : Int32)), .unset, .unset, .unset, .unset, .unset, .unset]) (rfl : _ = 8) ?_
      refine own_f_iload X0.here hx (hb hby d_prog_8_2_8) rfl (rfl : _ = 10) ?_
      refine own_f_aloadN X0.here hx (hb hby d_prog_8_2_10) rfl rfl (rfl : _ = 11) ?_
      refine st33 _ ?_
      show Steps p.tables e below (T33.setTop (mkF m 14 #[.val (.ref a1), .val (.double dx), .second, .val (.double dx), .second, .val (.int (0 : Int32)), .val (.int (0 : Int32)), .unset, .unset, .unset, .unset, .unset, .unset] [(.int (2 : Int32)), (.int (0 : Int32))])) t_
      refine own_f_icmpNo X33.here hx (hb hby d_prog_8_2_14) (tlt (by decide)).2.1 (rfl : _ = 17) ?_
      refine own_f_aloadN X33.here hx (hb hby d_prog_8_2_17) rfl rfl (rfl : _ = 18) ?_
      refine st34 _ ?_
      show Steps p.tables e below (T34.setTop (mkF m 21 #[.val (.ref a1), .val (.double dx), .second, .val (.double dx), .second, .val (.int (0 : Int32)), .val (.int (0 : Int32)), .unset, .unset, .unset, .unset, .unset, .unset] [(.ref ar)])) t_
      refine own_f_iload X34.here hx (hb hby d_prog_8_2_21) rfl (rfl : _ = 23) ?_
      refine X34.daload hx (j := (0 : Int32)) (v := (.double q0)) (by rw [e34]; exact Ar35.1) (State.isArrayOf_alike hZ.alike Ar35.2.1) Ar35.2.2 hin35 hat35 (g := (mkF m 23 #[.val (.ref a1), .val (.double dx), .second, .val (.double dx), .second, .val (.int (0 : Int32)), .val (.int (0 : Int32)), .unset, .unset, .unset, .unset, .unset, .unset] [(.int (0 : Int32)), (.ref ar)])) rfl rfl (hb hby d_prog_8_2_23) _ ?_
      show Steps p.tables e below (T34.setTop (mkF m 24 #[.val (.ref a1), .val (.double dx), .second, .val (.double dx), .second, .val (.int (0 : Int32)), .val (.int (0 : Int32)), .unset, .unset, .unset, .unset, .unset, .unset] [(.double q0)])) t_
      refine own_f_dstore X34.here hx (hb hby d_prog_8_2_24) (rfl : storeLocals _ _ _ = some #[.val (.ref a1), .val (.double dx), .second, .val (.double dx), .second, .val (.int (0 : Int32)), .val (.int (0 : Int32)), .val (.double q0), .second, .unset, .unset, .unset, .unset]) (rfl : _ = 26) ?_
      refine own_f_dloadN X34.here hx (hb hby d_prog_8_2_26) rfl (rfl : _ = 27) ?_
      refine st36 _ ?_
      show Steps p.tables e below (T36.setTop (mkF m 30 #[.val (.ref a1), .val (.double dx), .second, .val (.double dx), .second, .val (.int (0 : Int32)), .val (.int (0 : Int32)), .val (.double q0), .second, .unset, .unset, .unset, .unset] [(.double (dx &&& 0x7fffffffffffffff))])) t_
      refine own_f_dload X36.here hx (hb hby d_prog_8_2_30) rfl (rfl : _ = 32) ?_
      refine st37 _ ?_
      show Steps p.tables e below (T37.setTop (mkF m 35 #[.val (.ref a1), .val (.double dx), .second, .val (.double dx), .second, .val (.int (0 : Int32)), .val (.int (0 : Int32)), .val (.double q0), .second, .unset, .unset, .unset, .unset] [(.double (q0 &&& 0x7fffffffffffffff)), (.double (dx &&& 0x7fffffffffffffff))])) t_
      refine own_f_dcmp X37.here hx (hb hby d_prog_8_2_35) rfl (rfl : _ = 36) ?_
      exact ht_
    have k39 : ∀ t_, Steps p.tables e below (T37.setTop (mkF m 64 #[.val (.ref a1), .val (.double dx), .second, .val (.double (own_fst dx q0)), .second, .val (.int (0 : Int32)), .val (.int (0 : Int32)), .val (.double (own_snd dx q0)), .second, .val (.double (FP.dadd (own_fst dx q0) (own_snd dx q0))), .second, .val (.double (own_lo (own_fst dx q0) (own_snd dx q0))), .second] [])) t_ → Steps p.tables e below A t_ := by
      intro t_ ht_
      refine k38 t_ ?_
      by_cases hsw : own_lt dx q0
      · have e1 : own_fst dx q0 = q0 := if_pos hsw
        have e2 : own_snd dx q0 = dx := if_pos hsw
        rw [e1, e2] at ht_ na0 nb0 nc0
        have hs_ : (cmpValue (FP.dcmp (dx &&& 0x7fffffffffffffff) (q0 &&& 0x7fffffffffffffff)) .g) < (0 : Int32) := hsw
        refine own_f_ifNo X37.here hx (hb hby d_prog_8_2_36) ((if0 _ _).trans (tlt (hs_)).2.1) (rfl : _ = 39) ?_
        refine own_f_dload X37.here hx (hb hby d_prog_8_2_39) rfl (rfl : _ = 41) ?_
        refine own_f_dstore X37.here hx (hb hby d_prog_8_2_41) (rfl : storeLocals _ _ _ = some #[.val (.ref a1), .val (.double dx), .second, .val (.double dx), .second, .val (.int (0 : Int32)), .val (.int (0 : Int32)), .val (.double q0), .second, .val (.double q0), .second, .unset, .unset]) (rfl : _ = 43) ?_
        refine own_f_dloadN X37.here hx (hb hby d_prog_8_2_43) rfl (rfl : _ = 44) ?_
        refine own_f_dstore X37.here hx (hb hby d_prog_8_2_44) (rfl : storeLocals _ _ _ = some #[.val (.ref a1), .val (.double dx), .second, .val (.double dx), .second, .val (.int (0 : Int32)), .val (.int (0 : Int32)), .val (.double dx), .second, .val (.double q0), .second, .unset, .unset]) (rfl : _ = 46) ?_
        refine own_f_dload X37.here hx (hb hby d_prog_8_2_46) rfl (rfl : _ = 48) ?_
        refine own_f_dstoreN X37.here hx (hb hby d_prog_8_2_48) (rfl : storeLocals _ _ _ = some #[.val (.ref a1), .val (.double dx), .second, .val (.double q0), .second, .val (.int (0 : Int32)), .val (.int (0 : Int32)), .val (.double dx), .second, .val (.double q0), .second, .unset, .unset]) (rfl : _ = 49) ?_
        refine own_f_dloadN X37.here hx (hb hby d_prog_8_2_49) rfl (rfl : _ = 50) ?_
        refine own_f_dload X37.here hx (hb hby d_prog_8_2_50) rfl (rfl : _ = 52) ?_
        refine own_f_dadd X37.here hx (hb hby d_prog_8_2_52) (na0) rfl (rfl : _ = 53) ?_
        refine own_f_dstore X37.here hx (hb hby d_prog_8_2_53) (rfl : storeLocals _ _ _ = some #[.val (.ref a1), .val (.double dx), .second, .val (.double q0), .second, .val (.int (0 : Int32)), .val (.int (0 : Int32)), .val (.double dx), .second, .val (.double (FP.dadd q0 dx)), .second, .unset, .unset]) (rfl : _ = 55) ?_
        refine own_f_dload X37.here hx (hb hby d_prog_8_2_55) rfl (rfl : _ = 57) ?_
        refine own_f_dload X37.here hx (hb hby d_prog_8_2_57) rfl (rfl : _ = 59) ?_
        refine own_f_dloadN X37.here hx (hb hby d_prog_8_2_59) rfl (rfl : _ = 60) ?_
        refine own_f_dsub X37.here hx (hb hby d_prog_8_2_60) (nb0) rfl (rfl : _ = 61) ?_
        refine own_f_dsub X37.here hx (hb hby d_prog_8_2_61) (nc0) rfl (rfl : _ = 62) ?_
        refine own_f_dstore X37.here hx (hb hby d_prog_8_2_62) (rfl : storeLocals _ _ _ = some #[.val (.ref a1), .val (.double dx), .second, .val (.double q0), .second, .val (.int (0 : Int32)), .val (.int (0 : Int32)), .val (.double dx), .second, .val (.double (FP.dadd q0 dx)), .second, .val (.double (FP.dsub dx (FP.dsub (FP.dadd q0 dx) q0))), .second]) (rfl : _ = 64) ?_
        exact ht_
      · have e1 : own_fst dx q0 = dx := if_neg hsw
        have e2 : own_snd dx q0 = q0 := if_neg hsw
        rw [e1, e2] at ht_ na0 nb0 nc0
        have hs_ : ¬ ((cmpValue (FP.dcmp (dx &&& 0x7fffffffffffffff) (q0 &&& 0x7fffffffffffffff)) .g) < (0 : Int32)) := hsw
        refine own_f_ifYes X37.here hx (hb hby d_prog_8_2_36) ((if0 _ _).trans (flt (hs_)).2.1) (by decide) (by decide : _ = 49) ?_
        refine own_f_dloadN X37.here hx (hb hby d_prog_8_2_49) rfl (rfl : _ = 50) ?_
        refine own_f_dload X37.here hx (hb hby d_prog_8_2_50) rfl (rfl : _ = 52) ?_
        refine own_f_dadd X37.here hx (hb hby d_prog_8_2_52) (na0) rfl (rfl : _ = 53) ?_
        refine own_f_dstore X37.here hx (hb hby d_prog_8_2_53) (rfl : storeLocals _ _ _ = some #[.val (.ref a1), .val (.double dx), .second, .val (.double dx), .second, .val (.int (0 : Int32)), .val (.int (0 : Int32)), .val (.double q0), .second, .val (.double (FP.dadd dx q0)), .second, .unset, .unset]) (rfl : _ = 55) ?_
        refine own_f_dload X37.here hx (hb hby d_prog_8_2_55) rfl (rfl : _ = 57) ?_
        refine own_f_dload X37.here hx (hb hby d_prog_8_2_57) rfl (rfl : _ = 59) ?_
        refine own_f_dloadN X37.here hx (hb hby d_prog_8_2_59) rfl (rfl : _ = 60) ?_
        refine own_f_dsub X37.here hx (hb hby d_prog_8_2_60) (nb0) rfl (rfl : _ = 61) ?_
        refine own_f_dsub X37.here hx (hb hby d_prog_8_2_61) (nc0) rfl (rfl : _ = 62) ?_
        refine own_f_dstore X37.here hx (hb hby d_prog_8_2_62) (rfl : storeLocals _ _ _ = some #[.val (.ref a1), .val (.double dx), .second, .val (.double dx), .second, .val (.int (0 : Int32)), .val (.int (0 : Int32)), .val (.double q0), .second, .val (.double (FP.dadd dx q0)), .second, .val (.double (FP.dsub q0 (FP.dsub (FP.dadd dx q0) dx))), .second]) (rfl : _ = 64) ?_
        exact ht_
    obtain ⟨hi0, hhi0⟩ : ∃ z : UInt64, z = (FP.dadd (own_fst dx q0) (own_snd dx q0)) := ⟨_, rfl⟩
    rw [← hhi0] at k39
    obtain ⟨lo0, hlo0⟩ : ∃ z : UInt64, z = (own_lo (own_fst dx q0) (own_snd dx q0)) := ⟨_, rfl⟩
    rw [← hlo0] at k39
    replace hnn := own_nn' hhi0 hnn
    have k40 : ∀ t_, Steps p.tables e below (T37.setTop (mkF m 68 #[.val (.ref a1), .val (.double dx), .second, .val (.double (own_fst dx q0)), .second, .val (.int (0 : Int32)), .val (.int (0 : Int32)), .val (.double (own_snd dx q0)), .second, .val (.double hi0), .second, .val (.double lo0), .second] [(.int (cmpValue (FP.dcmp lo0 (0 : UInt64)) .l))])) t_ → Steps p.tables e below A t_ := by
      intro t_ ht_
      refine k39 t_ ?_
      refine own_f_dload X37.here hx (hb hby d_prog_8_2_64) rfl (rfl : _ = 66) ?_
      refine own_f_dconst0 X37.here hx (hb hby d_prog_8_2_66) (rfl : _ = (0 : UInt64)) (rfl : _ = 67) ?_
      refine own_f_dcmp X37.here hx (hb hby d_prog_8_2_67) rfl (rfl : _ = 68) ?_
      exact ht_
    by_cases hz0 : (cmpValue (FP.dcmp lo0 (0 : UInt64)) .l) = (0 : Int32)
    · obtain ⟨T41, X41, e41, st41⟩ := getF X37 hx hZ hown (host := "") (Or.inl (hw _ (List.mem_of_getElem? (i := 17) rfl))) Via.refl e37 Fs (g := (mkF m 11 #[.val (.ref a1), .val (.double dx), .second, .val (.double hi0), .second, .val (.int (0 : Int32)), .val (.int (1 : Int32)), .val (.double (own_snd dx q0)), .second, .val (.double hi0), .second, .val (.double lo0), .second] [(.ref a1), (.int (1 : Int32))])) rfl rfl (hb hby d_prog_8_2_11)
      obtain ⟨T42, X42, e42, st42⟩ := getF X41 hx hZ hown (host := "") (Or.inl (hw _ (List.mem_of_getElem? (i := 10) rfl))) Via.refl e41 Fp (g := (mkF m 18 #[.val (.ref a1), .val (.double dx), .second, .val (.double hi0), .second, .val (.int (0 : Int32)), .val (.int (1 : Int32)), .val (.double (own_snd dx q0)), .second, .val (.double hi0), .second, .val (.double lo0), .second] [(.ref a1)])) rfl rfl (hb hby d_prog_8_2_18)
      obtain ⟨cl43, Ar43, -, Sz43, Ng43, Hs43, -⟩ := id Va
      have hin43 : ¬ ((1 : Int32) < 0 ∨ cl43.slots.size ≤ ((1 : Int32)).toNatClampNeg) := inb_of Sz43 ⟨by decide, by decide⟩
      have hat43 : cl43.slots[((1 : Int32)).toNatClampNeg]? = some (.double q1) := Hs43 _ (Nat.lt_of_not_le fun q => hin43 (Or.inr q))
      obtain ⟨⟨nx1, nq1⟩, na1, nb1, nc1, -⟩ := own_nn hnn
      obtain ⟨T44, X44, e44, st44⟩ := natS X42 hx hZ hown (hw _ (List.mem_of_getElem? (i := 38) rfl)) (hw _ (List.mem_of_getElem? (i := 39) rfl)) (hw _ (List.mem_of_getElem? (i := 40) rfl)) (hw _ (List.mem_of_getElem? (i := 41) rfl)) (by decide) e42 (W := 0) (val' := (.double (hi0 &&& 0x7fffffffffffffff))) (fun c => Jvm.Free.Fl.Abs.absD_pays hi0 c (by decide) (by decide)) (g := (mkF m 27 #[.val (.ref a1), .val (.double dx), .second, .val (.double hi0), .second, .val (.int (0 : Int32)), .val (.int (1 : Int32)), .val (.double q1), .second, .val (.double hi0), .second, .val (.double lo0), .second] [(.double hi0)])) rfl (by rw [hml]; rfl) (argsL := [(.double hi0)]) (rest := []) (lenOf pd_0 rfl) rfl (by show 2 * 0 + _ ≤ _; exact Nat.le_of_eq rfl) (hb hby d_prog_8_2_27) (by decide) (by decide) ⟨rfl, nx1⟩ rfl
      obtain ⟨T45, X45, e45, st45⟩ := natS X44 hx hZ hown (hw _ (List.mem_of_getElem? (i := 38) rfl)) (hw _ (List.mem_of_getElem? (i := 39) rfl)) (hw _ (List.mem_of_getElem? (i := 40) rfl)) (hw _ (List.mem_of_getElem? (i := 41) rfl)) (by decide) e44 (W := 2) (val' := (.double (q1 &&& 0x7fffffffffffffff))) (fun c => Jvm.Free.Fl.Abs.absD_pays q1 c (by decide) (by decide)) (g := (mkF m 32 #[.val (.ref a1), .val (.double dx), .second, .val (.double hi0), .second, .val (.int (0 : Int32)), .val (.int (1 : Int32)), .val (.double q1), .second, .val (.double hi0), .second, .val (.double lo0), .second] [(.double q1), (.double (hi0 &&& 0x7fffffffffffffff))])) rfl (by rw [hml]; rfl) (argsL := [(.double q1)]) (rest := [(.double (hi0 &&& 0x7fffffffffffffff))]) (lenOf pd_0 rfl) rfl (by show 2 * 0 + _ ≤ _; exact Nat.le_of_eq rfl) (hb hby d_prog_8_2_32) (by decide) (by decide) ⟨rfl, nq1⟩ rfl
      have k46 : ∀ t_, Steps p.tables e below (T45.setTop (mkF m 36 #[.val (.ref a1), .val (.double dx), .second, .val (.double hi0), .second, .val (.int (0 : Int32)), .val (.int (1 : Int32)), .val (.double q1), .second, .val (.double hi0), .second, .val (.double lo0), .second] [(.int (cmpValue (FP.dcmp (hi0 &&& 0x7fffffffffffffff) (q1 &&& 0x7fffffffffffffff)) .g))])) t_ → Steps p.tables e below A t_ := by
        intro t_ ht_
        refine k40 t_ ?_
        refine own_f_ifYes X37.here hx (hb hby d_prog_8_2_68) ((if0 _ _).trans (teq (hz0)).1) (by decide) (by decide : _ = 83) ?_
        refine own_f_dload X37.here hx (hb hby d_prog_8_2_83) rfl (rfl : _ = 85) ?_
        refine own_f_dstoreN X37.here hx (hb hby d_prog_8_2_85) (rfl : storeLocals _ _ _ = some #[.val (.ref a1), .val (.double dx), .second, .val (.double hi0), .second, .val (.int (0 : Int32)), .val (.int (0 : Int32)), .val (.double (own_snd dx q0)), .second, .val (.double hi0), .second, .val (.double lo0), .second]) (rfl : _ = 86) ?_
        refine own_f_iinc X37.here hx (hb hby d_prog_8_2_86) rfl (rfl : storeLocals _ _ _ = some #[.val (.ref a1), .val (.double dx), .second, .val (.double hi0), .second, .val (.int (0 : Int32)), .val (.int (1 : Int32)), .val (.double (own_snd dx q0)), .second, .val (.double hi0), .second, .val (.double lo0), .second]) (rfl : _ = 89) ?_
        refine own_f_goto X37.here hx (hb hby d_prog_8_2_89) (by decide) (by decide : _ = 8) ?_
        refine own_f_iload X37.here hx (hb hby d_prog_8_2_8) rfl (rfl : _ = 10) ?_
        refine own_f_aloadN X37.here hx (hb hby d_prog_8_2_10) rfl rfl (rfl : _ = 11) ?_
        refine st41 _ ?_
        show Steps p.tables e below (T41.setTop (mkF m 14 #[.val (.ref a1), .val (.double dx), .second, .val (.double hi0), .second, .val (.int (0 : Int32)), .val (.int (1 : Int32)), .val (.double (own_snd dx q0)), .second, .val (.double hi0), .second, .val (.double lo0), .second] [(.int (2 : Int32)), (.int (1 : Int32))])) t_
        refine own_f_icmpNo X41.here hx (hb hby d_prog_8_2_14) (tlt (by decide)).2.1 (rfl : _ = 17) ?_
        refine own_f_aloadN X41.here hx (hb hby d_prog_8_2_17) rfl rfl (rfl : _ = 18) ?_
        refine st42 _ ?_
        show Steps p.tables e below (T42.setTop (mkF m 21 #[.val (.ref a1), .val (.double dx), .second, .val (.double hi0), .second, .val (.int (0 : Int32)), .val (.int (1 : Int32)), .val (.double (own_snd dx q0)), .second, .val (.double hi0), .second, .val (.double lo0), .second] [(.ref ar)])) t_
        refine own_f_iload X42.here hx (hb hby d_prog_8_2_21) rfl (rfl : _ = 23) ?_
        refine X42.daload hx (j := (1 : Int32)) (v := (.double q1)) (by rw [e42]; exact Ar43.1) (State.isArrayOf_alike hZ.alike Ar43.2.1) Ar43.2.2 hin43 hat43 (g := (mkF m 23 #[.val (.ref a1), .val (.double dx), .second, .val (.double hi0), .second, .val (.int (0 : Int32)), .val (.int (1 : Int32)), .val (.double (own_snd dx q0)), .second, .val (.double hi0), .second, .val (.double lo0), .second] [(.int (1 : Int32)), (.ref ar)])) rfl rfl (hb hby d_prog_8_2_23) _ ?_
        show Steps p.tables e below (T42.setTop (mkF m 24 #[.val (.ref a1), .val (.double dx), .second, .val (.double hi0), .second, .val (.int (0 : Int32)), .val (.int (1 : Int32)), .val (.double (own_snd dx q0)), .second, .val (.double hi0), .second, .val (.double lo0), .second] [(.double q1)])) t_
        refine own_f_dstore X42.here hx (hb hby d_prog_8_2_24) (rfl : storeLocals _ _ _ = some #[.val (.ref a1), .val (.double dx), .second, .val (.double hi0), .second, .val (.int (0 : Int32)), .val (.int (1 : Int32)), .val (.double q1), .second, .val (.double hi0), .second, .val (.double lo0), .second]) (rfl : _ = 26) ?_
        refine own_f_dloadN X42.here hx (hb hby d_prog_8_2_26) rfl (rfl : _ = 27) ?_
        refine st44 _ ?_
        show Steps p.tables e below (T44.setTop (mkF m 30 #[.val (.ref a1), .val (.double dx), .second, .val (.double hi0), .second, .val (.int (0 : Int32)), .val (.int (1 : Int32)), .val (.double q1), .second, .val (.double hi0), .second, .val (.double lo0), .second] [(.double (hi0 &&& 0x7fffffffffffffff))])) t_
        refine own_f_dload X44.here hx (hb hby d_prog_8_2_30) rfl (rfl : _ = 32) ?_
        refine st45 _ ?_
        show Steps p.tables e below (T45.setTop (mkF m 35 #[.val (.ref a1), .val (.double dx), .second, .val (.double hi0), .second, .val (.int (0 : Int32)), .val (.int (1 : Int32)), .val (.double q1), .second, .val (.double hi0), .second, .val (.double lo0), .second] [(.double (q1 &&& 0x7fffffffffffffff)), (.double (hi0 &&& 0x7fffffffffffffff))])) t_
        refine own_f_dcmp X45.here hx (hb hby d_prog_8_2_35) rfl (rfl : _ = 36) ?_
        exact ht_
      have k47 : ∀ t_, Steps p.tables e below (T45.setTop (mkF m 64 #[.val (.ref a1), .val (.double dx), .second, .val (.double (own_fst hi0 q1)), .second, .val (.int (0 : Int32)), .val (.int (1 : Int32)), .val (.double (own_snd hi0 q1)), .second, .val (.double (FP.dadd (own_fst hi0 q1) (own_snd hi0 q1))), .second, .val (.double (own_lo (own_fst hi0 q1) (own_snd hi0 q1))), .second] [])) t_ → Steps p.tables e below A t_ := by
        intro t_ ht_
        refine k46 t_ ?_
        by_cases hsw : own_lt hi0 q1
        · have e1 : own_fst hi0 q1 = q1 := if_pos hsw
          have e2 : own_snd hi0 q1 = hi0 := if_pos hsw
          rw [e1, e2] at ht_ na1 nb1 nc1
          have hs_ : (cmpValue (FP.dcmp (hi0 &&& 0x7fffffffffffffff) (q1 &&& 0x7fffffffffffffff)) .g) < (0 : Int32) := hsw
          refine own_f_ifNo X45.here hx (hb hby d_prog_8_2_36) ((if0 _ _).trans (tlt (hs_)).2.1) (rfl : _ = 39) ?_
          refine own_f_dload X45.here hx (hb hby d_prog_8_2_39) rfl (rfl : _ = 41) ?_
          refine own_f_dstore X45.here hx (hb hby d_prog_8_2_41) (rfl : storeLocals _ _ _ = some #[.val (.ref a1), .val (.double dx), .second, .val (.double hi0), .second, .val (.int (0 : Int32)), .val (.int (1 : Int32)), .val (.double q1), .second, .val (.double q1), .second, .val (.double lo0), .second]) (rfl : _ = 43) ?_
          refine own_f_dloadN X45.here hx (hb hby d_prog_8_2_43) rfl (rfl : _ = 44) ?_
          refine own_f_dstore X45.here hx (hb hby d_prog_8_2_44) (rfl : storeLocals _ _ _ = some #[.val (.ref a1), .val (.double dx), .second, .val (.double hi0), .second, .val (.int (0 : Int32)), .val (.int (1 : Int32)), .val (.double hi0), .second, .val (.double q1), .second, .val (.double lo0), .second]) (rfl : _ = 46) ?_
          refine own_f_dload X45.here hx (hb hby d_prog_8_2_46) rfl (rfl : _ = 48) ?_
          refine own_f_dstoreN X45.here hx (hb hby d_prog_8_2_48) (rfl : storeLocals _ _ _ = some #[.val (.ref a1), .val (.double dx), .second, .val (.double q1), .second, .val (.int (0 : Int32)), .val (.int (1 : Int32)), .val (.double hi0), .second, .val (.double q1), .second, .val (.double lo0), .second]) (rfl : _ = 49) ?_
          refine own_f_dloadN X45.here hx (hb hby d_prog_8_2_49) rfl (rfl : _ = 50) ?_
          refine own_f_dload X45.here hx (hb hby d_prog_8_2_50) rfl (rfl : _ = 52) ?_
          refine own_f_dadd X45.here hx (hb hby d_prog_8_2_52) (na1) rfl (rfl : _ = 53) ?_
          refine own_f_dstore X45.here hx (hb hby d_prog_8_2_53) (rfl : storeLocals _ _ _ = some #[.val (.ref a1), .val (.double dx), .second, .val (.double q1), .second, .val (.int (0 : Int32)), .val (.int (1 : Int32)), .val (.double hi0), .second, .val (.double (FP.dadd q1 hi0)), .second, .val (.double lo0), .second]) (rfl : _ = 55) ?_
          refine own_f_dload X45.here hx (hb hby d_prog_8_2_55) rfl (rfl : _ = 57) ?_
          refine own_f_dload X45.here hx (hb hby d_prog_8_2_57) rfl (rfl : _ = 59) ?_
          refine own_f_dloadN X45.here hx (hb hby d_prog_8_2_59) rfl (rfl : _ = 60) ?_
          refine own_f_dsub X45.here hx (hb hby d_prog_8_2_60) (nb1) rfl (rfl : _ = 61) ?_
          refine own_f_dsub X45.here hx (hb hby d_prog_8_2_61) (nc1) rfl (rfl : _ = 62) ?_
          refine own_f_dstore X45.here hx (hb hby d_prog_8_2_62) (rfl : storeLocals _ _ _ = some #[.val (.ref a1), .val (.double dx), .second, .val (.double q1), .second, .val (.int (0 : Int32)), .val (.int (1 : Int32)), .val (.double hi0), .second, .val (.double (FP.dadd q1 hi0)), .second, .val (.double (FP.dsub hi0 (FP.dsub (FP.dadd q1 hi0) q1))), .second]) (rfl : _ = 64) ?_
          exact ht_
        · have e1 : own_fst hi0 q1 = hi0 := if_neg hsw
          have e2 : own_snd hi0 q1 = q1 := if_neg hsw
          rw [e1, e2] at ht_ na1 nb1 nc1
          have hs_ : ¬ ((cmpValue (FP.dcmp (hi0 &&& 0x7fffffffffffffff) (q1 &&& 0x7fffffffffffffff)) .g) < (0 : Int32)) := hsw
          refine own_f_ifYes X45.here hx (hb hby d_prog_8_2_36) ((if0 _ _).trans (flt (hs_)).2.1) (by decide) (by decide : _ = 49) ?_
          refine own_f_dloadN X45.here hx (hb hby d_prog_8_2_49) rfl (rfl : _ = 50) ?_
          refine own_f_dload X45.here hx (hb hby d_prog_8_2_50) rfl (rfl : _ = 52) ?_
          refine own_f_dadd X45.here hx (hb hby d_prog_8_2_52) (na1) rfl (rfl : _ = 53) ?_
          refine own_f_dstore X45.here hx (hb hby d_prog_8_2_53) (rfl : storeLocals _ _ _ = some #[.val (.ref a1), .val (.double dx), .second, .val (.double hi0), .second, .val (.int (0 : Int32)), .val (.int (1 : Int32)), .val (.double q1), .second, .val (.double (FP.dadd hi0 q1)), .second, .val (.double lo0), .second]) (rfl : _ = 55) ?_
          refine own_f_dload X45.here hx (hb hby d_prog_8_2_55) rfl (rfl : _ = 57) ?_
          refine own_f_dload X45.here hx (hb hby d_prog_8_2_57) rfl (rfl : _ = 59) ?_
          refine own_f_dloadN X45.here hx (hb hby d_prog_8_2_59) rfl (rfl : _ = 60) ?_
          refine own_f_dsub X45.here hx (hb hby d_prog_8_2_60) (nb1) rfl (rfl : _ = 61) ?_
          refine own_f_dsub X45.here hx (hb hby d_prog_8_2_61) (nc1) rfl (rfl : _ = 62) ?_
          refine own_f_dstore X45.here hx (hb hby d_prog_8_2_62) (rfl : storeLocals _ _ _ = some #[.val (.ref a1), .val (.double dx), .second, .val (.double hi0), .second, .val (.int (0 : Int32)), .val (.int (1 : Int32)), .val (.double q1), .second, .val (.double (FP.dadd hi0 q1)), .second, .val (.double (FP.dsub q1 (FP.dsub (FP.dadd hi0 q1) hi0))), .second]) (rfl : _ = 64) ?_
          exact ht_
      obtain ⟨hi1, hhi1⟩ : ∃ z : UInt64, z = (FP.dadd (own_fst hi0 q1) (own_snd hi0 q1)) := ⟨_, rfl⟩
      rw [← hhi1] at k47
      obtain ⟨lo1, hlo1⟩ : ∃ z : UInt64, z = (own_lo (own_fst hi0 q1) (own_snd hi0 q1)) := ⟨_, rfl⟩
      rw [← hlo1] at k47
      replace hnn := own_nn' hhi1 hnn
      have k48 : ∀ t_, Steps p.tables e below (T45.setTop (mkF m 68 #[.val (.ref a1), .val (.double dx), .second, .val (.double (own_fst hi0 q1)), .second, .val (.int (0 : Int32)), .val (.int (1 : Int32)), .val (.double (own_snd hi0 q1)), .second, .val (.double hi1), .second, .val (.double lo1), .second] [(.int (cmpValue (FP.dcmp lo1 (0 : UInt64)) .l))])) t_ → Steps p.tables e below A t_ := by
        intro t_ ht_
        refine k47 t_ ?_
        refine own_f_dload X45.here hx (hb hby d_prog_8_2_64) rfl (rfl : _ = 66) ?_
        refine own_f_dconst0 X45.here hx (hb hby d_prog_8_2_66) (rfl : _ = (0 : UInt64)) (rfl : _ = 67) ?_
        refine own_f_dcmp X45.here hx (hb hby d_prog_8_2_67) rfl (rfl : _ = 68) ?_
        exact ht_
      by_cases hz1 : (cmpValue (FP.dcmp lo1 (0 : UInt64)) .l) = (0 : Int32)
      · obtain ⟨T49, X49, e49, st49⟩ := getF X45 hx hZ hown (host := "") (Or.inl (hw _ (List.mem_of_getElem? (i := 17) rfl))) Via.refl e45 Fs (g := (mkF m 11 #[.val (.ref a1), .val (.double dx), .second, .val (.double hi1), .second, .val (.int (0 : Int32)), .val (.int (2 : Int32)), .val (.double (own_snd hi0 q1)), .second, .val (.double hi1), .second, .val (.double lo1), .second] [(.ref a1), (.int (2 : Int32))])) rfl rfl (hb hby d_prog_8_2_11)
        obtain ⟨T50, X50, e50, st50⟩ := getF X49 hx hZ hown (host := "") (Or.inl (hw _ (List.mem_of_getElem? (i := 10) rfl))) Via.refl e49 Fp (g := (mkF m 95 #[.val (.ref a1), .val (.double dx), .second, .val (.double hi1), .second, .val (.int (0 : Int32)), .val (.int (2 : Int32)), .val (.double (own_snd hi0 q1)), .second, .val (.double hi1), .second, .val (.double lo1), .second] [(.ref a1), (.int (0 : Int32))])) rfl rfl (hb hby d_prog_8_2_95)
        obtain ⟨cl51, Ar51, -, Sz51, Ng51, -, -⟩ := id Va
        obtain ⟨T52, X52, e52, st52⟩ := getF X50 hx hZ hown (host := "") (Or.inl (hw _ (List.mem_of_getElem? (i := 10) rfl))) Via.refl e50 Fp (g := (mkF m 118 #[.val (.ref a1), .val (.double dx), .second, .val (.double hi1), .second, .val (.int (0 : Int32)), .val (.int (2 : Int32)), .val (.double (own_snd hi0 q1)), .second, .val (.double hi1), .second, .val (.double lo1), .second] [(.ref a1)])) rfl rfl (hb hby d_prog_8_2_118)
        obtain ⟨cl53, Ar53, q53, Sz53, Ng53, Hs53, Gs53⟩ := Va
        have hin53 : ¬ ((0 : Int32) < 0 ∨ cl53.slots.size ≤ ((0 : Int32)).toNatClampNeg) := inb_of Sz53 ⟨by decide, by decide⟩
        obtain ⟨T54, h54, X54, e54, W54, st54⟩ := stD X52 hx hZ e52 Ar53 (j := (0 : Int32)) hin53 (g := (mkF m 127 #[.val (.ref a1), .val (.double dx), .second, .val (.double hi1), .second, .val (.int (1 : Int32)), .val (.int (2 : Int32)), .val (.double (own_snd hi0 q1)), .second, .val (.double hi1), .second, .val (.double lo1), .second] [(.double hi1), (.int (0 : Int32)), (.ref ar)])) rfl rfl (hb hby d_prog_8_2_127)
        replace Ea := Ea.wr W54
        replace Fp := Fp.other W54 (Or.inl hne)
        replace Fs := Fs.other W54 (Or.inl hne)
        have Zs54 := Nat.le_trans Z0 (Keep.of_wr W54).1
        replace KK := KK.wr W54 (Or.inl (by simp))
        have Va : Arv Z h54 ar kc .double (4 : Int32) [(.double hi1), (.double q1), (.double q2), (.double q3)] (.double (0 : UInt64)) := Arv.set Ar53 q53 Sz53 Ng53 Hs53 Gs53 rfl W54 0 rfl (Nat.le_of_ble_eq_true rfl)
        have N54 := Fr.snoc X54 N0 g_ar
        obtain ⟨T55, h55, X55, e55, W55, st55⟩ := putF X54 hx hZ hown (host := "") (Or.inl (hw _ (List.mem_of_getElem? (i := 17) rfl))) Via.refl e54 Fs Ea (Or.inl (hw _ (List.mem_of_getElem? (i := 18) rfl))) (hw _ (List.mem_of_getElem? (i := 1) rfl)) (ty := .int) (by decide) rfl rfl (g := (mkF m 131 #[.val (.ref a1), .val (.double dx), .second, .val (.double hi1), .second, .val (.int (1 : Int32)), .val (.int (2 : Int32)), .val (.double (own_snd hi0 q1)), .second, .val (.double hi1), .second, .val (.double lo1), .second] [(.int (1 : Int32)), (.ref a1)])) rfl rfl (hb hby d_prog_8_2_131)
        replace Ea := Ea.wr W55
        replace Fp := Fp.other W55 (Or.inr (slot_ne (Or.inl (hw _ (List.mem_of_getElem? (i := 11) rfl))) (Or.inl (hw _ (List.mem_of_getElem? (i := 18) rfl))) (by decide) (t := (.array .double)) (t' := .int) (by decide) (by decide)))
        replace Va := Va.other W55 (Ne.symm hne)
        have Zs55 := Nat.le_trans Zs54 (Keep.of_wr W55).1
        replace KK := KK.wr W55 (Or.inl (by simp))
        replace Fs := Fs.same W55
        have N55 := Fr.snoc X55 N54 g_a1
        obtain ⟨fs, hr, hrun, hended, hW, hsame⟩ := X55.leave (v := none) (fun _ => rfl) hlk
        refine ⟨_, _, ?_, hrun, hended, _, _, rfl, ?_, ⟨_, rfl⟩, hW, hsame.mono (by decide) (by decide)⟩
        · refine hA0 _ ?_
          refine k48 _ ?_
          refine own_f_ifYes X45.here hx (hb hby d_prog_8_2_68) ((if0 _ _).trans (teq (hz1)).1) (by decide) (by decide : _ = 83) ?_
          refine own_f_dload X45.here hx (hb hby d_prog_8_2_83) rfl (rfl : _ = 85) ?_
          refine own_f_dstoreN X45.here hx (hb hby d_prog_8_2_85) (rfl : storeLocals _ _ _ = some #[.val (.ref a1), .val (.double dx), .second, .val (.double hi1), .second, .val (.int (0 : Int32)), .val (.int (1 : Int32)), .val (.double (own_snd hi0 q1)), .second, .val (.double hi1), .second, .val (.double lo1), .second]) (rfl : _ = 86) ?_
          refine own_f_iinc X45.here hx (hb hby d_prog_8_2_86) rfl (rfl : storeLocals _ _ _ = some #[.val (.ref a1), .val (.double dx), .second, .val (.double hi1), .second, .val (.int (0 : Int32)), .val (.int (2 : Int32)), .val (.double (own_snd hi0 q1)), .second, .val (.double hi1), .second, .val (.double lo1), .second]) (rfl : _ = 89) ?_
          refine own_f_goto X45.here hx (hb hby d_prog_8_2_89) (by decide) (by decide : _ = 8) ?_
          refine own_f_iload X45.here hx (hb hby d_prog_8_2_8) rfl (rfl : _ = 10) ?_
          refine own_f_aloadN X45.here hx (hb hby d_prog_8_2_10) rfl rfl (rfl : _ = 11) ?_
          refine st49 _ ?_
          show Steps p.tables e below (T49.setTop (mkF m 14 #[.val (.ref a1), .val (.double dx), .second, .val (.double hi1), .second, .val (.int (0 : Int32)), .val (.int (2 : Int32)), .val (.double (own_snd hi0 q1)), .second, .val (.double hi1), .second, .val (.double lo1), .second] [(.int (2 : Int32)), (.int (2 : Int32))])) _
          refine own_f_icmpYes X49.here hx (hb hby d_prog_8_2_14) (flt (by decide)).2.1 (by decide) (by decide : _ = 92) ?_
          refine own_f_iload X49.here hx (hb hby d_prog_8_2_92) rfl (rfl : _ = 94) ?_
          refine own_f_aloadN X49.here hx (hb hby d_prog_8_2_94) rfl rfl (rfl : _ = 95) ?_
          refine st50 _ ?_
          show Steps p.tables e below (T50.setTop (mkF m 98 #[.val (.ref a1), .val (.double dx), .second, .val (.double hi1), .second, .val (.int (0 : Int32)), .val (.int (2 : Int32)), .val (.double (own_snd hi0 q1)), .second, .val (.double hi1), .second, .val (.double lo1), .second] [(.ref ar), (.int (0 : Int32))])) _
          refine X50.arraylength hx (by rw [e50]; exact Ar51.1) (State.isArrayOf_alike hZ.alike Ar51.2.1) (g := (mkF m 98 #[.val (.ref a1), .val (.double dx), .second, .val (.double hi1), .second, .val (.int (0 : Int32)), .val (.int (2 : Int32)), .val (.double (own_snd hi0 q1)), .second, .val (.double hi1), .second, .val (.double lo1), .second] [(.ref ar), (.int (0 : Int32))])) rfl rfl (hb hby d_prog_8_2_98) _ ?_
          rw [len_of Sz51 Ng51]
          show Steps p.tables e below (T50.setTop (mkF m 99 #[.val (.ref a1), .val (.double dx), .second, .val (.double hi1), .second, .val (.int (0 : Int32)), .val (.int (2 : Int32)), .val (.double (own_snd hi0 q1)), .second, .val (.double hi1), .second, .val (.double lo1), .second] [(.int (4 : Int32)), (.int (0 : Int32))])) _
          refine own_f_icmpYes X50.here hx (hb hby d_prog_8_2_99) (feq (by decide)).2 (by decide) (by decide : _ = 117) ?_
          refine own_f_aloadN X50.here hx (hb hby d_prog_8_2_117) rfl rfl (rfl : _ = 118) ?_
          refine st52 _ ?_
          show Steps p.tables e below (T52.setTop (mkF m 121 #[.val (.ref a1), .val (.double dx), .second, .val (.double hi1), .second, .val (.int (0 : Int32)), .val (.int (2 : Int32)), .val (.double (own_snd hi0 q1)), .second, .val (.double hi1), .second, .val (.double lo1), .second] [(.ref ar)])) _
          refine own_f_iload X52.here hx (hb hby d_prog_8_2_121) rfl (rfl : _ = 123) ?_
          refine own_f_iinc X52.here hx (hb hby d_prog_8_2_123) rfl (rfl : storeLocals _ _ _ = some #[.val (.ref a1), .val (.double dx), .second, .val (.double hi1), .second, .val (.int (1 : Int32)), .val (.int (2 : Int32)), .val (.double (own_snd hi0 q1)), .second, .val (.double hi1), .second, .val (.double lo1), .second]) (rfl : _ = 126) ?_
          refine own_f_dloadN X52.here hx (hb hby d_prog_8_2_126) rfl (rfl : _ = 127) ?_
          refine st54 _ ?_
          show Steps p.tables e below (T54.setTop (mkF m 128 #[.val (.ref a1), .val (.double dx), .second, .val (.double hi1), .second, .val (.int (1 : Int32)), .val (.int (2 : Int32)), .val (.double (own_snd hi0 q1)), .second, .val (.double hi1), .second, .val (.double lo1), .second] [])) _
          refine own_f_aloadN X54.here hx (hb hby d_prog_8_2_128) rfl rfl (rfl : _ = 129) ?_
          refine own_f_iload X54.here hx (hb hby d_prog_8_2_129) rfl (rfl : _ = 131) ?_
          refine st55 _ ?_
          show Steps p.tables e below (T55.setTop (mkF m 134 #[.val (.ref a1), .val (.double dx), .second, .val (.double hi1), .second, .val (.int (1 : Int32)), .val (.int (2 : Int32)), .val (.double (own_snd hi0 q1)), .second, .val (.double hi1), .second, .val (.double lo1), .second] [])) _
          exact X55.returnOut hx Bd.returns (hb hby d_prog_8_2_134) hr
        · show Q2 Z a1 dx _ ar kc q0 q1 q2 q3 _ h0 n0 _ T55.heap _
          rw [e55]
          exact ⟨(1 : Int32), hi1, q1, q2, q3, rfl, N55, KK, Fp, Fs, Va, own_res (M := [hi1]) (by rw [own_ins_d hlo0 hhi0 hz0, own_ins_d hlo1 hhi1 hz1]; rfl) (by show Int32.toInt 1 = ((1 : Nat) : Int); decide) rfl⟩
      · obtain ⟨T56, X56, e56, st56⟩ := getF X45 hx hZ hown (host := "") (Or.inl (hw _ (List.mem_of_getElem? (i := 10) rfl))) Via.refl e45 Fp (g := (mkF m 72 #[.val (.ref a1), .val (.double dx), .second, .val (.double (own_fst hi0 q1)), .second, .val (.int (0 : Int32)), .val (.int (1 : Int32)), .val (.double (own_snd hi0 q1)), .second, .val (.double hi1), .second, .val (.double lo1), .second] [(.ref a1)])) rfl rfl (hb hby d_prog_8_2_72)
        obtain ⟨cl57, Ar57, q57, Sz57, Ng57, Hs57, Gs57⟩ := Va
        have hin57 : ¬ ((0 : Int32) < 0 ∨ cl57.slots.size ≤ ((0 : Int32)).toNatClampNeg) := inb_of Sz57 ⟨by decide, by decide⟩
        obtain ⟨T58, h58, X58, e58, W58, st58⟩ := stD X56 hx hZ e56 Ar57 (j := (0 : Int32)) hin57 (g := (mkF m 82 #[.val (.ref a1), .val (.double dx), .second, .val (.double (own_fst hi0 q1)), .second, .val (.int (1 : Int32)), .val (.int (1 : Int32)), .val (.double (own_snd hi0 q1)), .second, .val (.double hi1), .second, .val (.double lo1), .second] [(.double lo1), (.int (0 : Int32)), (.ref ar)])) rfl rfl (hb hby d_prog_8_2_82)
        replace Ea := Ea.wr W58
        replace Fp := Fp.other W58 (Or.inl hne)
        replace Fs := Fs.other W58 (Or.inl hne)
        have Zs58 := Nat.le_trans Z0 (Keep.of_wr W58).1
        replace KK := KK.wr W58 (Or.inl (by simp))
        have Va : Arv Z h58 ar kc .double (4 : Int32) [(.double lo1), (.double q1), (.double q2), (.double q3)] (.double (0 : UInt64)) := Arv.set Ar57 q57 Sz57 Ng57 Hs57 Gs57 rfl W58 0 rfl (Nat.le_of_ble_eq_true rfl)
        have N58 := Fr.snoc X58 N0 g_ar
        obtain ⟨T59, X59, e59, st59⟩ := getF X58 hx hZ hown (host := "") (Or.inl (hw _ (List.mem_of_getElem? (i := 17) rfl))) Via.refl e58 Fs (g := (mkF m 11 #[.val (.ref a1), .val (.double dx), .second, .val (.double hi1), .second, .val (.int (1 : Int32)), .val (.int (2 : Int32)), .val (.double (own_snd hi0 q1)), .second, .val (.double hi1), .second, .val (.double lo1), .second] [(.ref a1), (.int (2 : Int32))])) rfl rfl (hb hby d_prog_8_2_11)
        obtain ⟨T60, X60, e60, st60⟩ := getF X59 hx hZ hown (host := "") (Or.inl (hw _ (List.mem_of_getElem? (i := 10) rfl))) Via.refl e59 Fp (g := (mkF m 95 #[.val (.ref a1), .val (.double dx), .second, .val (.double hi1), .second, .val (.int (1 : Int32)), .val (.int (2 : Int32)), .val (.double (own_snd hi0 q1)), .second, .val (.double hi1), .second, .val (.double lo1), .second] [(.ref a1), (.int (1 : Int32))])) rfl rfl (hb hby d_prog_8_2_95)
        obtain ⟨cl61, Ar61, -, Sz61, Ng61, -, -⟩ := id Va
        obtain ⟨T62, X62, e62, st62⟩ := getF X60 hx hZ hown (host := "") (Or.inl (hw _ (List.mem_of_getElem? (i := 10) rfl))) Via.refl e60 Fp (g := (mkF m 118 #[.val (.ref a1), .val (.double dx), .second, .val (.double hi1), .second, .val (.int (1 : Int32)), .val (.int (2 : Int32)), .val (.double (own_snd hi0 q1)), .second, .val (.double hi1), .second, .val (.double lo1), .second] [(.ref a1)])) rfl rfl (hb hby d_prog_8_2_118)
        obtain ⟨cl63, Ar63, q63, Sz63, Ng63, Hs63, Gs63⟩ := Va
        have hin63 : ¬ ((1 : Int32) < 0 ∨ cl63.slots.size ≤ ((1 : Int32)).toNatClampNeg) := inb_of Sz63 ⟨by decide, by decide⟩
        obtain ⟨T64, h64, X64, e64, W64, st64⟩ := stD X62 hx hZ e62 Ar63 (j := (1 : Int32)) hin63 (g := (mkF m 127 #[.val (.ref a1), .val (.double dx), .second, .val (.double hi1), .second, .val (.int (2 : Int32)), .val (.int (2 : Int32)), .val (.double (own_snd hi0 q1)), .second, .val (.double hi1), .second, .val (.double lo1), .second] [(.double hi1), (.int (1 : Int32)), (.ref ar)])) rfl rfl (hb hby d_prog_8_2_127)
        replace Ea := Ea.wr W64
        replace Fp := Fp.other W64 (Or.inl hne)
        replace Fs := Fs.other W64 (Or.inl hne)
        have Zs64 := Nat.le_trans Zs58 (Keep.of_wr W64).1
        replace KK := KK.wr W64 (Or.inl (by simp))
        have Va : Arv Z h64 ar kc .double (4 : Int32) [(.double lo1), (.double hi1), (.double q2), (.double q3)] (.double (0 : UInt64)) := Arv.set Ar63 q63 Sz63 Ng63 Hs63 Gs63 rfl W64 1 rfl (Nat.le_of_ble_eq_true rfl)
        have N64 := Fr.snoc X64 N58 g_ar
        obtain ⟨T65, h65, X65, e65, W65, st65⟩ := putF X64 hx hZ hown (host := "") (Or.inl (hw _ (List.mem_of_getElem? (i := 17) rfl))) Via.refl e64 Fs Ea (Or.inl (hw _ (List.mem_of_getElem? (i := 18) rfl))) (hw _ (List.mem_of_getElem? (i := 1) rfl)) (ty := .int) (by decide) rfl rfl (g := (mkF m 131 #[.val (.ref a1), .val (.double dx), .second, .val (.double hi1), .second, .val (.int (2 : Int32)), .val (.int (2 : Int32)), .val (.double (own_snd hi0 q1)), .second, .val (.double hi1), .second, .val (.double lo1), .second] [(.int (2 : Int32)), (.ref a1)])) rfl rfl (hb hby d_prog_8_2_131)
        replace Ea := Ea.wr W65
        replace Fp := Fp.other W65 (Or.inr (slot_ne (Or.inl (hw _ (List.mem_of_getElem? (i := 11) rfl))) (Or.inl (hw _ (List.mem_of_getElem? (i := 18) rfl))) (by decide) (t := (.array .double)) (t' := .int) (by decide) (by decide)))
        replace Va := Va.other W65 (Ne.symm hne)
        have Zs65 := Nat.le_trans Zs64 (Keep.of_wr W65).1
        replace KK := KK.wr W65 (Or.inl (by simp))
        replace Fs := Fs.same W65
        have N65 := Fr.snoc X65 N64 g_a1
        obtain ⟨fs, hr, hrun, hended, hW, hsame⟩ := X65.leave (v := none) (fun _ => rfl) hlk
        refine ⟨_, _, ?_, hrun, hended, _, _, rfl, ?_, ⟨_, rfl⟩, hW, hsame.mono (by decide) (by decide)⟩
        · refine hA0 _ ?_
          refine k48 _ ?_
          refine own_f_ifNo X45.here hx (hb hby d_prog_8_2_68) ((if0 _ _).trans (feq (hz1)).1) (rfl : _ = 71) ?_
          refine own_f_aloadN X45.here hx (hb hby d_prog_8_2_71) rfl rfl (rfl : _ = 72) ?_
          refine st56 _ ?_
          show Steps p.tables e below (T56.setTop (mkF m 75 #[.val (.ref a1), .val (.double dx), .second, .val (.double (own_fst hi0 q1)), .second, .val (.int (0 : Int32)), .val (.int (1 : Int32)), .val (.double (own_snd hi0 q1)), .second, .val (.double hi1), .second, .val (.double lo1), .second] [(.ref ar)])) _
          refine own_f_iload X56.here hx (hb hby d_prog_8_2_75) rfl (rfl : _ = 77) ?_
          refine own_f_iinc X56.here hx (hb hby d_prog_8_2_77) rfl (rfl : storeLocals _ _ _ = some #[.val (.ref a1), .val (.double dx), .second, .val (.double (own_fst hi0 q1)), .second, .val (.int (1 : Int32)), .val (.int (1 : Int32)), .val (.double (own_snd hi0 q1)), .second, .val (.double hi1), .second, .val (.double lo1), .second]) (rfl : _ = 80) ?_
          refine own_f_dload X56.here hx (hb hby d_prog_8_2_80) rfl (rfl : _ = 82) ?_
          refine st58 _ ?_
          show Steps p.tables e below (T58.setTop (mkF m 83 #[.val (.ref a1), .val (.double dx), .second, .val (.double (own_fst hi0 q1)), .second, .val (.int (1 : Int32)), .val (.int (1 : Int32)), .val (.double (own_snd hi0 q1)), .second, .val (.double hi1), .second, .val (.double lo1), .second] [])) _
          refine own_f_dload X58.here hx (hb hby d_prog_8_2_83) rfl (rfl : _ = 85) ?_
          refine own_f_dstoreN X58.here hx (hb hby d_prog_8_2_85) (rfl : storeLocals _ _ _ = some #[.val (.ref a1), .val (.double dx), .second, .val (.double hi1), .second, .val (.int (1 : Int32)), .val (.int (1 : Int32)), .val (.double (own_snd hi0 q1)), .second, .val (.double hi1), .second, .val (.double lo1), .second]) (rfl : _ = 86) ?_
          refine own_f_iinc X58.here hx (hb hby d_prog_8_2_86) rfl (rfl : storeLocals _ _ _ = some #[.val (.ref a1), .val (.double dx), .second, .val (.double hi1), .second, .val (.int (1 : Int32)), .val (.int (2 : Int32)), .val (.double (own_snd hi0 q1)), .second, .val (.double hi1), .second, .val (.double lo1), .second]) (rfl : _ = 89) ?_
          refine own_f_goto X58.here hx (hb hby d_prog_8_2_89) (by decide) (by decide : _ = 8) ?_
          refine own_f_iload X58.here hx (hb hby d_prog_8_2_8) rfl (rfl : _ = 10) ?_
          refine own_f_aloadN X58.here hx (hb hby d_prog_8_2_10) rfl rfl (rfl : _ = 11) ?_
          refine st59 _ ?_
          show Steps p.tables e below (T59.setTop (mkF m 14 #[.val (.ref a1), .val (.double dx), .second, .val (.double hi1), .second, .val (.int (1 : Int32)), .val (.int (2 : Int32)), .val (.double (own_snd hi0 q1)), .second, .val (.double hi1), .second, .val (.double lo1), .second] [(.int (2 : Int32)), (.int (2 : Int32))])) _
          refine own_f_icmpYes X59.here hx (hb hby d_prog_8_2_14) (flt (by decide)).2.1 (by decide) (by decide : _ = 92) ?_
          refine own_f_iload X59.here hx (hb hby d_prog_8_2_92) rfl (rfl : _ = 94) ?_
          refine own_f_aloadN X59.here hx (hb hby d_prog_8_2_94) rfl rfl (rfl : _ = 95) ?_
          refine st60 _ ?_
          show Steps p.tables e below (T60.setTop (mkF m 98 #[.val (.ref a1), .val (.double dx), .second, .val (.double hi1), .second, .val (.int (1 : Int32)), .val (.int (2 : Int32)), .val (.double (own_snd hi0 q1)), .second, .val (.double hi1), .second, .val (.double lo1), .second] [(.ref ar), (.int (1 : Int32))])) _
          refine X60.arraylength hx (by rw [e60]; exact Ar61.1) (State.isArrayOf_alike hZ.alike Ar61.2.1) (g := (mkF m 98 #[.val (.ref a1), .val (.double dx), .second, .val (.double hi1), .second, .val (.int (1 : Int32)), .val (.int (2 : Int32)), .val (.double (own_snd hi0 q1)), .second, .val (.double hi1), .second, .val (.double lo1), .second] [(.ref ar), (.int (1 : Int32))])) rfl rfl (hb hby d_prog_8_2_98) _ ?_
          rw [len_of Sz61 Ng61]
          show Steps p.tables e below (T60.setTop (mkF m 99 #[.val (.ref a1), .val (.double dx), .second, .val (.double hi1), .second, .val (.int (1 : Int32)), .val (.int (2 : Int32)), .val (.double (own_snd hi0 q1)), .second, .val (.double hi1), .second, .val (.double lo1), .second] [(.int (4 : Int32)), (.int (1 : Int32))])) _
          refine own_f_icmpYes X60.here hx (hb hby d_prog_8_2_99) (feq (by decide)).2 (by decide) (by decide : _ = 117) ?_
          refine own_f_aloadN X60.here hx (hb hby d_prog_8_2_117) rfl rfl (rfl : _ = 118) ?_
          refine st62 _ ?_
          show Steps p.tables e below (T62.setTop (mkF m 121 #[.val (.ref a1), .val (.double dx), .second, .val (.double hi1), .second, .val (.int (1 : Int32)), .val (.int (2 : Int32)), .val (.double (own_snd hi0 q1)), .second, .val (.double hi1), .second, .val (.double lo1), .second] [(.ref ar)])) _
          refine own_f_iload X62.here hx (hb hby d_prog_8_2_121) rfl (rfl : _ = 123) ?_
          refine own_f_iinc X62.here hx (hb hby d_prog_8_2_123) rfl (rfl : storeLocals _ _ _ = some #[.val (.ref a1), .val (.double dx), .second, .val (.double hi1), .second, .val (.int (2 : Int32)), .val (.int (2 : Int32)), .val (.double (own_snd hi0 q1)), .second, .val (.double hi1), .second, .val (.double lo1), .second]) (rfl : _ = 126) ?_
          refine own_f_dloadN X62.here hx (hb hby d_prog_8_2_126) rfl (rfl : _ = 127) ?_
          refine st64 _ ?_
          show Steps p.tables e below (T64.setTop (mkF m 128 #[.val (.ref a1), .val (.double dx), .second, .val (.double hi1), .second, .val (.int (2 : Int32)), .val (.int (2 : Int32)), .val (.double (own_snd hi0 q1)), .second, .val (.double hi1), .second, .val (.double lo1), .second] [])) _
          refine own_f_aloadN X64.here hx (hb hby d_prog_8_2_128) rfl rfl (rfl : _ = 129) ?_
          refine own_f_iload X64.here hx (hb hby d_prog_8_2_129) rfl (rfl : _ = 131) ?_
          refine st65 _ ?_
          show Steps p.tables e below (T65.setTop (mkF m 134 #[.val (.ref a1), .val (.double dx), .second, .val (.double hi1), .second, .val (.int (2 : Int32)), .val (.int (2 : Int32)), .val (.double (own_snd hi0 q1)), .second, .val (.double hi1), .second, .val (.double lo1), .second] [])) _
          exact X65.returnOut hx Bd.returns (hb hby d_prog_8_2_134) hr
        · show Q2 Z a1 dx _ ar kc q0 q1 q2 q3 _ h0 n0 _ T65.heap _
          rw [e65]
          exact ⟨(2 : Int32), lo1, hi1, q2, q3, rfl, N65, KK, Fp, Fs, Va, own_res (M := [lo1, hi1]) (by rw [own_ins_d hlo0 hhi0 hz0, own_ins_c hlo1 hhi1 hz1]; rfl) (by show Int32.toInt 2 = ((2 : Nat) : Int); decide) rfl⟩
    · obtain ⟨T66, X66, e66, st66⟩ := getF X37 hx hZ hown (host := "") (Or.inl (hw _ (List.mem_of_getElem? (i := 10) rfl))) Via.refl e37 Fp (g := (mkF m 72 #[.val (.ref a1), .val (.double dx), .second, .val (.double (own_fst dx q0)), .second, .val (.int (0 : Int32)), .val (.int (0 : Int32)), .val (.double (own_snd dx q0)), .second, .val (.double hi0), .second, .val (.double lo0), .second] [(.ref a1)])) rfl rfl (hb hby d_prog_8_2_72)
      obtain ⟨cl67, Ar67, q67, Sz67, Ng67, Hs67, Gs67⟩ := Va
      have hin67 : ¬ ((0 : Int32) < 0 ∨ cl67.slots.size ≤ ((0 : Int32)).toNatClampNeg) := inb_of Sz67 ⟨by decide, by decide⟩
      obtain ⟨T68, h68, X68, e68, W68, st68⟩ := stD X66 hx hZ e66 Ar67 (j := (0 : Int32)) hin67 (g := (mkF m 82 #[.val (.ref a1), .val (.double dx), .second, .val (.double (own_fst dx q0)), .second, .val (.int (1 : Int32)), .val (.int (0 : Int32)), .val (.double (own_snd dx q0)), .second, .val (.double hi0), .second, .val (.double lo0), .second] [(.double lo0), (.int (0 : Int32)), (.ref ar)])) rfl rfl (hb hby d_prog_8_2_82)
      replace Ea := Ea.wr W68
      replace Fp := Fp.other W68 (Or.inl hne)
      replace Fs := Fs.other W68 (Or.inl hne)
      have Zs68 := Nat.le_trans Z0 (Keep.of_wr W68).1
      replace KK := KK.wr W68 (Or.inl (by simp))
      have Va : Arv Z h68 ar kc .double (4 : Int32) [(.double lo0), (.double q1), (.double q2), (.double q3)] (.double (0 : UInt64)) := Arv.set Ar67 q67 Sz67 Ng67 Hs67 Gs67 rfl W68 0 rfl (Nat.le_of_ble_eq_true rfl)
      have N68 := Fr.snoc X68 N0 g_ar
      obtain ⟨T69, X69, e69, st69⟩ := getF X68 hx hZ hown (host := "") (Or.inl (hw _ (List.mem_of_getElem? (i := 17) rfl))) Via.refl e68 Fs (g := (mkF m 11 #[.val (.ref a1), .val (.double dx), .second, .val (.double hi0), .second, .val (.int (1 : Int32)), .val (.int (1 : Int32)), .val (.double (own_snd dx q0)), .second, .val (.double hi0), .second, .val (.double lo0), .second] [(.ref a1), (.int (1 : Int32))])) rfl rfl (hb hby d_prog_8_2_11)
      obtain ⟨T70, X70, e70, st70⟩ := getF X69 hx hZ hown (host := "") (Or.inl (hw _ (List.mem_of_getElem? (i := 10) rfl))) Via.refl e69 Fp (g := (mkF m 18 #[.val (.ref a1), .val (.double dx), .second, .val (.double hi0), .second, .val (.int (1 : Int32)), .val (.int (1 : Int32)), .val (.double (own_snd dx q0)), .second, .val (.double hi0), .second, .val (.double lo0), .second] [(.ref a1)])) rfl rfl (hb hby d_prog_8_2_18)
      obtain ⟨cl71, Ar71, -, Sz71, Ng71, Hs71, -⟩ := id Va
      have hin71 : ¬ ((1 : Int32) < 0 ∨ cl71.slots.size ≤ ((1 : Int32)).toNatClampNeg) := inb_of Sz71 ⟨by decide, by decide⟩
      have hat71 : cl71.slots[((1 : Int32)).toNatClampNeg]? = some (.double q1) := Hs71 _ (Nat.lt_of_not_le fun q => hin71 (Or.inr q))
      obtain ⟨⟨nx1, nq1⟩, na1, nb1, nc1, -⟩ := own_nn hnn
      obtain ⟨T72, X72, e72, st72⟩ := natS X70 hx hZ hown (hw _ (List.mem_of_getElem? (i := 38) rfl)) (hw _ (List.mem_of_getElem? (i := 39) rfl)) (hw _ (List.mem_of_getElem? (i := 40) rfl)) (hw _ (List.mem_of_getElem? (i := 41) rfl)) (by decide) e70 (W := 0) (val' := (.double (hi0 &&& 0x7fffffffffffffff))) (fun c => Jvm.Free.Fl.Abs.absD_pays hi0 c (by decide) (by decide)) (g := (mkF m 27 #[.val (.ref a1), .val (.double dx), .second, .val (.double hi0), .second, .val (.int (1 : Int32)), .val (.int (1 : Int32)), .val (.double q1), .second, .val (.double hi0), .second, .val (.double lo0), .second] [(.double hi0)])) rfl (by rw [hml]; rfl) (argsL := [(.double hi0)]) (rest := []) (lenOf pd_0 rfl) rfl (by show 2 * 0 + _ ≤ _; exact Nat.le_of_eq rfl) (hb hby d_prog_8_2_27) (by decide) (by decide) ⟨rfl, nx1⟩ rfl
      obtain ⟨T73, X73, e73, st73⟩ := natS X72 hx hZ hown (hw _ (List.mem_of_getElem? (i := 38) rfl)) (hw _ (List.mem_of_getElem? (i := 39) rfl)) (hw _ (List.mem_of_getElem? (i := 40) rfl)) (hw _ (List.mem_of_getElem? (i := 41) rfl)) (by decide) e72 (W := 2) (val' := (.double (q1 &&& 0x7fffffffffffffff))) (fun c => Jvm.Free.Fl.Abs.absD_pays q1 c (by decide) (by decide)) (g := (mkF m 32 #[.val (.ref a1), .val (.double dx), .second, .val (.double hi0), .second, .val (.int (1 : Int32)), .val (.int (1 : Int32)), .val (.double q1), .second, .val (.double hi0), .second, .val (.double lo0), .second] [(.double q1), (.double (hi0 &&& 0x7fffffffffffffff))])) rfl (by rw [hml]; rfl) (argsL := [(.double q1)]) (rest := [(.double (hi0 &&& 0x7fffffffffffffff))]) (lenOf pd_0 rfl) rfl (by show 2 * 0 + _ ≤ _; exact Nat.le_of_eq rfl) (hb hby d_prog_8_2_32) (by decide) (by decide) ⟨rfl, nq1⟩ rfl
      have k74 : ∀ t_, Steps p.tables e below (T73.setTop (mkF m 36 #[.val (.ref a1), .val (.double dx), .second, .val (.double hi0), .second, .val (.int (1 : Int32)), .val (.int (1 : Int32)), .val (.double q1), .second, .val (.double hi0), .second, .val (.double lo0), .second] [(.int (cmpValue (FP.dcmp (hi0 &&& 0x7fffffffffffffff) (q1 &&& 0x7fffffffffffffff)) .g))])) t_ → Steps p.tables e below A t_ := by
        intro t_ ht_
        refine k40 t_ ?_
        refine own_f_ifNo X37.here hx (hb hby d_prog_8_2_68) ((if0 _ _).trans (feq (hz0)).1) (rfl : _ = 71) ?_
        refine own_f_aloadN X37.here hx (hb hby d_prog_8_2_71) rfl rfl (rfl : _ = 72) ?_
        refine st66 _ ?_
        show Steps p.tables e below (T66.setTop (mkF m 75 #[.val (.ref a1), .val (.double dx), .second, .val (.double (own_fst dx q0)), .second, .val (.int (0 : Int32)), .val (.int (0 : Int32)), .val (.double (own_snd dx q0)), .second, .val (.double hi0), .second, .val (.double lo0), .second] [(.ref ar)])) t_
        refine own_f_iload X66.here hx (hb hby d_prog_8_2_75) rfl (rfl : _ = 77) ?_
        refine own_f_iinc X66.here hx (hb hby d_prog_8_2_77) rfl (rfl : storeLocals _ _ _ = some #[.val (.ref a1), .val (.double dx), .second, .val (.double (own_fst dx q0)), .second, .val (.int (1 : Int32)), .val (.int (0 : Int32)), .val (.double (own_snd dx q0)), .second, .val (.double hi0), .second, .val (.double lo0), .second]) (rfl : _ = 80) ?_
        refine own_f_dload X66.here hx (hb hby d_prog_8_2_80) rfl (rfl : _ = 82) ?_
        refine st68 _ ?_
        show Steps p.tables e below (T68.setTop (mkF m 83 #[.val (.ref a1), .val (.double dx), .second, .val (.double (own_fst dx q0)), .second, .val (.int (1 : Int32)), .val (.int (0 : Int32)), .val (.double (own_snd dx q0)), .second, .val (.double hi0), .second, .val (.double lo0), .second] [])) t_
        refine own_f_dload X68.here hx (hb hby d_prog_8_2_83) rfl (rfl : _ = 85) ?_
        refine own_f_dstoreN X68.here hx (hb hby d_prog_8_2_85) (rfl : storeLocals _ _ _ = some #[.val (.ref a1), .val (.double dx), .second, .val (.double hi0), .second, .val (.int (1 : Int32)), .val (.int (0 : Int32)), .val (.double (own_snd dx q0)), .second, .val (.double hi0), .second, .val (.double lo0), .second]) (rfl : _ = 86) ?_
        refine own_f_iinc X68.here hx (hb hby d_prog_8_2_86) rfl (rfl : storeLocals _ _ _ = some #[.val (.ref a1), .val (.double dx), .second, .val (.double hi0), .second, .val (.int (1 : Int32)), .val (.int (1 : Int32)), .val (.double (own_snd dx q0)), .second, .val (.double hi0), .second, .val (.double lo0), .second]) (rfl : _ = 89) ?_
        refine own_f_goto X68.here hx (hb hby d_prog_8_2_89) (by decide) (by decide : _ = 8) ?_
        refine own_f_iload X68.here hx (hb hby d_prog_8_2_8) rfl (rfl : _ = 10) ?_
        refine own_f_aloadN X68.here hx (hb hby d_prog_8_2_10) rfl rfl (rfl : _ = 11) ?_
        refine st69 _ ?_
        show Steps p.tables e below (T69.setTop (mkF m 14 #[.val (.ref a1), .val (.double dx), .second, .val (.double hi0), .second, .val (.int (1 : Int32)), .val (.int (1 : Int32)), .val (.double (own_snd dx q0)), .second, .val (.double hi0), .second, .val (.double lo0), .second] [(.int (2 : Int32)), (.int (1 : Int32))])) t_
        refine own_f_icmpNo X69.here hx (hb hby d_prog_8_2_14) (tlt (by decide)).2.1 (rfl : _ = 17) ?_
        refine own_f_aloadN X69.here hx (hb hby d_prog_8_2_17) rfl rfl (rfl : _ = 18) ?_
        refine st70 _ ?_
        show Steps p.tables e below (T70.setTop (mkF m 21 #[.val (.ref a1), .val (.double dx), .second, .val (.double hi0), .second, .val (.int (1 : Int32)), .val (.int (1 : Int32)), .val (.double (own_snd dx q0)), .second, .val (.double hi0), .second, .val (.double lo0), .second] [(.ref ar)])) t_
        refine own_f_iload X70.here hx (hb hby d_prog_8_2_21) rfl (rfl : _ = 23) ?_
        refine X70.daload hx (j := (1 : Int32)) (v := (.double q1)) (by rw [e70]; exact Ar71.1) (State.isArrayOf_alike hZ.alike Ar71.2.1) Ar71.2.2 hin71 hat71 (g := (mkF m 23 #[.val (.ref a1), .val (.double dx), .second, .val (.double hi0), .second, .val (.int (1 : Int32)), .val (.int (1 : Int32)), .val (.double (own_snd dx q0)), .second, .val (.double hi0), .second, .val (.double lo0), .second] [(.int (1 : Int32)), (.ref ar)])) rfl rfl (hb hby d_prog_8_2_23) _ ?_
        show Steps p.tables e below (T70.setTop (mkF m 24 #[.val (.ref a1), .val (.double dx), .second, .val (.double hi0), .second, .val (.int (1 : Int32)), .val (.int (1 : Int32)), .val (.double (own_snd dx q0)), .second, .val (.double hi0), .second, .val (.double lo0), .second] [(.double q1)])) t_
        refine own_f_dstore X70.here hx (hb hby d_prog_8_2_24) (rfl : storeLocals _ _ _ = some #[.val (.ref a1), .val (.double dx), .second, .val (.double hi0), .second, .val (.int (1 : Int32)), .val (.int (1 : Int32)), .val (.double q1), .second, .val (.double hi0), .second, .val (.double lo0), .second]) (rfl : _ = 26) ?_
        refine own_f_dloadN X70.here hx (hb hby d_prog_8_2_26) rfl (rfl : _ = 27) ?_
        refine st72 _ ?_
        show Steps p.tables e below (T72.setTop (mkF m 30 #[.val (.ref a1), .val (.double dx), .second, .val (.double hi0), .second, .val (.int (1 : Int32)), .val (.int (1 : Int32)), .val (.double q1), .second, .val (.double hi0), .second, .val (.double lo0), .second] [(.double (hi0 &&& 0x7fffffffffffffff))])) t_
        refine own_f_dload X72.here hx (hb hby d_prog_8_2_30) rfl (rfl : _ = 32) ?_
        refine st73 _ ?_
        show Steps p.tables e below (T73.setTop (mkF m 35 #[.val (.ref a1), .val (.double dx), .second, .val (.double hi0), .second, .val (.int (1 : Int32)), .val (.int (1 : Int32)), .val (.double q1), .second, .val (.double hi0), .second, .val (.double lo0), .second] [(.double (q1 &&& 0x7fffffffffffffff)), (.double (hi0 &&& 0x7fffffffffffffff))])) t_
        refine own_f_dcmp X73.here hx (hb hby d_prog_8_2_35) rfl (rfl : _ = 36) ?_
        exact ht_
      have k75 : ∀ t_, Steps p.tables e below (T73.setTop (mkF m 64 #[.val (.ref a1), .val (.double dx), .second, .val (.double (own_fst hi0 q1)), .second, .val (.int (1 : Int32)), .val (.int (1 : Int32)), .val (.double (own_snd hi0 q1)), .second, .val (.double (FP.dadd (own_fst hi0 q1) (own_snd hi0 q1))), .second, .val (.double (own_lo (own_fst hi0 q1) (own_snd hi0 q1))), .second] [])) t_ → Steps p.tables e below A t_ := by
        intro t_ ht_
        refine k74 t_ ?_
        by_cases hsw : own_lt hi0 q1
        · have e1 : own_fst hi0 q1 = q1 := if_pos hsw
          have e2 : own_snd hi0 q1 = hi0 := if_pos hsw
          rw [e1, e2] at ht_ na1 nb1 nc1
          have hs_ : (cmpValue (FP.dcmp (hi0 &&& 0x7fffffffffffffff) (q1 &&& 0x7fffffffffffffff)) .g) < (0 : Int32) := hsw
          refine own_f_ifNo X73.here hx (hb hby d_prog_8_2_36) ((if0 _ _).trans (tlt (hs_)).2.1) (rfl : _ = 39) ?_
          refine own_f_dload X73.here hx (hb hby d_prog_8_2_39) rfl (rfl : _ = 41) ?_
          refine own_f_dstore X73.here hx (hb hby d_prog_8_2_41) (rfl : storeLocals _ _ _ = some #[.val (.ref a1), .val (.double dx), .second, .val (.double hi0), .second, .val (.int (1 : Int32)), .val (.int (1 : Int32)), .val (.double q1), .second, .val (.double q1), .second, .val (.double lo0), .second]) (rfl : _ = 43) ?_
          refine own_f_dloadN X73.here hx (hb hby d_prog_8_2_43) rfl (rfl : _ = 44) ?_
          refine own_f_dstore X73.here hx (hb hby d_prog_8_2_44) (rfl : storeLocals _ _ _ = some #[.val (.ref a1), .val (.double dx), .second, .val (.double hi0), .second, .val (.int (1 : Int32)), .val (.int (1 : Int32)), .val (.double hi0), .second, .val (.double q1), .second, .val (.double lo0), .second]) (rfl : _ = 46) ?_
          refine own_f_dload X73.here hx (hb hby d_prog_8_2_46) rfl (rfl : _ = 48) ?_
          refine own_f_dstoreN X73.here hx (hb hby d_prog_8_2_48) (rfl : storeLocals _ _ _ = some #[.val (.ref a1), .val (.double dx), .second, .val (.double q1), .second, .val (.int (1 : Int32)), .val (.int (1 : Int32)), .val (.double hi0), .second, .val (.double q1), .second, .val (.double lo0), .second]) (rfl : _ = 49) ?_
          refine own_f_dloadN X73.here hx (hb hby d_prog_8_2_49) rfl (rfl : _ = 50) ?_
          refine own_f_dload X73.here hx (hb hby d_prog_8_2_50) rfl (rfl : _ = 52) ?_
          refine own_f_dadd X73.here hx (hb hby d_prog_8_2_52) (na1) rfl (rfl : _ = 53) ?_
          refine own_f_dstore X73.here hx (hb hby d_prog_8_2_53) (rfl : storeLocals _ _ _ = some #[.val (.ref a1), .val (.double dx), .second, .val (.double q1), .second, .val (.int (1 : Int32)), .val (.int (1 : Int32)), .val (.double hi0), .second, .val (.double (FP.dadd q1 hi0)), .second, .val (.double lo0), .second]) (rfl : _ = 55) ?_
          refine own_f_dload X73.here hx (hb hby d_prog_8_2_55) rfl (rfl : _ = 57) ?_
          refine own_f_dload X73.here hx (hb hby d_prog_8_2_57) rfl (rfl : _ = 59) ?_
          refine own_f_dloadN X73.here hx (hb hby d_prog_8_2_59) rfl (rfl : _ = 60) ?_
          refine own_f_dsub X73.here hx (hb hby d_prog_8_2_60) (nb1) rfl (rfl : _ = 61) ?_
          refine own_f_dsub X73.here hx (hb hby d_prog_8_2_61) (nc1) rfl (rfl : _ = 62) ?_
          refine own_f_dstore X73.here hx (hb hby d_prog_8_2_62) (rfl : storeLocals _ _ _ = some #[.val (.ref a1), .val (.double dx), .second, .val (.double q1), .second, .val (.int (1 : Int32)), .val (.int (1 : Int32)), .val (.double hi0), .second, .val (.double (FP.dadd q1 hi0)), .second, .val (.double (FP.dsub hi0 (FP.dsub (FP.dadd q1 hi0) q1))), .second]) (rfl : _ = 64) ?_
          exact ht_
        · have e1 : own_fst hi0 q1 = hi0 := if_neg hsw
          have e2 : own_snd hi0 q1 = q1 := if_neg hsw
          rw [e1, e2] at ht_ na1 nb1 nc1
          have hs_ : ¬ ((cmpValue (FP.dcmp (hi0 &&& 0x7fffffffffffffff) (q1 &&& 0x7fffffffffffffff)) .g) < (0 : Int32)) := hsw
          refine own_f_ifYes X73.here hx (hb hby d_prog_8_2_36) ((if0 _ _).trans (flt (hs_)).2.1) (by decide) (by decide : _ = 49) ?_
          refine own_f_dloadN X73.here hx (hb hby d_prog_8_2_49) rfl (rfl : _ = 50) ?_
          refine own_f_dload X73.here hx (hb hby d_prog_8_2_50) rfl (rfl : _ = 52) ?_
          refine own_f_dadd X73.here hx (hb hby d_prog_8_2_52) (na1) rfl (rfl : _ = 53) ?_
          refine own_f_dstore X73.here hx (hb hby d_prog_8_2_53) (rfl : storeLocals _ _ _ = some #[.val (.ref a1), .val (.double dx), .second, .val (.double hi0), .second, .val (.int (1 : Int32)), .val (.int (1 : Int32)), .val (.double q1), .second, .val (.double (FP.dadd hi0 q1)), .second, .val (.double lo0), .second]) (rfl : _ = 55) ?_
          refine own_f_dload X73.here hx (hb hby d_prog_8_2_55) rfl (rfl : _ = 57) ?_
          refine own_f_dload X73.here hx (hb hby d_prog_8_2_57) rfl (rfl : _ = 59) ?_
          refine own_f_dloadN X73.here hx (hb hby d_prog_8_2_59) rfl (rfl : _ = 60) ?_
          refine own_f_dsub X73.here hx (hb hby d_prog_8_2_60) (nb1) rfl (rfl : _ = 61) ?_
          refine own_f_dsub X73.here hx (hb hby d_prog_8_2_61) (nc1) rfl (rfl : _ = 62) ?_
          refine own_f_dstore X73.here hx (hb hby d_prog_8_2_62) (rfl : storeLocals _ _ _ = some #[.val (.ref a1), .val (.double dx), .second, .val (.double hi0), .second, .val (.int (1 : Int32)), .val (.int (1 : Int32)), .val (.double q1), .second, .val (.double (FP.dadd hi0 q1)), .second, .val (.double (FP.dsub q1 (FP.dsub (FP.dadd hi0 q1) hi0))), .second]) (rfl : _ = 64) ?_
          exact ht_
      obtain ⟨hi1, hhi1⟩ : ∃ z : UInt64, z = (FP.dadd (own_fst hi0 q1) (own_snd hi0 q1)) := ⟨_, rfl⟩
      rw [← hhi1] at k75
      obtain ⟨lo1, hlo1⟩ : ∃ z : UInt64, z = (own_lo (own_fst hi0 q1) (own_snd hi0 q1)) := ⟨_, rfl⟩
      rw [← hlo1] at k75
      replace hnn := own_nn' hhi1 hnn
      have k76 : ∀ t_, Steps p.tables e below (T73.setTop (mkF m 68 #[.val (.ref a1), .val (.double dx), .second, .val (.double (own_fst hi0 q1)), .second, .val (.int (1 : Int32)), .val (.int (1 : Int32)), .val (.double (own_snd hi0 q1)), .second, .val (.double hi1), .second, .val (.double lo1), .second] [(.int (cmpValue (FP.dcmp lo1 (0 : UInt64)) .l))])) t_ → Steps p.tables e below A t_ := by
        intro t_ ht_
        refine k75 t_ ?_
        refine own_f_dload X73.here hx (hb hby d_prog_8_2_64) rfl (rfl : _ = 66) ?_
        refine own_f_dconst0 X73.here hx (hb hby d_prog_8_2_66) (rfl : _ = (0 : UInt64)) (rfl : _ = 67) ?_
        refine own_f_dcmp X73.here hx (hb hby d_prog_8_2_67) rfl (rfl : _ = 68) ?_
        exact ht_
      by_cases hz1 : (cmpValue (FP.dcmp lo1 (0 : UInt64)) .l) = (0 : Int32)
      · obtain ⟨T77, X77, e77, st77⟩ := getF X73 hx hZ hown (host := "") (Or.inl (hw _ (List.mem_of_getElem? (i := 17) rfl))) Via.refl e73 Fs (g := (mkF m 11 #[.val (.ref a1), .val (.double dx), .second, .val (.double hi1), .second, .val (.int (1 : Int32)), .val (.int (2 : Int32)), .val (.double (own_snd hi0 q1)), .second, .val (.double hi1), .second, .val (.double lo1), .second] [(.ref a1), (.int (2 : Int32))])) rfl rfl (hb hby d_prog_8_2_11)
        obtain ⟨T78, X78, e78, st78⟩ := getF X77 hx hZ hown (host := "") (Or.inl (hw _ (List.mem_of_getElem? (i := 10) rfl))) Via.refl e77 Fp (g := (mkF m 95 #[.val (.ref a1), .val (.double dx), .second, .val (.double hi1), .second, .val (.int (1 : Int32)), .val (.int (2 : Int32)), .val (.double (own_snd hi0 q1)), .second, .val (.double hi1), .second, .val (.double lo1), .second] [(.ref a1), (.int (1 : Int32))])) rfl rfl (hb hby d_prog_8_2_95)
        obtain ⟨cl79, Ar79, -, Sz79, Ng79, -, -⟩ := id Va
        obtain ⟨T80, X80, e80, st80⟩ := getF X78 hx hZ hown (host := "") (Or.inl (hw _ (List.mem_of_getElem? (i := 10) rfl))) Via.refl e78 Fp (g := (mkF m 118 #[.val (.ref a1), .val (.double dx), .second, .val (.double hi1), .second, .val (.int (1 : Int32)), .val (.int (2 : Int32)), .val (.double (own_snd hi0 q1)), .second, .val (.double hi1), .second, .val (.double lo1), .second] [(.ref a1)])) rfl rfl (hb hby d_prog_8_2_118)
        obtain ⟨cl81, Ar81, q81, Sz81, Ng81, Hs81, Gs81⟩ := Va
        have hin81 : ¬ ((1 : Int32) < 0 ∨ cl81.slots.size ≤ ((1 : Int32)).toNatClampNeg) := inb_of Sz81 ⟨by decide, by decide⟩
        obtain ⟨T82, h82, X82, e82, W82, st82⟩ := stD X80 hx hZ e80 Ar81 (j := (1 : Int32)) hin81 (g := (mkF m 127 #[.val (.ref a1), .val (.double dx), .second, .val (.double hi1), .second, .val (.int (2 : Int32)), .val (.int (2 : Int32)), .val (.double (own_snd hi0 q1)), .second, .val (.double hi1), .second, .val (.double lo1), .second] [(.double hi1), (.int (1 : Int32)), (.ref ar)])) rfl rfl (hb hby d_prog_8_2_127)
        replace Ea := Ea.wr W82
        replace Fp := Fp.other W82 (Or.inl hne)
        replace Fs := Fs.other W82 (Or.inl hne)
        have Zs82 := Nat.le_trans Zs68 (Keep.of_wr W82).1
        replace KK := KK.wr W82 (Or.inl (by simp))
        have Va : Arv Z h82 ar kc .double (4 : Int32) [(.double lo0), (.double hi1), (.double q2), (.double q3)] (.double (0 : UInt64)) := Arv.set Ar81 q81 Sz81 Ng81 Hs81 Gs81 rfl W82 1 rfl (Nat.le_of_ble_eq_true rfl)
        have N82 := Fr.snoc X82 N68 g_ar
        obtain ⟨T83, h83, X83, e83, W83, st83⟩ := putF X82 hx hZ hown (host := "") (Or.inl (hw _ (List.mem_of_getElem? (i := 17) rfl))) Via.refl e82 Fs Ea (Or.inl (hw _ (List.mem_of_getElem? (i := 18) rfl))) (hw _ (List.mem_of_getElem? (i := 1) rfl)) (ty := .int) (by decide) rfl rfl (g := (mkF m 131 #[.val (.ref a1), .val (.double dx), .second, .val (.double hi1), .second, .val (.int (2 : Int32)), .val (.int (2 : Int32)), .val (.double (own_snd hi0 q1)), .second, .val (.double hi1), .second, .val (.double lo1), .second] [(.int (2 : Int32)), (.ref a1)])) rfl rfl (hb hby d_prog_8_2_131)
        replace Ea := Ea.wr W83
        replace Fp := Fp.other W83 (Or.inr (slot_ne (Or.inl (hw _ (List.mem_of_getElem? (i := 11) rfl))) (Or.inl (hw _ (List.mem_of_getElem? (i := 18) rfl))) (by decide) (t := (.array .double)) (t' := .int) (by decide) (by decide)))
        replace Va := Va.other W83 (Ne.symm hne)
        have Zs83 := Nat.le_trans Zs82 (Keep.of_wr W83).1
        replace KK := KK.wr W83 (Or.inl (by simp))
        replace Fs := Fs.same W83
        have N83 := Fr.snoc X83 N82 g_a1
        obtain ⟨fs, hr, hrun, hended, hW, hsame⟩ := X83.leave (v := none) (fun _ => rfl) hlk
        refine ⟨_, _, ?_, hrun, hended, _, _, rfl, ?_, ⟨_, rfl⟩, hW, hsame.mono (by decide) (by decide)⟩
        · refine hA0 _ ?_
          refine k76 _ ?_
          refine own_f_ifYes X73.here hx (hb hby d_prog_8_2_68) ((if0 _ _).trans (teq (hz1)).1) (by decide) (by decide : _ = 83) ?_
          refine own_f_dload X73.here hx (hb hby d_prog_8_2_83) rfl (rfl : _ = 85) ?_
          refine own_f_dstoreN X73.here hx (hb hby d_prog_8_2_85) (rfl : storeLocals _ _ _ = some #[.val (.ref a1), .val (.double dx), .second, .val (.double hi1), .second, .val (.int (1 : Int32)), .val (.int (1 : Int32)), .val (.double (own_snd hi0 q1)), .second, .val (.double hi1), .second, .val (.double lo1), .second]) (rfl : _ = 86) ?_
          refine own_f_iinc X73.here hx (hb hby d_prog_8_2_86) rfl (rfl : storeLocals _ _ _ = some #[.val (.ref a1), .val (.double dx), .second, .val (.double hi1), .second, .val (.int (1 : Int32)), .val (.int (2 : Int32)), .val (.double (own_snd hi0 q1)), .second, .val (.double hi1), .second, .val (.double lo1), .second]) (rfl : _ = 89) ?_
          refine own_f_goto X73.here hx (hb hby d_prog_8_2_89) (by decide) (by decide : _ = 8) ?_
          refine own_f_iload X73.here hx (hb hby d_prog_8_2_8) rfl (rfl : _ = 10) ?_
          refine own_f_aloadN X73.here hx (hb hby d_prog_8_2_10) rfl rfl (rfl : _ = 11) ?_
          refine st77 _ ?_
          show Steps p.tables e below (T77.setTop (mkF m 14 #[.val (.ref a1), .val (.double dx), .second, .val (.double hi1), .second, .val (.int (1 : Int32)), .val (.int (2 : Int32)), .val (.double (own_snd hi0 q1)), .second, .val (.double hi1), .second, .val (.double lo1), .second] [(.int (2 : Int32)), (.int (2 : Int32))])) _
          refine own_f_icmpYes X77.here hx (hb hby d_prog_8_2_14) (flt (by decide)).2.1 (by decide) (by decide : _ = 92) ?_
          refine own_f_iload X77.here hx (hb hby d_prog_8_2_92) rfl (rfl : _ = 94) ?_
          refine own_f_aloadN X77.here hx (hb hby d_prog_8_2_94) rfl rfl (rfl : _ = 95) ?_
          refine st78 _ ?_
          show Steps p.tables e below (T78.setTop (mkF m 98 #[.val (.ref a1), .val (.double dx), .second, .val (.double hi1), .second, .val (.int (1 : Int32)), .val (.int (2 : Int32)), .val (.double (own_snd hi0 q1)), .second, .val (.double hi1), .second, .val (.double lo1), .second] [(.ref ar), (.int (1 : Int32))])) _
          refine X78.arraylength hx (by rw [e78]; exact Ar79.1) (State.isArrayOf_alike hZ.alike Ar79.2.1) (g := (mkF m 98 #[.val (.ref a1), .val (.double dx), .second, .val (.double hi1), .second, .val (.int (1 : Int32)), .val (.int (2 : Int32)), .val (.double (own_snd hi0 q1)), .second, .val (.double hi1), .second, .val (.double lo1), .second] [(.ref ar), (.int (1 : Int32))])) rfl rfl (hb hby d_prog_8_2_98) _ ?_
          rw [len_of Sz79 Ng79]
          show Steps p.tables e below (T78.setTop (mkF m 99 #[.val (.ref a1), .val (.double dx), .second, .val (.double hi1), .second, .val (.int (1 : Int32)), .val (.int (2 : Int32)), .val (.double (own_snd hi0 q1)), .second, .val (.double hi1), .second, .val (.double lo1), .second] [(.int (4 : Int32)), (.int (1 : Int32))])) _
          refine own_f_icmpYes X78.here hx (hb hby d_prog_8_2_99) (feq (by decide)).2 (by decide) (by decide : _ = 117) ?_
          refine own_f_aloadN X78.here hx (hb hby d_prog_8_2_117) rfl rfl (rfl : _ = 118) ?_
          refine st80 _ ?_
          show Steps p.tables e below (T80.setTop (mkF m 121 #[.val (.ref a1), .val (.double dx), .second, .val (.double hi1), .second, .val (.int (1 : Int32)), .val (.int (2 : Int32)), .val (.double (own_snd hi0 q1)), .second, .val (.double hi1), .second, .val (.double lo1), .second] [(.ref ar)])) _
          refine own_f_iload X80.here hx (hb hby d_prog_8_2_121) rfl (rfl : _ = 123) ?_
          refine own_f_iinc X80.here hx (hb hby d_prog_8_2_123) rfl (rfl : storeLocals _ _ _ = some #[.val (.ref a1), .val (.double dx), .second, .val (.double hi1), .second, .val (.int (2 : Int32)), .val (.int (2 : Int32)), .val (.double (own_snd hi0 q1)), .second, .val (.double hi1), .second, .val (.double lo1), .second]) (rfl : _ = 126) ?_
          refine own_f_dloadN X80.here hx (hb hby d_prog_8_2_126) rfl (rfl : _ = 127) ?_
          refine st82 _ ?_
          show Steps p.tables e below (T82.setTop (mkF m 128 #[.val (.ref a1), .val (.double dx), .second, .val (.double hi1), .second, .val (.int (2 : Int32)), .val (.int (2 : Int32)), .val (.double (own_snd hi0 q1)), .second, .val (.double hi1), .second, .val (.double lo1), .second] [])) _
          refine own_f_aloadN X82.here hx (hb hby d_prog_8_2_128) rfl rfl (rfl : _ = 129) ?_
          refine own_f_iload X82.here hx (hb hby d_prog_8_2_129) rfl (rfl : _ = 131) ?_
          refine st83 _ ?_
          show Steps p.tables e below (T83.setTop (mkF m 134 #[.val (.ref a1), .val (.double dx), .second, .val (.double hi1), .second, .val (.int (2 : Int32)), .val (.int (2 : Int32)), .val (.double (own_snd hi0 q1)), .second, .val (.double hi1), .second, .val (.double lo1), .second] [])) _
          exact X83.returnOut hx Bd.returns (hb hby d_prog_8_2_134) hr
        · show Q2 Z a1 dx _ ar kc q0 q1 q2 q3 _ h0 n0 _ T83.heap _
          rw [e83]
          exact ⟨(2 : Int32), lo0, hi1, q2, q3, rfl, N83, KK, Fp, Fs, Va, own_res (M := [lo0, hi1]) (by rw [own_ins_c hlo0 hhi0 hz0, own_ins_d hlo1 hhi1 hz1]; rfl) (by show Int32.toInt 2 = ((2 : Nat) : Int); decide) rfl⟩
      · obtain ⟨T84, X84, e84, st84⟩ := getF X73 hx hZ hown (host := "") (Or.inl (hw _ (List.mem_of_getElem? (i := 10) rfl))) Via.refl e73 Fp (g := (mkF m 72 #[.val (.ref a1), .val (.double dx), .second, .val (.double (own_fst hi0 q1)), .second, .val (.int (1 : Int32)), .val (.int (1 : Int32)), .val (.double (own_snd hi0 q1)), .second, .val (.double hi1), .second, .val (.double lo1), .second] [(.ref a1)])) rfl rfl (hb hby d_prog_8_2_72)
        obtain ⟨cl85, Ar85, q85, Sz85, Ng85, Hs85, Gs85⟩ := Va
        have hin85 : ¬ ((1 : Int32) < 0 ∨ cl85.slots.size ≤ ((1 : Int32)).toNatClampNeg) := inb_of Sz85 ⟨by decide, by decide⟩
        obtain ⟨T86, h86, X86, e86, W86, st86⟩ := stD X84 hx hZ e84 Ar85 (j := (1 : Int32)) hin85 (g := (mkF m 82 #[.val (.ref a1), .val (.double dx), .second, .val (.double (own_fst hi0 q1)), .second, .val (.int (2 : Int32)), .val (.int (1 : Int32)), .val (.double (own_snd hi0 q1)), .second, .val (.double hi1), .second, .val (.double lo1), .second] [(.double lo1), (.int (1 : Int32)), (.ref ar)])) rfl rfl (hb hby d_prog_8_2_82)
        replace Ea := Ea.wr W86
        replace Fp := Fp.other W86 (Or.inl hne)
        replace Fs := Fs.other W86 (Or.inl hne)
        have Zs86 := Nat.le_trans Zs68 (Keep.of_wr W86).1
        replace KK := KK.wr W86 (Or.inl (by simp))
        have Va : Arv Z h86 ar kc .double (4 : Int32) [(.double lo0), (.double lo1), (.double q2), (.double q3)] (.double (0 : UInt64)) := Arv.set Ar85 q85 Sz85 Ng85 Hs85 Gs85 rfl W86 1 rfl (Nat.le_of_ble_eq_true rfl)
        have N86 := Fr.snoc X86 N68 g_ar
        obtain ⟨T87, X87, e87, st87⟩ := getF X86 hx hZ hown (host := "") (Or.inl (hw _ (List.mem_of_getElem? (i := 17) rfl))) Via.refl e86 Fs (g := (mkF m 11 #[.val (.ref a1), .val (.double dx), .second, .val (.double hi1), .second, .val (.int (2 : Int32)), .val (.int (2 : Int32)), .val (.double (own_snd hi0 q1)), .second, .val (.double hi1), .second, .val (.double lo1), .second] [(.ref a1), (.int (2 : Int32))])) rfl rfl (hb hby d_prog_8_2_11)
        obtain ⟨T88, X88, e88, st88⟩ := getF X87 hx hZ hown (host := "") (Or.inl (hw _ (List.mem_of_getElem? (i := 10) rfl))) Via.refl e87 Fp (g := (mkF m 95 #[.val (.ref a1), .val (.double dx), .second, .val (.double hi1), .second, .val (.int (2 : Int32)), .val (.int (2 : Int32)), .val (.double (own_snd hi0 q1)), .second, .val (.double hi1), .second, .val (.double lo1), .second] [(.ref a1), (.int (2 : Int32))])) rfl rfl (hb hby d_prog_8_2_95)
        obtain ⟨cl89, Ar89, -, Sz89, Ng89, -, -⟩ := id Va
        obtain ⟨T90, X90, e90, st90⟩ := getF X88 hx hZ hown (host := "") (Or.inl (hw _ (List.mem_of_getElem? (i := 10) rfl))) Via.refl e88 Fp (g := (mkF m 118 #[.val (.ref a1), .val (.double dx), .second, .val (.double hi1), .second, .val (.int (2 : Int32)), .val (.int (2 : Int32)), .val (.double (own_snd hi0 q1)), .second, .val (.double hi1), .second, .val (.double lo1), .second] [(.ref a1)])) rfl rfl (hb hby d_prog_8_2_118)
        obtain ⟨cl91, Ar91, q91, Sz91, Ng91, Hs91, Gs91⟩ := Va
        have hin91 : ¬ ((2 : Int32) < 0 ∨ cl91.slots.size ≤ ((2 : Int32)).toNatClampNeg) := inb_of Sz91 ⟨by decide, by decide⟩
        obtain ⟨T92, h92, X92, e92, W92, st92⟩ := stD X90 hx hZ e90 Ar91 (j := (2 : Int32)) hin91 (g := (mkF m 127 #[.val (.ref a1), .val (.double dx), .second, .val (.double hi1), .second, .val (.int (3 : Int32)), .val (.int (2 : Int32)), .val (.double (own_snd hi0 q1)), .second, .val (.double hi1), .second, .val (.double lo1), .second] [(.double hi1), (.int (2 : Int32)), (.ref ar)])) rfl rfl (hb hby d_prog_8_2_127)
        replace Ea := Ea.wr W92
        replace Fp := Fp.other W92 (Or.inl hne)
        replace Fs := Fs.other W92 (Or.inl hne)
        have Zs92 := Nat.le_trans Zs86 (Keep.of_wr W92).1
        replace KK := KK.wr W92 (Or.inl (by simp))
        have Va : Arv Z h92 ar kc .double (4 : Int32) [(.double lo0), (.double lo1), (.double hi1), (.double q3)] (.double (0 : UInt64)) := Arv.set Ar91 q91 Sz91 Ng91 Hs91 Gs91 rfl W92 2 rfl (Nat.le_of_ble_eq_true rfl)
        have N92 := Fr.snoc X92 N86 g_ar
        obtain ⟨T93, h93, X93, e93, W93, st93⟩ := putF X92 hx hZ hown (host := "") (Or.inl (hw _ (List.mem_of_getElem? (i := 17) rfl))) Via.refl e92 Fs Ea (Or.inl (hw _ (List.mem_of_getElem? (i := 18) rfl))) (hw _ (List.mem_of_getElem? (i := 1) rfl)) (ty := .int) (by decide) rfl rfl (g := (mkF m 131 #[.val (.ref a1), .val (.double dx), .second, .val (.double hi1), .second, .val (.int (3 : Int32)), .val (.int (2 : Int32)), .val (.double (own_snd hi0 q1)), .second, .val (.double hi1), .second, .val (.double lo1), .second] [(.int (3 : Int32)), (.ref a1)])) rfl rfl (hb hby d_prog_8_2_131)
        replace Ea := Ea.wr W93
        replace Fp := Fp.other W93 (Or.inr (slot_ne (Or.inl (hw _ (List.mem_of_getElem? (i := 11) rfl))) (Or.inl (hw _ (List.mem_of_getElem? (i := 18) rfl))) (by decide) (t := (.array .double)) (t' := .int) (by decide) (by decide)))
        replace Va := Va.other W93 (Ne.symm hne)
        have Zs93 := Nat.le_trans Zs92 (Keep.of_wr W93).1
        replace KK := KK.wr W93 (Or.inl (by simp))
        replace Fs := Fs.same W93
        have N93 := Fr.snoc X93 N92 g_a1
        obtain ⟨fs, hr, hrun, hended, hW, hsame⟩ := X93.leave (v := none) (fun _ => rfl) hlk
        refine ⟨_, _, ?_, hrun, hended, _, _, rfl, ?_, ⟨_, rfl⟩, hW, hsame.mono (by decide) (by decide)⟩
        · refine hA0 _ ?_
          refine k76 _ ?_
          refine own_f_ifNo X73.here hx (hb hby d_prog_8_2_68) ((if0 _ _).trans (feq (hz1)).1) (rfl : _ = 71) ?_
          refine own_f_aloadN X73.here hx (hb hby d_prog_8_2_71) rfl rfl (rfl : _ = 72) ?_
          refine st84 _ ?_
          show Steps p.tables e below (T84.setTop (mkF m 75 #[.val (.ref a1), .val (.double dx), .second, .val (.double (own_fst hi0 q1)), .second, .val (.int (1 : Int32)), .val (.int (1 : Int32)), .val (.double (own_snd hi0 q1)), .second, .val (.double hi1), .second, .val (.double lo1), .second] [(.ref ar)])) _
          refine own_f_iload X84.here hx (hb hby d_prog_8_2_75) rfl (rfl : _ = 77) ?_
          refine own_f_iinc X84.here hx (hb hby d_prog_8_2_77) rfl (rfl : storeLocals _ _ _ = some #[.val (.ref a1), .val (.double dx), .second, .val (.double (own_fst hi0 q1)), .second, .val (.int (2 : Int32)), .val (.int (1 : Int32)), .val (.double (own_snd hi0 q1)), .second, .val (.double hi1), .second, .val (.double lo1), .second]) (rfl : _ = 80) ?_
          refine own_f_dload X84.here hx (hb hby d_prog_8_2_80) rfl (rfl : _ = 82) ?_
          refine st86 _ ?_
          show Steps p.tables e below (T86.setTop (mkF m 83 #[.val (.ref a1), .val (.double dx), .second, .val (.double (own_fst hi0 q1)), .second, .val (.int (2 : Int32)), .val (.int (1 : Int32)), .val (.double (own_snd hi0 q1)), .second, .val (.double hi1), .second, .val (.double lo1), .second] [])) _
          refine own_f_dload X86.here hx (hb hby d_prog_8_2_83) rfl (rfl : _ = 85) ?_
          refine own_f_dstoreN X86.here hx (hb hby d_prog_8_2_85) (rfl : storeLocals _ _ _ = some #[.val (.ref a1), .val (.double dx), .second, .val (.double hi1), .second, .val (.int (2 : Int32)), .val (.int (1 : Int32)), .val (.double (own_snd hi0 q1)), .second, .val (.double hi1), .second, .val (.double lo1), .second]) (rfl : _ = 86) ?_
          refine own_f_iinc X86.here hx (hb hby d_prog_8_2_86) rfl (rfl : storeLocals _ _ _ = some #[.val (.ref a1), .val (.double dx), .second, .val (.double hi1), .second, .val (.int (2 : Int32)), .val (.int (2 : Int32)), .val (.double (own_snd hi0 q1)), .second, .val (.double hi1), .second, .val (.double lo1), .second]) (rfl : _ = 89) ?_
          refine own_f_goto X86.here hx (hb hby d_prog_8_2_89) (by decide) (by decide : _ = 8) ?_
          refine own_f_iload X86.here hx (hb hby d_prog_8_2_8) rfl (rfl : _ = 10) ?_
          refine own_f_aloadN X86.here hx (hb hby d_prog_8_2_10) rfl rfl (rfl : _ = 11) ?_
          refine st87 _ ?_
          show Steps p.tables e below (T87.setTop (mkF m 14 #[.val (.ref a1), .val (.double dx), .second, .val (.double hi1), .second, .val (.int (2 : Int32)), .val (.int (2 : Int32)), .val (.double (own_snd hi0 q1)), .second, .val (.double hi1), .second, .val (.double lo1), .second] [(.int (2 : Int32)), (.int (2 : Int32))])) _
          refine own_f_icmpYes X87.here hx (hb hby d_prog_8_2_14) (flt (by decide)).2.1 (by decide) (by decide : _ = 92) ?_
          refine own_f_iload X87.here hx (hb hby d_prog_8_2_92) rfl (rfl : _ = 94) ?_
          refine own_f_aloadN X87.here hx (hb hby d_prog_8_2_94) rfl rfl (rfl : _ = 95) ?_
          refine st88 _ ?_
          show Steps p.tables e below (T88.setTop (mkF m 98 #[.val (.ref a1), .val (.double dx), .second, .val (.double hi1), .second, .val (.int (2 : Int32)), .val (.int (2 : Int32)), .val (.double (own_snd hi0 q1)), .second, .val (.double hi1), .second, .val (.double lo1), .second] [(.ref ar), (.int (2 : Int32))])) _
          refine X88.arraylength hx (by rw [e88]; exact Ar89.1) (State.isArrayOf_alike hZ.alike Ar89.2.1) (g := (mkF m 98 #[.val (.ref a1), .val (.double dx), .second, .val (.double hi1), .second, .val (.int (2 : Int32)), .val (.int (2 : Int32)), .val (.double (own_snd hi0 q1)), .second, .val (.double hi1), .second, .val (.double lo1), .second] [(.ref ar), (.int (2 : Int32))])) rfl rfl (hb hby d_prog_8_2_98) _ ?_
          rw [len_of Sz89 Ng89]
          show Steps p.tables e below (T88.setTop (mkF m 99 #[.val (.ref a1), .val (.double dx), .second, .val (.double hi1), .second, .val (.int (2 : Int32)), .val (.int (2 : Int32)), .val (.double (own_snd hi0 q1)), .second, .val (.double hi1), .second, .val (.double lo1), .second] [(.int (4 : Int32)), (.int (2 : Int32))])) _
          refine own_f_icmpYes X88.here hx (hb hby d_prog_8_2_99) (feq (by decide)).2 (by decide) (by decide : _ = 117) ?_
          refine own_f_aloadN X88.here hx (hb hby d_prog_8_2_117) rfl rfl (rfl : _ = 118) ?_
          refine st90 _ ?_
          show Steps p.tables e below (T90.setTop (mkF m 121 #[.val (.ref a1), .val (.double dx), .second, .val (.double hi1), .second, .val (.int (2 : Int32)), .val (.int (2 : Int32)), .val (.double (own_snd hi0 q1)), .second, .val (.double hi1), .second, .val (.double lo1), .second] [(.ref ar)])) _
          refine own_f_iload X90.here hx (hb hby d_prog_8_2_121) rfl (rfl : _ = 123) ?_
          refine own_f_iinc X90.here hx (hb hby d_prog_8_2_123) rfl (rfl : storeLocals _ _ _ = some #[.val (.ref a1), .val (.double dx), .second, .val (.double hi1), .second, .val (.int (3 : Int32)), .val (.int (2 : Int32)), .val (.double (own_snd hi0 q1)), .second, .val (.double hi1), .second, .val (.double lo1), .second]) (rfl : _ = 126) ?_
          refine own_f_dloadN X90.here hx (hb hby d_prog_8_2_126) rfl (rfl : _ = 127) ?_
          refine st92 _ ?_
          show Steps p.tables e below (T92.setTop (mkF m 128 #[.val (.ref a1), .val (.double dx), .second, .val (.double hi1), .second, .val (.int (3 : Int32)), .val (.int (2 : Int32)), .val (.double (own_snd hi0 q1)), .second, .val (.double hi1), .second, .val (.double lo1), .second] [])) _
          refine own_f_aloadN X92.here hx (hb hby d_prog_8_2_128) rfl rfl (rfl : _ = 129) ?_
          refine own_f_iload X92.here hx (hb hby d_prog_8_2_129) rfl (rfl : _ = 131) ?_
          refine st93 _ ?_
          show Steps p.tables e below (T93.setTop (mkF m 134 #[.val (.ref a1), .val (.double dx), .second, .val (.double hi1), .second, .val (.int (3 : Int32)), .val (.int (2 : Int32)), .val (.double (own_snd hi0 q1)), .second, .val (.double hi1), .second, .val (.double lo1), .second] [])) _
          exact X93.returnOut hx Bd.returns (hb hby d_prog_8_2_134) hr
        · show Q2 Z a1 dx _ ar kc q0 q1 q2 q3 _ h0 n0 _ T93.heap _
          rw [e93]
          exact ⟨(3 : Int32), lo0, lo1, hi1, q3, rfl, N93, KK, Fp, Fs, Va, own_res (M := [lo0, lo1, hi1]) (by rw [own_ins_c hlo0 hhi0 hz0, own_ins_c hlo1 hhi1 hz1]; rfl) (by show Int32.toInt 3 = ((3 : Nat) : Int); decide) rfl⟩
  · obtain rfl : qs = [q0, q1, q2] := own_qs hq 3 (by decide)
    obtain ⟨T94, X94, e94, st94⟩ := getF X0 hx hZ hown (host := "") (Or.inl (hw _ (List.mem_of_getElem? (i := 17) rfl))) Via.refl e0 Fs (g := (mkF m 11 #[.val (.ref a1), .val (.double dx), .second, .val (.double dx), .second, .val (.int (0 : Int32)), .val (.int (0 : Int32)), .unset, .unset, .unset, .unset, .unset, .unset] [(.ref a1), (.int (0 : Int32))])) rfl rfl (hb hby d_prog_8_2_11)
    obtain ⟨T95, X95, e95, st95⟩ := getF X94 hx hZ hown (host := "") (Or.inl (hw _ (List.mem_of_getElem? (i := 10) rfl))) Via.refl e94 Fp (g := (mkF m 18 #[.val (.ref a1), .val (.double dx), .second, .val (.double dx), .second, .val (.int (0 : Int32)), .val (.int (0 : Int32)), .unset, .unset, .unset, .unset, .unset, .unset] [(.ref a1)])) rfl rfl (hb hby d_prog_8_2_18)
    obtain ⟨cl96, Ar96, -, Sz96, Ng96, Hs96, -⟩ := id Va
    have hin96 : ¬ ((0 : Int32) < 0 ∨ cl96.slots.size ≤ ((0 : Int32)).toNatClampNeg) := inb_of Sz96 ⟨by decide, by decide⟩
    have hat96 : cl96.slots[((0 : Int32)).toNatClampNeg]? = some (.double q0) := Hs96 _ (Nat.lt_of_not_le fun q => hin96 (Or.inr q))
    obtain ⟨⟨nx0, nq0⟩, na0, nb0, nc0, -⟩ := own_nn hnn
    obtain ⟨T97, X97, e97, st97⟩ := natS X95 hx hZ hown (hw _ (List.mem_of_getElem? (i := 38) rfl)) (hw _ (List.mem_of_getElem? (i := 39) rfl)) (hw _ (List.mem_of_getElem? (i := 40) rfl)) (hw _ (List.mem_of_getElem? (i := 41) rfl)) (by decide) e95 (W := 0) (val' := (.double (dx &&& 0x7fffffffffffffff))) (fun c => Jvm.Free.Fl.Abs.absD_pays dx c (by decide) (by decide)) (g := (mkF m 27 #[.val (.ref a1), .val (.double dx), .second, .val (.double dx), .second, .val (.int (0 : Int32)), .val (.int (0 : Int32)), .val (.double q0), .second, .unset, .unset, .unset, .unset] [(.double dx)])) rfl (by rw [hml]; rfl) (argsL := [(.double dx)]) (rest := []) (lenOf pd_0 rfl) rfl (by show 2 * 0 + _ ≤ _; exact Nat.le_of_eq rfl) (hb hby d_prog_8_2_27) (by decide) (by decide) ⟨rfl, nx0⟩ rfl
    obtain ⟨T98, X98, e98, st98⟩ := natS X97 hx hZ hown (hw _ (List.mem_of_getElem? (i := 38) rfl)) (hw _ (List.mem_of_getElem? (i := 39) rfl)) (hw _ (List.mem_of_getElem? (i := 40) rfl)) (hw _ (List.mem_of_getElem? (i := 41) rfl)) (by decide) e97 (W := 2) (val' := (.double (q0 &&& 0x7fffffffffffffff))) (fun c => Jvm.Free.Fl.Abs.absD_pays q0 c (by decide) (by decide)) (g := (mkF m 32 #[.val (.ref a1), .val (.double dx), .second, .val (.double dx), .second, .val (.int (0 : Int32)), .val (.int (0 : Int32)), .val (.double q0), .second, .unset, .unset, .unset, .unset] [(.double q0), (.double (dx &&& 0x7fffffffffffffff))])) rfl (by rw [hml]; rfl) (argsL := [(.double q0)]) (rest := [(.double (dx &&& 0x7fffffffffffffff))]) (lenOf pd_0 rfl) rfl (by show 2 * 0 + _ ≤ _; exact Nat.le_of_eq rfl) (hb hby d_prog_8_2_32) (by decide) (by decide) ⟨rfl, nq0⟩ rfl
    have k99 : ∀ t_, Steps p.tables e below (T98.setTop (mkF m 36 #[.val (.ref a1), .val (.double dx), .second, .val (.double dx), .second, .val (.int (0 : Int32)), .val (.int (0 : Int32)), .val (.double q0), .second, .unset, .unset, .unset, .unset] [(.int (cmpValue (FP.dcmp (dx &&& 0x7fffffffffffffff) (q0 &&& 0x7fffffffffffffff)) .g))])) t_ → Steps p.tables e below A t_ := by
      intro t_ ht_
      refine k0 t_ ?_
      refine own_f_dloadN X0.here hx (hb hby d_prog_8_2_0) rfl (rfl : _ = 1) ?_
      refine own_f_dstoreN X0.here hx (hb hby d_prog_8_2_1) (rfl : storeLocals _ _ _ = some #[.val (.ref a1), .val (.double dx), .second, .val (.double dx), .second, .unset, .unset, .unset, .unset, .unset, .unset, .unset, .unset]) (rfl : _ = 2) ?_
      refine own_f_iconst X0.here hx (hb hby d_prog_8_2_2) (rfl : _ = (0 : Int32)) (rfl : _ = 3) ?_
      refine own_f_istore X0.here hx (hb hby d_prog_8_2_3) (rfl : storeLocals _ _ _ = some #[.val (.ref a1), .val (.double dx), .second, .val (.double dx), .second, .val (.int (0 : Int32)), .unset, .unset, .unset, .unset, .unset, .unset, .unset]) (rfl : _ = 5) ?_
      refine own_f_iconst X0.here hx (hb hby d_prog_8_2_5) (rfl : _ = (0 : Int32)) (rfl : _ = 6) ?_
      refine own_f_istore X0.here hx (hb hby d_prog_8_2_6) (rfl : storeLocals _ _ _ = some #[.val (.ref a1), .val (.double dx), .second, .val (.double dx), .second, .val (.int (0 : Int32)), .val (.int (0 : Int32)), .unset, .unset, .unset, .unset, .unset, .unset]) (rfl : _ = 8) ?_
      refine own_f_iload X0.here hx (hb hby d_prog_8_2_8) rfl (rfl : _ = 10) ?_
      refine own_f_aloadN X0.here hx (hb hby d_prog_8_2_10) rfl rfl (rfl : _ = 11) ?_
      refine st94 _ ?_
      show Steps p.tables e below (T94.setTop (mkF m 14 #[.val (.ref a1), .val (.double dx), .second, .val (.double dx), .second, .val (.int (0 : Int32)), .val (.int (0 : Int32)), .unset, .unset, .unset, .unset, .unset, .unset] [(.int (3 : Int32)), (.int (0 : Int32))])) t_
      refine own_f_icmpNo X94.here hx (hb hby d_prog_8_2_14) (tlt (by decide)).2.1 (rfl : _ = 17) ?_
      refine own_f_aloadN X94.here hx (hb hby d_prog_8_2_17) rfl rfl (rfl : _ = 18) ?_
      refine st95 _ ?_
      show Steps p.tables e below (T95.setTop (mkF m 21 #[.val (.ref a1), .val (.double dx), .second, .val (.double dx), .second, .val (.int (0 : Int32)), .val (.int (0 : Int32)), .unset, .unset, .unset, .unset, .unset, .unset] [(.ref ar)])) t_
      refine own_f_iload X95.here hx (hb hby d_prog_8_2_21) rfl (rfl : _ = 23) ?_
      refine X95.daload hx (j := (0 : Int32)) (v := (.double q0)) (by rw [e95]; exact Ar96.1) (State.isArrayOf_alike hZ.alike Ar96.2.1) Ar96.2.2 hin96 hat96 (g := (mkF m 23 #[.val (.ref a1), .val (.double dx), .second, .val (.double dx), .second, .val (.int (0 : Int32)), .val (.int (0 : Int32)), .unset, .unset, .unset, .unset, .unset, .unset] [(.int (0 : Int32)), (.ref ar)])) rfl rfl (hb hby d_prog_8_2_23) _ ?_
      show Steps p.tables e below (T95.setTop (mkF m 24 #[.val (.ref a1), .val (.double dx), .second, .val (.double dx), .second, .val (.int (0 : Int32)), .val (.int (0 : Int32)), .unset, .unset, .unset, .unset, .unset, .unset] [(.double q0)])) t_
      refine own_f_dstore X95.here hx (hb hby d_prog_8_2_24) (rfl : storeLocals _ _ _ = some #[.val (.ref a1), .val (.double dx), .second, .val (.double dx), .second, .val (.int (0 : Int32)), .val (.int (0 : Int32)), .val (.double q0), .second, .unset, .unset, .unset, .unset]) (rfl : _ = 26) ?_
      refine own_f_dloadN X95.here hx (hb hby d_prog_8_2_26) rfl (rfl : _ = 27) ?_
      refine st97 _ ?_
      show Steps p.tables e below (T97.setTop (mkF m 30 #[.val (.ref a1), .val (.double dx), .second, .val (.double dx), .second, .val (.int (0 : Int32)), .val (.int (0 : Int32)), .val (.double q0), .second, .unset, .unset, .unset, .unset] [(.double (dx &&& 0x7fffffffffffffff))])) t_
      refine own_f_dload X97.here hx (hb hby d_prog_8_2_30) rfl (rfl : _ = 32) ?_
      refine st98 _ ?_
      show Steps p.tables e below (T98.setTop (mkF m 35 #[.val (.ref a1), .val (.double dx), .second, .val (.double dx), .second, .val (.int (0 : Int32)), .val (.int (0 : Int32)), .val (.double q0), .second, .unset, .unset, .unset, .unset] [(.double (q0 &&& 0x7fffffffffffffff)), (.double (dx &&& 0x7fffffffffffffff))])) t_
      refine own_f_dcmp X98.here hx (hb hby d_prog_8_2_35) rfl (rfl : _ = 36) ?_
      exact ht_
    have k100 : ∀ t_, Steps p.tables e below (T98.setTop (mkF m 64 #[.val (.ref a1), .val (.double dx), .second, .val (.double (own_fst dx q0)), .second, .val (.int (0 : Int32)), .val (.int (0 : Int32)), .val (.double (own_snd dx q0)), .second, .val (.double (FP.dadd (own_fst dx q0) (own_snd dx q0))), .second, .val (.double (own_lo (own_fst dx q0) (own_snd dx q0))), .second] [])) t_ → Steps p.tables e below A t_ := by
      intro t_ ht_
      refine k99 t_ ?_
      by_cases hsw : own_lt dx q0
      · have e1 : own_fst dx q0 = q0 := if_pos hsw
        have e2 : own_snd dx q0 = dx := if_pos hsw
        rw [e1, e2] at ht_ na0 nb0 nc0
        have hs_ : (cmpValue (FP.dcmp (dx &&& 0x7fffffffffffffff) (q0 &&& 0x7fffffffffffffff)) .g) < (0 : Int32) := hsw
        refine own_f_ifNo X98.here hx (hb hby d_prog_8_2_36) ((if0 _ _).trans (tlt (hs_)).2.1) (rfl : _ = 39) ?_
        refine own_f_dload X98.here hx (hb hby d_prog_8_2_39) rfl (rfl : _ = 41) ?_
        refine own_f_dstore X98.here hx (hb hby d_prog_8_2_41) (rfl : storeLocals _ _ _ = some #[.val (.ref a1), .val (.double dx), .second, .val (.double dx), .second, .val (.int (0 : Int32)), .val (.int (0 : Int32)), .val (.double q0), .second, .val (.double q0), .second, .unset, .unset]) (rfl : _ = 43) ?_
        refine own_f_dloadN X98.here hx (hb hby d_prog_8_2_43) rfl (rfl : _ = 44) ?_
        refine own_f_dstore X98.here hx (hb hby d_prog_8_2_44) (rfl : storeLocals _ _ _ = some #[.val (.ref a1), .val (.double dx), .second, .val (.double dx), .second, .val (.int (0 : Int32)), .val (.int (0 : Int32)), .val (.double dx), .second, .val (.double q0), .second, .unset, .unset]) (rfl : _ = 46) ?_
        refine own_f_dload X98.here hx (hb hby d_prog_8_2_46) rfl (rfl : _ = 48) ?_
        refine own_f_dstoreN X98.here hx (hb hby d_prog_8_2_48) (rfl : storeLocals _ _ _ = some #[.val (.ref a1), .val (.double dx), .second, .val (.double q0), .second, .val (.int (0 : Int32)), .val (.int (0 : Int32)), .val (.double dx), .second, .val (.double q0), .second, .unset, .unset]) (rfl : _ = 49) ?_
        refine own_f_dloadN X98.here hx (hb hby d_prog_8_2_49) rfl (rfl : _ = 50) ?_
        refine own_f_dload X98.here hx (hb hby d_prog_8_2_50) rfl (rfl : _ = 52) ?_
        refine own_f_dadd X98.here hx (hb hby d_prog_8_2_52) (na0) rfl (rfl : _ = 53) ?_
        refine own_f_dstore X98.here hx (hb hby d_prog_8_2_53) (rfl : storeLocals _ _ _ = some #[.val (.ref a1), .val (.double dx), .second, .val (.double q0), .second, .val (.int (0 : Int32)), .val (.int (0 : Int32)), .val (.double dx), .second, .val (.double (FP.dadd q0 dx)), .second, .unset, .unset]) (rfl : _ = 55) ?_
        refine own_f_dload X98.here hx (hb hby d_prog_8_2_55) rfl (rfl : _ = 57) ?_
        refine own_f_dload X98.here hx (hb hby d_prog_8_2_57) rfl (rfl : _ = 59) ?_
        refine own_f_dloadN X98.here hx (hb hby d_prog_8_2_59) rfl (rfl : _ = 60) ?_
        refine own_f_dsub X98.here hx (hb hby d_prog_8_2_60) (nb0) rfl (rfl : _ = 61) ?_
        refine own_f_dsub X98.here hx (hb hby d_prog_8_2_61) (nc0) rfl (rfl : _ = 62) ?_
        refine own_f_dstore X98.here hx (hb hby d_prog_8_2_62) (rfl : storeLocals _ _ _ = some #[.val (.ref a1), .val (.double dx), .second, .val (.double q0), .second, .val (.int (0 : Int32)), .val (.int (0 : Int32)), .val (.double dx), .second, .val (.double (FP.dadd q0 dx)), .second, .val (.double (FP.dsub dx (FP.dsub (FP.dadd q0 dx) q0))), .second]) (rfl : _ = 64) ?_
        exact ht_
      · have e1 : own_fst dx q0 = dx := if_neg hsw
        have e2 : own_snd dx q0 = q0 := if_neg hsw
        rw [e1, e2] at ht_ na0 nb0 nc0
        have hs_ : ¬ ((cmpValue (FP.dcmp (dx &&& 0x7fffffffffffffff) (q0 &&& 0x7fffffffffffffff)) .g) < (0 : Int32)) := hsw
        refine own_f_ifYes X98.here hx (hb hby d_prog_8_2_36) ((if0 _ _).trans (flt (hs_)).2.1) (by decide) (by decide : _ = 49) ?_
        refine own_f_dloadN X98.here hx (hb hby d_prog_8_2_49) rfl (rfl : _ = 50) ?_
        refine own_f_dload X98.here hx (hb hby d_prog_8_2_50) rfl (rfl : _ = 52) ?_
        refine own_f_dadd X98.here hx (hb hby d_prog_8_2_52) (na0) rfl (rfl : _ = 53) ?_
        refine own_f_dstore X98.here hx (hb hby d_prog_8_2_53) (rfl : storeLocals _ _ _ = some #[.val (.ref a1), .val (.double dx), .second, .val (.double dx), .second, .val (.int (0 : Int32)), .val (.int (0 : Int32)), .val (.double q0), .second, .val (.double (FP.dadd dx q0)), .second, .unset, .unset]) (rfl : _ = 55) ?_
        refine own_f_dload X98.here hx (hb hby d_prog_8_2_55) rfl (rfl : _ = 57) ?_
        refine own_f_dload X98.here hx (hb hby d_prog_8_2_57) rfl (rfl : _ = 59) ?_
        refine own_f_dloadN X98.here hx (hb hby d_prog_8_2_59) rfl (rfl : _ = 60) ?_
        refine own_f_dsub X98.here hx (hb hby d_prog_8_2_60) (nb0) rfl (rfl : _ = 61) ?_
        refine own_f_dsub X98.here hx (hb hby d_prog_8_2_61) (nc0) rfl (rfl : _ = 62) ?_
        refine own_f_dstore X98.here hx (hb hby d_prog_8_2_62) (rfl : storeLocals _ _ _ = some #[.val (.ref a1), .val (.double dx), .second, .val (.double dx), .second, .val (.int (0 : Int32)), .val (.int (0 : Int32)), .val (.double q0), .second, .val (.double (FP.dadd dx q0)), .second, .val (.double (FP.dsub q0 (FP.dsub (FP.dadd dx q0) dx))), .second]) (rfl : _ = 64) ?_
        exact ht_
    obtain ⟨hi0, hhi0⟩ : ∃ z : UInt64, z = (FP.dadd (own_fst dx q0) (own_snd dx q0)) := ⟨_, rfl⟩
    rw [← hhi0] at k100
    obtain ⟨lo0, hlo0⟩ : ∃ z : UInt64, z = (own_lo (own_fst dx q0) (own_snd dx q0)) := ⟨_, rfl⟩
    rw [← hlo0] at k100
    replace hnn := own_nn' hhi0 hnn
    have k101 : ∀ t_, Steps p.tables e below (T98.setTop (mkF m 68 #[.val (.ref a1), .val (.double dx), .second, .val (.double (own_fst dx q0)), .second, .val (.int (0 : Int32)), .val (.int (0 : Int32)), .val (.double (own_snd dx q0)), .second, .val (.double hi0), .second, .val (.double lo0), .second] [(.int (cmpValue (FP.dcmp lo0 (0 : UInt64)) .l))])) t_ → Steps p.tables e below A t_ := by
      intro t_ ht_
      refine k100 t_ ?_
      refine own_f_dload X98.here hx (hb hby d_prog_8_2_64) rfl (rfl : _ = 66) ?_
      refine own_f_dconst0 X98.here hx (hb hby d_prog_8_2_66) (rfl : _ = (0 : UInt64)) (rfl : _ = 67) ?_
      refine own_f_dcmp X98.here hx (hb hby d_prog_8_2_67) rfl (rfl : _ = 68) ?_
      exact ht_
    by_cases hz0 : (cmpValue (FP.dcmp lo0 (0 : UInt64)) .l) = (0 : Int32)
    · obtain ⟨T102, X102, e102, st102⟩ := getF X98 hx hZ hown (host := "") (Or.inl (hw _ (List.mem_of_getElem? (i := 17) rfl))) Via.refl e98 Fs (g := (mkF m 11 #[.val (.ref a1), .val (.double dx), .second, .val (.double hi0), .second, .val (.int (0 : Int32)), .val (.int (1 : Int32)), .val (.double (own_snd dx q0)), .second, .val (.double hi0), .second, .val (.double lo0), .second] [(.ref a1), (.int (1 : Int32))])) rfl rfl (hb hby d_prog_8_2_11)
      obtain ⟨T103, X103, e103, st103⟩ := getF X102 hx hZ hown (host := "") (Or.inl (hw _ (List.mem_of_getElem? (i := 10) rfl))) Via.refl e102 Fp (g := (mkF m 18 #[.val (.ref a1), .val (.double dx), .second, .val (.double hi0), .second, .val (.int (0 : Int32)), .val (.int (1 : Int32)), .val (.double (own_snd dx q0)), .second, .val (.double hi0), .second, .val (.double lo0), .second] [(.ref a1)])) rfl rfl (hb hby d_prog_8_2_18)
      obtain ⟨cl104, Ar104, -, Sz104, Ng104, Hs104, -⟩ := id Va
      have hin104 : ¬ ((1 : Int32) < 0 ∨ cl104.slots.size ≤ ((1 : Int32)).toNatClampNeg) := inb_of Sz104 ⟨by decide, by decide⟩
      have hat104 : cl104.slots[((1 : Int32)).toNatClampNeg]? = some (.double q1) := Hs104 _ (Nat.lt_of_not_le fun q => hin104 (Or.inr q))
      obtain ⟨⟨nx1, nq1⟩, na1, nb1, nc1, -⟩ := own_nn hnn
      obtain ⟨T105, X105, e105, st105⟩ := natS X103 hx hZ hown (hw _ (List.mem_of_getElem? (i := 38) rfl)) (hw _ (List.mem_of_getElem? (i := 39) rfl)) (hw _ (List.mem_of_getElem? (i := 40) rfl)) (hw _ (List.mem_of_getElem? (i := 41) rfl)) (by decide) e103 (W := 0) (val' := (.double (hi0 &&& 0x7fffffffffffffff))) (fun c => Jvm.Free.Fl.Abs.absD_pays hi0 c (by decide) (by decide)) (g := (mkF m 27 #[.val (.ref a1), .val (.double dx), .second, .val (.double hi0), .second, .val (.int (0 : Int32)), .val (.int (1 : Int32)), .val (.double q1), .second, .val (.double hi0), .second, .val (.double lo0), .second] [(.double hi0)])) rfl (by rw [hml]; rfl) (argsL := [(.double hi0)]) (rest := []) (lenOf pd_0 rfl) rfl (by show 2 * 0 + _ ≤ _; exact Nat.le_of_eq rfl) (hb hby d_prog_8_2_27) (by decide) (by decide) ⟨rfl, nx1⟩ rfl
      obtain ⟨T106, X106, e106, st106⟩ := natS X105 hx hZ hown (hw _ (List.mem_of_getElem? (i := 38) rfl)) (hw _ (List.mem_of_getElem? (i := 39) rfl)) (hw _ (List.mem_of_getElem? (i := 40) rfl)) (hw _ (List.mem_of_getElem? (i := 41) rfl)) (by decide) e105 (W := 2) (val' := (.double (q1 &&& 0x7fffffffffffffff))) (fun c => Jvm.Free.Fl.Abs.absD_pays q1 c (by decide) (by decide)) (g := (mkF m 32 #[.val (.ref a1), .val (.double dx), .second, .val (.double hi0), .second, .val (.int (0 : Int32)), .val (.int (1 : Int32)), .val (.double q1), .second, .val (.double hi0), .second, .val (.double lo0), .second] [(.double q1), (.double (hi0 &&& 0x7fffffffffffffff))])) rfl (by rw [hml]; rfl) (argsL := [(.double q1)]) (rest := [(.double (hi0 &&& 0x7fffffffffffffff))]) (lenOf pd_0 rfl) rfl (by show 2 * 0 + _ ≤ _; exact Nat.le_of_eq rfl) (hb hby d_prog_8_2_32) (by decide) (by decide) ⟨rfl, nq1⟩ rfl
      have k107 : ∀ t_, Steps p.tables e below (T106.setTop (mkF m 36 #[.val (.ref a1), .val (.double dx), .second, .val (.double hi0), .second, .val (.int (0 : Int32)), .val (.int (1 : Int32)), .val (.double q1), .second, .val (.double hi0), .second, .val (.double lo0), .second] [(.int (cmpValue (FP.dcmp (hi0 &&& 0x7fffffffffffffff) (q1 &&& 0x7fffffffffffffff)) .g))])) t_ → Steps p.tables e below A t_ := by
        intro t_ ht_
        refine k101 t_ ?_
        refine own_f_ifYes X98.here hx (hb hby d_prog_8_2_68) ((if0 _ _).trans (teq (hz0)).1) (by decide) (by decide : _ = 83) ?_
        refine own_f_dload X98.here hx (hb hby d_prog_8_2_83) rfl (rfl : _ = 85) ?_
        refine own_f_dstoreN X98.here hx (hb hby d_prog_8_2_85) (rfl : storeLocals _ _ _ = some #[.val (.ref a1), .val (.double dx), .second, .val (.double hi0), .second, .val (.int (0 : Int32)), .val (.int (0 : Int32)), .val (.double (own_snd dx q0)), .second, .val (.double hi0), .second, .val (.double lo0), .second]) (rfl : _ = 86) ?_
        refine own_f_iinc X98.here hx (hb hby d_prog_8_2_86) rfl (rfl : storeLocals _ _ _ = some #[.val (.ref a1), .val (.double dx), .second, .val (.double hi0), .second, .val (.int (0 : Int32)), .val (.int (1 : Int32)), .val (.double (own_snd dx q0)), .second, .val (.double hi0), .second, .val (.double lo0), .second]) (rfl : _ = 89) ?_
        refine own_f_goto X98.here hx (hb hby d_prog_8_2_89) (by decide) (by decide : _ = 8) ?_
        refine own_f_iload X98.here hx (hb hby d_prog_8_2_8) rfl (rfl : _ = 10) ?_
        refine own_f_aloadN X98.here hx (hb hby d_prog_8_2_10) rfl rfl (rfl : _ = 11) ?_
        refine st102 _ ?_
        show Steps p.tables e below (T102.setTop (mkF m 14 #[.val (.ref a1), .val (.double dx), .second, .val (.double hi0), .second, .val (.int (0 : Int32)), .val (.int (1 : Int32)), .val (.double (own_snd dx q0)), .second, .val (.double hi0), .second, .val (.double lo0), .second] [(.int (3 : Int32)), (.int (1 : Int32))])) t_
        refine own_f_icmpNo X102.here hx (hb hby d_prog_8_2_14) (tlt (by decide)).2.1 (rfl : _ = 17) ?_
        refine own_f_aloadN X102.here hx (hb hby d_prog_8_2_17) rfl rfl (rfl : _ = 18) ?_
        refine st103 _ ?_
        show Steps p.tables e below (T103.setTop (mkF m 21 #[.val (.ref a1), .val (.double dx), .second, .val (.double hi0), .second, .val (.int (0 : Int32)), .val (.int (1 : Int32)), .val (.double (own_snd dx q0)), .second, .val (.double hi0), .second, .val (.double lo0), .second] [(.ref ar)])) t_
        refine own_f_iload X103.here hx (hb hby d_prog_8_2_21) rfl (rfl : _ = 23) ?_
        refine X103.daload hx (j := (1 : Int32)) (v := (.double q1)) (by rw [e103]; exact Ar104.1) (State.isArrayOf_alike hZ.alike Ar104.2.1) Ar104.2.2 hin104 hat104 (g := (mkF m 23 #[.val (.ref a1), .val (.double dx), .second, .val (.double hi0), .second, .val (.int (0 : Int32)), .val (.int (1 : Int32)), .val (.double (own_snd dx q0)), .second, .val (.double hi0), .second, .val (.double lo0), .second] [(.int (1 : Int32)), (.ref ar)])) rfl rfl (hb hby d_prog_8_2_23) _ ?_
        show Steps p.tables e below (T103.setTop (mkF m 24 #[.val (.ref a1), .val (.double dx), .second, .val (.double hi0), .second, .val (.int (0 : Int32)), .val (.int (1 : Int32)), .val (.double (own_snd dx q0)), .second, .val (.double hi0), .second, .val (.double lo0), .second] [(.double q1)])) t_
        refine own_f_dstore X103.here hx (hb hby d_prog_8_2_24) (rfl : storeLocals _ _ _ = some #[.val (.ref a1), .val (.double dx), .second, .val (.double hi0), .second, .val (.int (0 : Int32)), .val (.int (1 : Int32)), .val (.double q1), .second, .val (.double hi0), .second, .val (.double lo0), .second]) (rfl : _ = 26) ?_
        refine own_f_dloadN X103.here hx (hb hby d_prog_8_2_26) rfl (rfl : _ = 27) ?_
        refine st105 _ ?_
        show Steps p.tables e below (T105.setTop (mkF m 30 #[.val (.ref a1), .val (.double dx), .second, .val (.double hi0), .second, .val (.int (0 : Int32)), .val (.int (1 : Int32)), .val (.double q1), .second, .val (.double hi0), .second, .val (.double lo0), .second] [(.double (hi0 &&& 0x7fffffffffffffff))])) t_
        refine own_f_dload X105.here hx (hb hby d_prog_8_2_30) rfl (rfl : _ = 32) ?_
        refine st106 _ ?_
        show Steps p.tables e below (T106.setTop (mkF m 35 #[.val (.ref a1), .val (.double dx), .second, .val (.double hi0), .second, .val (.int (0 : Int32)), .val (.int (1 : Int32)), .val (.double q1), .second, .val (.double hi0), .second, .val (.double lo0), .second] [(.double (q1 &&& 0x7fffffffffffffff)), (.double (hi0 &&& 0x7fffffffffffffff))])) t_
        refine own_f_dcmp X106.here hx (hb hby d_prog_8_2_35) rfl (rfl : _ = 36) ?_
        exact ht_
      have k108 : ∀ t_, Steps p.tables e below (T106.setTop (mkF m 64 #[.val (.ref a1), .val (.double dx), .second, .val (.double (own_fst hi0 q1)), .second, .val (.int (0 : Int32)), .val (.int (1 : Int32)), .val (.double (own_snd hi0 q1)), .second, .val (.double (FP.dadd (own_fst hi0 q1) (own_snd hi0 q1))), .second, .val (.double (own_lo (own_fst hi0 q1) (own_snd hi0 q1))), .second] [])) t_ → Steps p.tables e below A t_ := by
        intro t_ ht_
        refine k107 t_ ?_
        by_cases hsw : own_lt hi0 q1
        · have e1 : own_fst hi0 q1 = q1 := if_pos hsw
          have e2 : own_snd hi0 q1 = hi0 := if_pos hsw
          rw [e1, e2] at ht_ na1 nb1 nc1
          have hs_ : (cmpValue (FP.dcmp (hi0 &&& 0x7fffffffffffffff) (q1 &&& 0x7fffffffffffffff)) .g) < (0 : Int32) := hsw
          refine own_f_ifNo X106.here hx (hb hby d_prog_8_2_36) ((if0 _ _).trans (tlt (hs_)).2.1) (rfl : _ = 39) ?_
          refine own_f_dload X106.here hx (hb hby d_prog_8_2_39) rfl (rfl : _ = 41) ?_
          refine own_f_dstore X106.here hx (hb hby d_prog_8_2_41) (rfl : storeLocals _ _ _ = some #[.val (.ref a1), .val (.double dx), .second, .val (.double hi0), .second, .val (.int (0 : Int32)), .val (.int (1 : Int32)), .val (.double q1), .second, .val (.double q1), .second, .val (.double lo0), .second]) (rfl : _ = 43) ?_
          refine own_f_dloadN X106.here hx (hb hby d_prog_8_2_43) rfl (rfl : _ = 44) ?_
          refine own_f_dstore X106.here hx (hb hby d_prog_8_2_44) (rfl : storeLocals _ _ _ = some #[.val (.ref a1), .val (.double dx), .second, .val (.double hi0), .second, .val (.int (0 : Int32)), .val (.int (1 : Int32)), .val (.double hi0), .second, .val (.double q1), .second, .val (.double lo0), .second]) (rfl : _ = 46) ?_
          refine own_f_dload X106.here hx (hb hby d_prog_8_2_46) rfl (rfl : _ = 48) ?_
          refine own_f_dstoreN X106.here hx (hb hby d_prog_8_2_48) (rfl : storeLocals _ _ _ = some #[.val (.ref a1), .val (.double dx), .second, .val (.double q1), .second, .val (.int (0 : Int32)), .val (.int (1 : Int32)), .val (.double hi0), .second, .val (.double q1), .second, .val (.double lo0), .second]) (rfl : _ = 49) ?_
          refine own_f_dloadN X106.here hx (hb hby d_prog_8_2_49) rfl (rfl : _ = 50) ?_
          refine own_f_dload X106.here hx (hb hby d_prog_8_2_50) rfl (rfl : _ = 52) ?_
          refine own_f_dadd X106.here hx (hb hby d_prog_8_2_52) (na1) rfl (rfl : _ = 53) ?_
          refine own_f_dstore X106.here hx (hb hby d_prog_8_2_53) (rfl : storeLocals _ _ _ = some #[.val (.ref a1), .val (.double dx), .second, .val (.double q1), .second, .val (.int (0 : Int32)), .val (.int (1 : Int32)), .val (.double hi0), .second, .val (.double (FP.dadd q1 hi0)), .second, .val (.double lo0), .second]) (rfl : _ = 55) ?_
          refine own_f_dload X106.here hx (hb hby d_prog_8_2_55) rfl (rfl : _ = 57) ?_
          refine own_f_dload X106.here hx (hb hby d_prog_8_2_57) rfl (rfl : _ = 59) ?_
          refine own_f_dloadN X106.here hx (hb hby d_prog_8_2_59) rfl (rfl : _ = 60) ?_
          refine own_f_dsub X106.here hx (hb hby d_prog_8_2_60) (nb1) rfl (rfl : _ = 61) ?_
          refine own_f_dsub X106.here hx (hb hby d_prog_8_2_61) (nc1) rfl (rfl : _ = 62) ?_
          refine own_f_dstore X106.here hx (hb hby d_prog_8_2_62) (rfl : storeLocals _ _ _ = some #[.val (.ref a1), .val (.double dx), .second, .val (.double q1), .second, .val (.int (0 : Int32)), .val (.int (1 : Int32)), .val (.double hi0), .second, .val (.double (FP.dadd q1 hi0)), .second, .val (.double (FP.dsub hi0 (FP.dsub (FP.dadd q1 hi0) q1))), .second]) (rfl : _ = 64) ?_
          exact ht_
        · have e1 : own_fst hi0 q1 = hi0 := if_neg hsw
          have e2 : own_snd hi0 q1 = q1 := if_neg hsw
          rw [e1, e2] at ht_ na1 nb1 nc1
          have hs_ : ¬ ((cmpValue (FP.dcmp (hi0 &&& 0x7fffffffffffffff) (q1 &&& 0x7fffffffffffffff)) .g) < (0 : Int32)) := hsw
          refine own_f_ifYes X106.here hx (hb hby d_prog_8_2_36) ((if0 _ _).trans (flt (hs_)).2.1) (by decide) (by decide : _ = 49) ?_
          refine own_f_dloadN X106.here hx (hb hby d_prog_8_2_49) rfl (rfl : _ = 50) ?_
          refine own_f_dload X106.here hx (hb hby d_prog_8_2_50) rfl (rfl : _ = 52) ?_
          refine own_f_dadd X106.here hx (hb hby d_prog_8_2_52) (na1) rfl (rfl : _ = 53) ?_
          refine own_f_dstore X106.here hx (hb hby d_prog_8_2_53) (rfl : storeLocals _ _ _ = some #[.val (.ref a1), .val (.double dx), .second, .val (.double hi0), .second, .val (.int (0 : Int32)), .val (.int (1 : Int32)), .val (.double q1), .second, .val (.double (FP.dadd hi0 q1)), .second, .val (.double lo0), .second]) (rfl : _ = 55) ?_
          refine own_f_dload X106.here hx (hb hby d_prog_8_2_55) rfl (rfl : _ = 57) ?_
          refine own_f_dload X106.here hx (hb hby d_prog_8_2_57) rfl (rfl : _ = 59) ?_
          refine own_f_dloadN X106.here hx (hb hby d_prog_8_2_59) rfl (rfl : _ = 60) ?_
          refine own_f_dsub X106.here hx (hb hby d_prog_8_2_60) (nb1) rfl (rfl : _ = 61) ?_
          refine own_f_dsub X106.here hx (hb hby d_prog_8_2_61) (nc1) rfl (rfl : _ = 62) ?_
          refine own_f_dstore X106.here hx (hb hby d_prog_8_2_62) (rfl : storeLocals _ _ _ = some #[.val (.ref a1), .val (.double dx), .second, .val (.double hi0), .second, .val (.int (0 : Int32)), .val (.int (1 : Int32)), .val (.double q1), .second, .val (.double (FP.dadd hi0 q1)), .second, .val (.double (FP.dsub q1 (FP.dsub (FP.dadd hi0 q1) hi0))), .second]) (rfl : _ = 64) ?_
          exact ht_
      obtain ⟨hi1, hhi1⟩ : ∃ z : UInt64, z = (FP.dadd (own_fst hi0 q1) (own_snd hi0 q1)) := ⟨_, rfl⟩
      rw [← hhi1] at k108
      obtain ⟨lo1, hlo1⟩ : ∃ z : UInt64, z = (own_lo (own_fst hi0 q1) (own_snd hi0 q1)) := ⟨_, rfl⟩
      rw [← hlo1] at k108
      replace hnn := own_nn' hhi1 hnn
      have k109 : ∀ t_, Steps p.tables e below (T106.setTop (mkF m 68 #[.val (.ref a1), .val (.double dx), .second, .val (.double (own_fst hi0 q1)), .second, .val (.int (0 : Int32)), .val (.int (1 : Int32)), .val (.double (own_snd hi0 q1)), .second, .val (.double hi1), .second, .val (.double lo1), .second] [(.int (cmpValue (FP.dcmp lo1 (0 : UInt64)) .l))])) t_ → Steps p.tables e below A t_ := by
        intro t_ ht_
        refine k108 t_ ?_
        refine own_f_dload X106.here hx (hb hby d_prog_8_2_64) rfl (rfl : _ = 66) ?_
        refine own_f_dconst0 X106.here hx (hb hby d_prog_8_2_66) (rfl : _ = (0 : UInt64)) (rfl : _ = 67) ?_
        refine own_f_dcmp X106.here hx (hb hby d_prog_8_2_67) rfl (rfl : _ = 68) ?_
        exact ht_
      by_cases hz1 : (cmpValue (FP.dcmp lo1 (0 : UInt64)) .l) = (0 : Int32)
      · obtain ⟨T110, X110, e110, st110⟩ := getF X106 hx hZ hown (host := "") (Or.inl (hw _ (List.mem_of_getElem? (i := 17) rfl))) Via.refl e106 Fs (g := (mkF m 11 #[.val (.ref a1), .val (.double dx), .second, .val (.double hi1), .second, .val (.int (0 : Int32)), .val (.int (2 : Int32)), .val (.double (own_snd hi0 q1)), .second, .val (.double hi1), .second, .val (.double lo1), .second] [(.ref a1), (.int (2 : Int32))])) rfl rfl (hb hby d_prog_8_2_11)
        obtain ⟨T111, X111, e111, st111⟩ := getF X110 hx hZ hown (host := "") (Or.inl (hw _ (List.mem_of_getElem? (i := 10) rfl))) Via.refl e110 Fp (g := (mkF m 18 #[.val (.ref a1), .val (.double dx), .second, .val (.double hi1), .second, .val (.int (0 : Int32)), .val (.int (2 : Int32)), .val (.double (own_snd hi0 q1)), .second, .val (.double hi1), .second, .val (.double lo1), .second] [(.ref a1)])) rfl rfl (hb hby d_prog_8_2_18)
        obtain ⟨cl112, Ar112, -, Sz112, Ng112, Hs112, -⟩ := id Va
        have hin112 : ¬ ((2 : Int32) < 0 ∨ cl112.slots.size ≤ ((2 : Int32)).toNatClampNeg) := inb_of Sz112 ⟨by decide, by decide⟩
        have hat112 : cl112.slots[((2 : Int32)).toNatClampNeg]? = some (.double q2) := Hs112 _ (Nat.lt_of_not_le fun q => hin112 (Or.inr q))
        obtain ⟨⟨nx2, nq2⟩, na2, nb2, nc2, -⟩ := own_nn hnn
        obtain ⟨T113, X113, e113, st113⟩ := natS X111 hx hZ hown (hw _ (List.mem_of_getElem? (i := 38) rfl)) (hw _ (List.mem_of_getElem? (i := 39) rfl)) (hw _ (List.mem_of_getElem? (i := 40) rfl)) (hw _ (List.mem_of_getElem? (i := 41) rfl)) (by decide) e111 (W := 0) (val' := (.double (hi1 &&& 0x7fffffffffffffff))) (fun c => Jvm.Free.Fl.Abs.absD_pays hi1 c (by decide) (by decide)) (g := (mkF m 27 #[.val (.ref a1), .val (.double dx), .second, .val (.double hi1), .second, .val (.int (0 : Int32)), .val (.int (2 : Int32)), .val (.double q2), .second, .val (.double hi1), .second, .val (.double lo1), .second] [(.double hi1)])) rfl (by rw [hml]; rfl) (argsL := [(.double hi1)]) (rest := []) (lenOf pd_0 rfl) rfl (by show 2 * 0 + _ ≤ _; exact Nat.le_of_eq rfl) (hb hby d_prog_8_2_27) (by decide) (by decide) ⟨rfl, nx2⟩ rfl
        obtain ⟨T114, X114, e114, st114⟩ := natS X113 hx hZ hown (hw _ (List.mem_of_getElem? (i := 38) rfl)) (hw _ (List.mem_of_getElem? (i := 39) rfl)) (hw _ (List.mem_of_getElem? (i := 40) rfl)) (hw _ (List.mem_of_getElem? (i := 41) rfl)) (by decide) e113 (W := 2) (val' := (.double (q2 &&& 0x7fffffffffffffff))) (fun c => Jvm.Free.Fl.Abs.absD_pays q2 c (by decide) (by decide)) (g := (mkF m 32 #[.val (.ref a1), .val (.double dx), .second, .val (.double hi1), .second, .val (.int (0 : Int32)), .val (.int (2 : Int32)), .val (.double q2), .second, .val (.double hi1), .second, .val (.double lo1), .second] [(.double q2), (.double (hi1 &&& 0x7fffffffffffffff))])) rfl (by rw [hml]; rfl) (argsL := [(.double q2)]) (rest := [(.double (hi1 &&& 0x7fffffffffffffff))]) (lenOf pd_0 rfl) rfl (by show 2 * 0 + _ ≤ _; exact Nat.le_of_eq rfl) (hb hby d_prog_8_2_32) (by decide) (by decide) ⟨rfl, nq2⟩ rfl
        have k115 : ∀ t_, Steps p.tables e below (T114.setTop (mkF m 36 #[.val (.ref a1), .val (.double dx), .second, .val (.double hi1), .second, .val (.int (0 : Int32)), .val (.int (2 : Int32)), .val (.double q2), .second, .val (.double hi1), .second, .val (.double lo1), .second] [(.int (cmpValue (FP.dcmp (hi1 &&& 0x7fffffffffffffff) (q2 &&& 0x7fffffffffffffff)) .g))])) t_ → Steps p.tables e below A t_ := by
          intro t_ ht_
          refine k109 t_ ?_
          refine own_f_ifYes X106.here hx (hb hby d_prog_8_2_68) ((if0 _ _).trans (teq (hz1)).1) (by decide) (by decide : _ = 83) ?_
          refine own_f_dload X106.here hx (hb hby d_prog_8_2_83) rfl (rfl : _ = 85) ?_
          refine own_f_dstoreN X106.here hx (hb hby d_prog_8_2_85) (rfl : storeLocals _ _ _ = some #[.val (.ref a1), .val (.double dx), .second, .val (.double hi1), .second, .val (.int (0 : Int32)), .val (.int (1 : Int32)), .val (.double (own_snd hi0 q1)), .second, .val (.double hi1), .second, .val (.double lo1), .second]) (rfl : _ = 86) ?_
          refine own_f_iinc X106.here hx (hb hby d_prog_8_2_86) rfl (rfl : storeLocals _ _ _ = some #[.val (.ref a1), .val (.double dx), .second, .val (.double hi1), .second, .val (.int (0 : Int32)), .val (.int (2 : Int32)), .val (.double (own_snd hi0 q1)), .second, .val (.double hi1), .second, .val (.double lo1), .second]) (rfl : _ = 89) ?_
          refine own_f_goto X106.here hx (hb hby d_prog_8_2_89) (by decide) (by decide : _ = 8) ?_
          refine own_f_iload X106.here hx (hb hby d_prog_8_2_8) rfl (rfl : _ = 10) ?_
          refine own_f_aloadN X106.here hx (hb hby d_prog_8_2_10) rfl rfl (rfl : _ = 11) ?_
          refine st110 _ ?_
          show Steps p.tables e below (T110.setTop (mkF m 14 #[.val (.ref a1), .val (.double dx), .second, .val (.double hi1), .second, .val (.int (0 : Int32)), .val (.int (2 : Int32)), .val (.double (own_snd hi0 q1)), .second, .val (.double hi1), .second, .val (.double lo1), .second] [(.int (3 : Int32)), (.int (2 : Int32))])) t_
          refine own_f_icmpNo X110.here hx (hb hby d_prog_8_2_14) (tlt (by decide)).2.1 (rfl : _ = 17) ?_
          refine own_f_aloadN X110.here hx (hb hby d_prog_8_2_17) rfl rfl (rfl : _ = 18) ?_
          refine st111 _ ?_
          show Steps p.tables e below (T111.setTop (mkF m 21 #[.val (.ref a1), .val (.double dx), .second, .val (.double hi1), .second, .val (.int (0 : Int32)), .val (.int (2 : Int32)), .val (.double (own_snd hi0 q1)), .second, .val (.double hi1), .second, .val (.double lo1), .second] [(.ref ar)])) t_
          refine own_f_iload X111.here hx (hb hby d_prog_8_2_21) rfl (rfl : _ = 23) ?_
          refine X111.daload hx (j := (2 : Int32)) (v := (.double q2)) (by rw [e111]; exact Ar112.1) (State.isArrayOf_alike hZ.alike Ar112.2.1) Ar112.2.2 hin112 hat112 (g := (mkF m 23 #[.val (.ref a1), .val (.double dx), .second, .val (.double hi1), .second, .val (.int (0 : Int32)), .val (.int (2 : Int32)), .val (.double (own_snd hi0 q1)), .second, .val (.double hi1), .second, .val (.double lo1), .second] [(.int (2 : Int32)), (.ref ar)])) rfl rfl (hb hby d_prog_8_2_23) _ ?_
          show Steps p.tables e below (T111.setTop (mkF m 24 #[.val (.ref a1), .val (.double dx), .second, .val (.double hi1), .second, .val (.int (0 : Int32)), .val (.int (2 : Int32)), .val (.double (own_snd hi0 q1)), .second, .val (.double hi1), .second, .val (.double lo1), .second] [(.double q2)])) t_
          refine own_f_dstore X111.here hx (hb hby d_prog_8_2_24) (rfl : storeLocals _ _ _ = some #[.val (.ref a1), .val (.double dx), .second, .val (.double hi1), .second, .val (.int (0 : Int32)), .val (.int (2 : Int32)), .val (.double q2), .second, .val (.double hi1), .second, .val (.double lo1), .second]) (rfl : _ = 26) ?_
          refine own_f_dloadN X111.here hx (hb hby d_prog_8_2_26) rfl (rfl : _ = 27) ?_
          refine st113 _ ?_
          show Steps p.tables e below (T113.setTop (mkF m 30 #[.val (.ref a1), .val (.double dx), .second, .val (.double hi1), .second, .val (.int (0 : Int32)), .val (.int (2 : Int32)), .val (.double q2), .second, .val (.double hi1), .second, .val (.double lo1), .second] [(.double (hi1 &&& 0x7fffffffffffffff))])) t_
          refine own_f_dload X113.here hx (hb hby d_prog_8_2_30) rfl (rfl : _ = 32) ?_
          refine st114 _ ?_
          show Steps p.tables e below (T114.setTop (mkF m 35 #[.val (.ref a1), .val (.double dx), .second, .val (.double hi1), .second, .val (.int (0 : Int32)), .val (.int (2 : Int32)), .val (.double q2), .second, .val (.double hi1), .second, .val (.double lo1), .second] [(.double (q2 &&& 0x7fffffffffffffff)), (.double (hi1 &&& 0x7fffffffffffffff))])) t_
          refine own_f_dcmp X114.here hx (hb hby d_prog_8_2_35) rfl (rfl : _ = 36) ?_
          exact ht_
        have k116 : ∀ t_, Steps p.tables e below (T114.setTop (mkF m 64 #[.val (.ref a1), .val (.double dx), .second, .val (.double (own_fst hi1 q2)), .second, .val (.int (0 : Int32)), .val (.int (2 : Int32)), .val (.double (own_snd hi1 q2)), .second, .val (.double (FP.dadd (own_fst hi1 q2) (own_snd hi1 q2))), .second, .val (.double (own_lo (own_fst hi1 q2) (own_snd hi1 q2))), .second] [])) t_ → Steps p.tables e below A t_ := by
          intro t_ ht_
          refine k115 t_ ?_
          by_cases hsw : own_lt hi1 q2
          · have e1 : own_fst hi1 q2 = q2 := if_pos hsw
            have e2 : own_snd hi1 q2 = hi1 := if_pos hsw
            rw [e1, e2] at ht_ na2 nb2 nc2
            have hs_ : (cmpValue (FP.dcmp (hi1 &&& 0x7fffffffffffffff) (q2 &&& 0x7fffffffffffffff)) .g) < (0 : Int32) := hsw
            refine own_f_ifNo X114.here hx (hb hby d_prog_8_2_36) ((if0 _ _).trans (tlt (hs_)).2.1) (rfl : _ = 39) ?_
            refine own_f_dload X114.here hx (hb hby d_prog_8_2_39) rfl (rfl : _ = 41) ?_
            refine own_f_dstore X114.here hx (hb hby d_prog_8_2_41) (rfl : storeLocals _ _ _ = some #[.val (.ref a1), .val (.double dx), .second, .val (.double hi1), .second, .val (.int (0 : Int32)), .val (.int (2 : Int32)), .val (.double q2), .second, .val (.double q2), .second, .val (.double lo1), .second]) (rfl : _ = 43) ?_
            refine own_f_dloadN X114.here hx (hb hby d_prog_8_2_43) rfl (rfl : _ = 44) ?_
            refine own_f_dstore X114.here hx (hb hby d_prog_8_2_44) (rfl : storeLocals _ _ _ = some #[.val (.ref a1), .val (.double dx), .second, .val (.double hi1), .second, .val (.int (0 : Int32)), .val (.int (2 : Int32)), .val (.double hi1), .second, .val (.double q2), .second, .val (.double lo1), .second]) (rfl : _ = 46) ?_
            refine own_f_dload X114.here hx (hb hby d_prog_8_2_46) rfl (rfl : _ = 48) ?_
            refine own_f_dstoreN X114.here hx (hb hby d_prog_8_2_48) (rfl : storeLocals _ _ _ = some #[.val (.ref a1), .val (.double dx), .second, .val (.double q2), .second, .val (.int (0 : Int32)), .val (.int (2 : Int32)), .val (.double hi1), .second, .val (.double q2), .second, .val (.double lo1), .second]) (rfl : _ = 49) ?_
            refine own_f_dloadN X114.here hx (hb hby d_prog_8_2_49) rfl (rfl : _ = 50) ?_
            refine own_f_dload X114.here hx (hb hby d_prog_8_2_50) rfl (rfl : _ = 52) ?_
            refine own_f_dadd X114.here hx (hb hby d_prog_8_2_52) (na2) rfl (rfl : _ = 53) ?_
            refine own_f_dstore X114.here hx (hb hby d_prog_8_2_53) (rfl : storeLocals _ _ _ = some #[.val (.ref a1), .val (.double dx), .second, .val (.double q2), .second, .val (.int (0 : Int32)), .val (.int (2 : Int32)), .val (.double hi1), .second, .val (.double (FP.dadd q2 hi1)), .second, .val (.double lo1), .second]) (rfl : _ = 55) ?_
            refine own_f_dload X114.here hx (hb hby d_prog_8_2_55) rfl (rfl : _ = 57) ?_
            refine own_f_dload X114.here hx (hb hby d_prog_8_2_57) rfl (rfl : _ = 59) ?_
            refine own_f_dloadN X114.here hx (hb hby d_prog_8_2_59) rfl (rfl : _ = 60) ?_
            refine own_f_dsub X114.here hx (hb hby d_prog_8_2_60) (nb2) rfl (rfl : _ = 61) ?_
            refine own_f_dsub X114.here hx (hb hby d_prog_8_2_61) (nc2) rfl (rfl : _ = 62) ?_
            refine own_f_dstore X114.here hx (hb hby d_prog_8_2_62) (rfl : storeLocals _ _ _ = some #[.val (.ref a1), .val (.double dx), .second, .val (.double q2), .second, .val (.int (0 : Int32)), .val (.int (2 : Int32)), .val (.double hi1), .second, .val (.double (FP.dadd q2 hi1)), .second, .val (.double (FP.dsub hi1 (FP.dsub (FP.dadd q2 hi1) q2))), .second]) (rfl : _ = 64) ?_
            exact ht_
          · have e1 : own_fst hi1 q2 = hi1 := if_neg hsw
            have e2 : own_snd hi1 q2 = q2 := if_neg hsw
            rw [e1, e2] at ht_ na2 nb2 nc2
            have hs_ : ¬ ((cmpValue (FP.dcmp (hi1 &&& 0x7fffffffffffffff) (q2 &&& 0x7fffffffffffffff)) .g) < (0 : Int32)) := hsw
            refine own_f_ifYes X114.here hx (hb hby d_prog_8_2_36) ((if0 _ _).trans (flt (hs_)).2.1) (by decide) (by decide : _ = 49) ?_
            refine own_f_dloadN X114.here hx (hb hby d_prog_8_2_49) rfl (rfl : _ = 50) ?_
            refine own_f_dload X114.here hx (hb hby d_prog_8_2_50) rfl (rfl : _ = 52) ?_
            refine own_f_dadd X114.here hx (hb hby d_prog_8_2_52) (na2) rfl (rfl : _ = 53) ?_
            refine own_f_dstore X114.here hx (hb hby d_prog_8_2_53) (rfl : storeLocals _ _ _ = some #[.val (.ref a1), .val (.double dx), .second, .val (.double hi1), .second, .val (.int (0 : Int32)), .val (.int (2 : Int32)), .val (.double q2), .second, .val (.double (FP.dadd hi1 q2)), .second, .val (.double lo1), .second]) (rfl : _ = 55) ?_
            refine own_f_dload X114.here hx (hb hby d_prog_8_2_55) rfl (rfl : _ = 57) ?_
            refine own_f_dload X114.here hx (hb hby d_prog_8_2_57) rfl (rfl : _ = 59) ?_
            refine own_f_dloadN X114.here hx (hb hby d_prog_8_2_59) rfl (rfl : _ = 60) ?_
            refine own_f_dsub X114.here hx (hb hby d_prog_8_2_60) (nb2) rfl (rfl : _ = 61) ?_
            refine own_f_dsub X114.here hx (hb hby d_prog_8_2_61) (nc2) rfl (rfl : _ = 62) ?_
            refine own_f_dstore X114.here hx (hb hby d_prog_8_2_62) (rfl : storeLocals _ _ _ = some #[.val (.ref a1), .val (.double dx), .second, .val (.double hi1), .second, .val (.int (0 : Int32)), .val (.int (2 : Int32)), .val (.double q2), .second, .val (.double (FP.dadd hi1 q2)), .second, .val (.double (FP.dsub q2 (FP.dsub (FP.dadd hi1 q2) hi1))), .second]) (rfl : _ = 64) ?_
            exact ht_
        obtain ⟨hi2, hhi2⟩ : ∃ z : UInt64, z = (FP.dadd (own_fst hi1 q2) (own_snd hi1 q2)) := ⟨_, rfl⟩
        rw [← hhi2] at k116
        obtain ⟨lo2, hlo2⟩ : ∃ z : UInt64, z = (own_lo (own_fst hi1 q2) (own_snd hi1 q2)) := ⟨_, rfl⟩
        rw [← hlo2] at k116
        replace hnn := own_nn' hhi2 hnn
        have k117 : ∀ t_, Steps p.tables e below (T114.setTop (mkF m 68 #[.val (.ref a1), .val (.double dx), .second, .val (.double (own_fst hi1 q2)), .second, .val (.int (0 : Int32)), .val (.int (2 : Int32)), .val (.double (own_snd hi1 q2)), .second, .val (.double hi2), .second, .val (.double lo2), .second] [(.int (cmpValue (FP.dcmp lo2 (0 : UInt64)) .l))])) t_ → Steps p.tables e below A t_ := by
          intro t_ ht_
          refine k116 t_ ?_
          refine own_f_dload X114.here hx (hb hby d_prog_8_2_64) rfl (rfl : _ = 66) ?_
          refine own_f_dconst0 X114.here hx (hb hby d_prog_8_2_66) (rfl : _ = (0 : UInt64)) (rfl : _ = 67) ?_
          refine own_f_dcmp X114.here hx (hb hby d_prog_8_2_67) rfl (rfl : _ = 68) ?_
          exact ht_
        by_cases hz2 : (cmpValue (FP.dcmp lo2 (0 : UInt64)) .l) = (0 : Int32)
        · obtain ⟨T118, X118, e118, st118⟩ := getF X114 hx hZ hown (host := "") (Or.inl (hw _ (List.mem_of_getElem? (i := 17) rfl))) Via.refl e114 Fs (g := (mkF m 11 #[.val (.ref a1), .val (.double dx), .second, .val (.double hi2), .second, .val (.int (0 : Int32)), .val (.int (3 : Int32)), .val (.double (own_snd hi1 q2)), .second, .val (.double hi2), .second, .val (.double lo2), .second] [(.ref a1), (.int (3 : Int32))])) rfl rfl (hb hby d_prog_8_2_11)
          obtain ⟨T119, X119, e119, st119⟩ := getF X118 hx hZ hown (host := "") (Or.inl (hw _ (List.mem_of_getElem? (i := 10) rfl))) Via.refl e118 Fp (g := (mkF m 95 #[.val (.ref a1), .val (.double dx), .second, .val (.double hi2), .second, .val (.int (0 : Int32)), .val (.int (3 : Int32)), .val (.double (own_snd hi1 q2)), .second, .val (.double hi2), .second, .val (.double lo2), .second] [(.ref a1), (.int (0 : Int32))])) rfl rfl (hb hby d_prog_8_2_95)
          obtain ⟨cl120, Ar120, -, Sz120, Ng120, -, -⟩ := id Va
          obtain ⟨T121, X121, e121, st121⟩ := getF X119 hx hZ hown (host := "") (Or.inl (hw _ (List.mem_of_getElem? (i := 10) rfl))) Via.refl e119 Fp (g := (mkF m 118 #[.val (.ref a1), .val (.double dx), .second, .val (.double hi2), .second, .val (.int (0 : Int32)), .val (.int (3 : Int32)), .val (.double (own_snd hi1 q2)), .second, .val (.double hi2), .second, .val (.double lo2), .second] [(.ref a1)])) rfl rfl (hb hby d_prog_8_2_118)
          obtain ⟨cl122, Ar122, q122, Sz122, Ng122, Hs122, Gs122⟩ := Va
          have hin122 : ¬ ((0 : Int32) < 0 ∨ cl122.slots.size ≤ ((0 : Int32)).toNatClampNeg) := inb_of Sz122 ⟨by decide, by decide⟩
          obtain ⟨T123, h123, X123, e123, W123, st123⟩ := stD X121 hx hZ e121 Ar122 (j := (0 : Int32)) hin122 (g := (mkF m 127 #[.val (.ref a1), .val (.double dx), .second, .val (.double hi2), .second, .val (.int (1 : Int32)), .val (.int (3 : Int32)), .val (.double (own_snd hi1 q2)), .second, .val (.double hi2), .second, .val (.double lo2), .second] [(.double hi2), (.int (0 : Int32)), (.ref ar)])) rfl rfl (hb hby d_prog_8_2_127)
          replace Ea := Ea.wr W123
          replace Fp := Fp.other W123 (Or.inl hne)
          replace Fs := Fs.other W123 (Or.inl hne)
          have Zs123 := Nat.le_trans Z0 (Keep.of_wr W123).1
          replace KK := KK.wr W123 (Or.inl (by simp))
          have Va : Arv Z h123 ar kc .double (4 : Int32) [(.double hi2), (.double q1), (.double q2), (.double q3)] (.double (0 : UInt64)) := Arv.set Ar122 q122 Sz122 Ng122 Hs122 Gs122 rfl W123 0 rfl (Nat.le_of_ble_eq_true rfl)
          have N123 := Fr.snoc X123 N0 g_ar
          obtain ⟨T124, h124, X124, e124, W124, st124⟩ := putF X123 hx hZ hown (host := "") (Or.inl (hw _ (List.mem_of_getElem? (i := 17) rfl))) Via.refl e123 Fs Ea (Or.inl (hw _ (List.mem_of_getElem? (i := 18) rfl))) (hw _ (List.mem_of_getElem? (i := 1) rfl)) (ty := .int) (by decide) rfl rfl (g := (mkF m 131 #[.val (.ref a1), .val (.double dx), .second, .val (.double hi2), .second, .val (.int (1 : Int32)), .val (.int (3 : Int32)), .val (.double (own_snd hi1 q2)), .second, .val (.double hi2), .second, .val (.double lo2), .second] [(.int (1 : Int32)), (.ref a1)])) rfl rfl (hb hby d_prog_8_2_131)
          replace Ea := Ea.wr W124
          replace Fp := Fp.other W124 (Or.inr (slot_ne (Or.inl (hw _ (List.mem_of_getElem? (i := 11) rfl))) (Or.inl (hw _ (List.mem_of_getElem? (i := 18) rfl))) (by decide) (t := (.array .double)) (t' := .int) (by decide) (by decide)))
          replace Va := Va.other W124 (Ne.symm hne)
          have Zs124 := Nat.le_trans Zs123 (Keep.of_wr W124).1
          replace KK := KK.wr W124 (Or.inl (by simp))
          replace Fs := Fs.same W124
          have N124 := Fr.snoc X124 N123 g_a1
          obtain ⟨fs, hr, hrun, hended, hW, hsame⟩ := X124.leave (v := none) (fun _ => rfl) hlk
          refine ⟨_, _, ?_, hrun, hended, _, _, rfl, ?_, ⟨_, rfl⟩, hW, hsame.mono (by decide) (by decide)⟩
          · refine hA0 _ ?_
            refine k117 _ ?_
            refine own_f_ifYes X114.here hx (hb hby d_prog_8_2_68) ((if0 _ _).trans (teq (hz2)).1) (by decide) (by decide : _ = 83) ?_
            refine own_f_dload X114.here hx (hb hby d_prog_8_2_83) rfl (rfl : _ = 85) ?_
            refine own_f_dstoreN X114.here hx (hb hby d_prog_8_2_85) (rfl : storeLocals _ _ _ = some #[.val (.ref a1), .val (.double dx), .second, .val (.double hi2), .second, .val (.int (0 : Int32)), .val (.int (2 : Int32)), .val (.double (own_snd hi1 q2)), .second, .val (.double hi2), .second, .val (.double lo2), .second]) (rfl : _ = 86) ?_
            refine own_f_iinc X114.here hx (hb hby d_prog_8_2_86) rfl (rfl : storeLocals _ _ _ = some #[.val (.ref a1), .val (.double dx), .second, .val (.double hi2), .second, .val (.int (0 : Int32)), .val (.int (3 : Int32)), .val (.double (own_snd hi1 q2)), .second, .val (.double hi2), .second, .val (.double lo2), .second]) (rfl : _ = 89) ?_
            refine own_f_goto X114.here hx (hb hby d_prog_8_2_89) (by decide) (by decide : _ = 8) ?_
            refine own_f_iload X114.here hx (hb hby d_prog_8_2_8) rfl (rfl : _ = 10) ?_
            refine own_f_aloadN X114.here hx (hb hby d_prog_8_2_10) rfl rfl (rfl : _ = 11) ?_
            refine st118 _ ?_
            show Steps p.tables e below (T118.setTop (mkF m 14 #[.val (.ref a1), .val (.double dx), .second, .val (.double hi2), .second, .val (.int (0 : Int32)), .val (.int (3 : Int32)), .val (.double (own_snd hi1 q2)), .second, .val (.double hi2), .second, .val (.double lo2), .second] [(.int (3 : Int32)), (.int (3 : Int32))])) _
            refine own_f_icmpYes X118.here hx (hb hby d_prog_8_2_14) (flt (by decide)).2.1 (by decide) (by decide : _ = 92) ?_
            refine own_f_iload X118.here hx (hb hby d_prog_8_2_92) rfl (rfl : _ = 94) ?_
            refine own_f_aloadN X118.here hx (hb hby d_prog_8_2_94) rfl rfl (rfl : _ = 95) ?_
            refine st119 _ ?_
            show Steps p.tables e below (T119.setTop (mkF m 98 #[.val (.ref a1), .val (.double dx), .second, .val (.double hi2), .second, .val (.int (0 : Int32)), .val (.int (3 : Int32)), .val (.double (own_snd hi1 q2)), .second, .val (.double hi2), .second, .val (.double lo2), .second] [(.ref ar), (.int (0 : Int32))])) _
            refine X119.arraylength hx (by rw [e119]; exact Ar120.1) (State.isArrayOf_alike hZ.alike Ar120.2.1) (g := (mkF m 98 #[.val (.ref a1), .val (.double dx), .second, .val (.double hi2), .second, .val (.int (0 : Int32)), .val (.int (3 : Int32)), .val (.double (own_snd hi1 q2)), .second, .val (.double hi2), .second, .val (.double lo2), .second] [(.ref ar), (.int (0 : Int32))])) rfl rfl (hb hby d_prog_8_2_98) _ ?_
            rw [len_of Sz120 Ng120]
            show Steps p.tables e below (T119.setTop (mkF m 99 #[.val (.ref a1), .val (.double dx), .second, .val (.double hi2), .second, .val (.int (0 : Int32)), .val (.int (3 : Int32)), .val (.double (own_snd hi1 q2)), .second, .val (.double hi2), .second, .val (.double lo2), .second] [(.int (4 : Int32)), (.int (0 : Int32))])) _
            refine own_f_icmpYes X119.here hx (hb hby d_prog_8_2_99) (feq (by decide)).2 (by decide) (by decide : _ = 117) ?_
            refine own_f_aloadN X119.here hx (hb hby d_prog_8_2_117) rfl rfl (rfl : _ = 118) ?_
            refine st121 _ ?_
            show Steps p.tables e below (T121.setTop (mkF m 121 #[.val (.ref a1), .val (.double dx), .second, .val (.double hi2), .second, .val (.int (0 : Int32)), .val (.int (3 : Int32)), .val (.double (own_snd hi1 q2)), .second, .val (.double hi2), .second, .val (.double lo2), .second] [(.ref ar)])) _
            refine own_f_iload X121.here hx (hb hby d_prog_8_2_121) rfl (rfl : _ = 123) ?_
            refine own_f_iinc X121.here hx (hb hby d_prog_8_2_123) rfl (rfl : storeLocals _ _ _ = some #[.val (.ref a1), .val (.double dx), .second, .val (.double hi2), .second, .val (.int (1 : Int32)), .val (.int (3 : Int32)), .val (.double (own_snd hi1 q2)), .second, .val (.double hi2), .second, .val (.double lo2), .second]) (rfl : _ = 126) ?_
            refine own_f_dloadN X121.here hx (hb hby d_prog_8_2_126) rfl (rfl : _ = 127) ?_
            refine st123 _ ?_
            show Steps p.tables e below (T123.setTop (mkF m 128 #[.val (.ref a1), .val (.double dx), .second, .val (.double hi2), .second, .val (.int (1 : Int32)), .val (.int (3 : Int32)), .val (.double (own_snd hi1 q2)), .second, .val (.double hi2), .second, .val (.double lo2), .second] [])) _
            refine own_f_aloadN X123.here hx (hb hby d_prog_8_2_128) rfl rfl (rfl : _ = 129) ?_
            refine own_f_iload X123.here hx (hb hby d_prog_8_2_129) rfl (rfl : _ = 131) ?_
            refine st124 _ ?_
            show Steps p.tables e below (T124.setTop (mkF m 134 #[.val (.ref a1), .val (.double dx), .second, .val (.double hi2), .second, .val (.int (1 : Int32)), .val (.int (3 : Int32)), .val (.double (own_snd hi1 q2)), .second, .val (.double hi2), .second, .val (.double lo2), .second] [])) _
            exact X124.returnOut hx Bd.returns (hb hby d_prog_8_2_134) hr
          · show Q2 Z a1 dx _ ar kc q0 q1 q2 q3 _ h0 n0 _ T124.heap _
            rw [e124]
            exact ⟨(1 : Int32), hi2, q1, q2, q3, rfl, N124, KK, Fp, Fs, Va, own_res (M := [hi2]) (by rw [own_ins_d hlo0 hhi0 hz0, own_ins_d hlo1 hhi1 hz1, own_ins_d hlo2 hhi2 hz2]; rfl) (by show Int32.toInt 1 = ((1 : Nat) : Int); decide) rfl⟩
        · obtain ⟨T125, X125, e125, st125⟩ := getF X114 hx hZ hown (host := "") (Or.inl (hw _ (List.mem_of_getElem? (i := 10) rfl))) Via.refl e114 Fp (g := (mkF m 72 #[.val (.ref a1), .val (.double dx), .second, .val (.double (own_fst hi1 q2)), .second, .val (.int (0 : Int32)), .val (.int (2 : Int32)), .val (.double (own_snd hi1 q2)), .second, .val (.double hi2), .second, .val (.double lo2), .second] [(.ref a1)])) rfl rfl (hb hby d_prog_8_2_72)
          obtain ⟨cl126, Ar126, q126, Sz126, Ng126, Hs126, Gs126⟩ := Va
          have hin126 : ¬ ((0 : Int32) < 0 ∨ cl126.slots.size ≤ ((0 : Int32)).toNatClampNeg) := inb_of Sz126 ⟨by decide, by decide⟩
          obtain ⟨T127, h127, X127, e127, W127, st127⟩ := stD X125 hx hZ e125 Ar126 (j := (0 : Int32)) hin126 (g := (mkF m 82 #[.val (.ref a1), .val (.double dx), .second, .val (.double (own_fst hi1 q2)), .second, .val (.int (1 : Int32)), .val (.int (2 : Int32)), .val (.double (own_snd hi1 q2)), .second, .val (.double hi2), .second, .val (.double lo2), .second] [(.double lo2), (.int (0 : Int32)), (.ref ar)])) rfl rfl (hb hby d_prog_8_2_82)
          replace Ea := Ea.wr W127
          replace Fp := Fp.other W127 (Or.inl hne)
          replace Fs := Fs.other W127 (Or.inl hne)
          have Zs127 := Nat.le_trans Z0 (Keep.of_wr W127).1
          replace KK := KK.wr W127 (Or.inl (by simp))
          have Va : Arv Z h127 ar kc .double (4 : Int32) [(.double lo2), (.double q1), (.double q2), (.double q3)] (.double (0 : UInt64)) := Arv.set Ar126 q126 Sz126 Ng126 Hs126 Gs126 rfl W127 0 rfl (Nat.le_of_ble_eq_true rfl)
          have N127 := Fr.snoc X127 N0 g_ar
          obtain ⟨T128, X128, e128, st128⟩ := getF X127 hx hZ hown (host := "") (Or.inl (hw _ (List.mem_of_getElem? (i := 17) rfl))) Via.refl e127 Fs (g := (mkF m 11 #[.val (.ref a1), .val (.double dx), .second, .val (.double hi2), .second, .val (.int (1 : Int32)), .val (.int (3 : Int32)), .val (.double (own_snd hi1 q2)), .second, .val (.double hi2), .second, .val (.double lo2), .second] [(.ref a1), (.int (3 : Int32))])) rfl rfl (hb hby d_prog_8_2_11)
          obtain ⟨T129, X129, e129, st129⟩ := getF X128 hx hZ hown (host := "") (Or.inl (hw _ (List.mem_of_getElem? (i := 10) rfl))) Via.refl e128 Fp (g := (mkF m 95 #[.val (.ref a1), .val (.double dx), .second, .val (.double hi2), .second, .val (.int (1 : Int32)), .val (.int (3 : Int32)), .val (.double (own_snd hi1 q2)), .second, .val (.double hi2), .second, .val (.double lo2), .second] [(.ref a1), (.int (1 : Int32))])) rfl rfl (hb hby d_prog_8_2_95)
          obtain ⟨cl130, Ar130, -, Sz130, Ng130, -, -⟩ := id Va
          obtain ⟨T131, X131, e131, st131⟩ := getF X129 hx hZ hown (host := "") (Or.inl (hw _ (List.mem_of_getElem? (i := 10) rfl))) Via.refl e129 Fp (g := (mkF m 118 #[.val (.ref a1), .val (.double dx), .second, .val (.double hi2), .second, .val (.int (1 : Int32)), .val (.int (3 : Int32)), .val (.double (own_snd hi1 q2)), .second, .val (.double hi2), .second, .val (.double lo2), .second] [(.ref a1)])) rfl rfl (hb hby d_prog_8_2_118)
          obtain ⟨cl132, Ar132, q132, Sz132, Ng132, Hs132, Gs132⟩ := Va
          have hin132 : ¬ ((1 : Int32) < 0 ∨ cl132.slots.size ≤ ((1 : Int32)).toNatClampNeg) := inb_of Sz132 ⟨by decide, by decide⟩
          obtain ⟨T133, h133, X133, e133, W133, st133⟩ := stD X131 hx hZ e131 Ar132 (j := (1 : Int32)) hin132 (g := (mkF m 127 #[.val (.ref a1), .val (.double dx), .second, .val (.double hi2), .second, .val (.int (2 : Int32)), .val (.int (3 : Int32)), .val (.double (own_snd hi1 q2)), .second, .val (.double hi2), .second, .val (.double lo2), .second] [(.double hi2), (.int (1 : Int32)), (.ref ar)])) rfl rfl (hb hby d_prog_8_2_127)
          replace Ea := Ea.wr W133
          replace Fp := Fp.other W133 (Or.inl hne)
          replace Fs := Fs.other W133 (Or.inl hne)
          have Zs133 := Nat.le_trans Zs127 (Keep.of_wr W133).1
          replace KK := KK.wr W133 (Or.inl (by simp))
          have Va : Arv Z h133 ar kc .double (4 : Int32) [(.double lo2), (.double hi2), (.double q2), (.double q3)] (.double (0 : UInt64)) := Arv.set Ar132 q132 Sz132 Ng132 Hs132 Gs132 rfl W133 1 rfl (Nat.le_of_ble_eq_true rfl)
          have N133 := Fr.snoc X133 N127 g_ar
          obtain ⟨T134, h134, X134, e134, W134, st134⟩ := putF X133 hx hZ hown (host := "") (Or.inl (hw _ (List.mem_of_getElem? (i := 17) rfl))) Via.refl e133 Fs Ea (Or.inl (hw _ (List.mem_of_getElem? (i := 18) rfl))) (hw _ (List.mem_of_getElem? (i := 1) rfl)) (ty := .int) (by decide) rfl rfl (g := (mkF m 131 #[.val (.ref a1), .val (.double dx), .second, .val (.double hi2), .second, .val (.int (2 : Int32)), .val (.int (3 : Int32)), .val (.double (own_snd hi1 q2)), .second, .val (.double hi2), .second, .val (.double lo2), .second] [(.int (2 : Int32)), (.ref a1)])) rfl rfl (hb hby d_prog_8_2_131)
          replace Ea := Ea.wr W134
          replace Fp := Fp.other W134 (Or.inr (slot_ne (Or.inl (hw _ (List.mem_of_getElem? (i := 11) rfl))) (Or.inl (hw _ (List.mem_of_getElem? (i := 18) rfl))) (by decide) (t := (.array .double)) (t' := .int) (by decide) (by decide)))
          replace Va := Va.other W134 (Ne.symm hne)
          have Zs134 := Nat.le_trans Zs133 (Keep.of_wr W134).1
          replace KK := KK.wr W134 (Or.inl (by simp))
          replace Fs := Fs.same W134
          have N134 := Fr.snoc X134 N133 g_a1
          obtain ⟨fs, hr, hrun, hended, hW, hsame⟩ := X134.leave (v := none) (fun _ => rfl) hlk
          refine ⟨_, _, ?_, hrun, hended, _, _, rfl, ?_, ⟨_, rfl⟩, hW, hsame.mono (by decide) (by decide)⟩
          · refine hA0 _ ?_
            refine k117 _ ?_
            refine own_f_ifNo X114.here hx (hb hby d_prog_8_2_68) ((if0 _ _).trans (feq (hz2)).1) (rfl : _ = 71) ?_
            refine own_f_aloadN X114.here hx (hb hby d_prog_8_2_71) rfl rfl (rfl : _ = 72) ?_
            refine st125 _ ?_
            show Steps p.tables e below (T125.setTop (mkF m 75 #[.val (.ref a1), .val (.double dx), .second, .val (.double (own_fst hi1 q2)), .second, .val (.int (0 : Int32)), .val (.int (2 : Int32)), .val (.double (own_snd hi1 q2)), .second, .val (.double hi2), .second, .val (.double lo2), .second] [(.ref ar)])) _
            refine own_f_iload X125.here hx (hb hby d_prog_8_2_75) rfl (rfl : _ = 77) ?_
            refine own_f_iinc X125.here hx (hb hby d_prog_8_2_77) rfl (rfl : storeLocals _ _ _ = some #[.val (.ref a1), .val (.double dx), .second, .val (.double (own_fst hi1 q2)), .second, .val (.int (1 : Int32)), .val (.int (2 : Int32)), .val (.double (own_snd hi1 q2)), .second, .val (.double hi2), .second, .val (.double lo2), .second]) (rfl : _ = 80) ?_
            refine own_f_dload X125.here hx (hb hby d_prog_8_2_80) rfl (rfl : _ = 82) ?_
            refine st127 _ ?_
            show Steps p.tables e below (T127.setTop (mkF m 83 #[.val (.ref a1), .val (.double dx), .second, .val (.double (own_fst hi1 q2)), .second, .val (.int (1 : Int32)), .val (.int (2 : Int32)), .val (.double (own_snd hi1 q2)), .second, .val (.double hi2), .second, .val (.double lo2), .second] [])) _
            refine own_f_dload X127.here hx (hb hby d_prog_8_2_83) rfl (rfl : _ = 85) ?_
            refine own_f_dstoreN X127.here hx (hb hby d_prog_8_2_85) (rfl : storeLocals _ _ _ = some #[.val (.ref a1), .val (.double dx), .second, .val (.double hi2), .second, .val (.int (1 : Int32)), .val (.int (2 : Int32)), .val (.double (own_snd hi1 q2)), .second, .val (.double hi2), .second, .val (.double lo2), .second]) (rfl : _ = 86) ?_
            refine own_f_iinc X127.here hx (hb hby d_prog_8_2_86) rfl (rfl : storeLocals _ _ _ = some #[.val (.ref a1), .val (.double dx), .second, .val (.double hi2), .second, .val (.int (1 : Int32)), .val (.int (3 : Int32)), .val (.double (own_snd hi1 q2)), .second, .val (.double hi2), .second, .val (.double lo2), .second]) (rfl : _ = 89) ?_
            refine own_f_goto X127.here hx (hb hby d_prog_8_2_89) (by decide) (by decide : _ = 8) ?_
            refine own_f_iload X127.here hx (hb hby d_prog_8_2_8) rfl (rfl : _ = 10) ?_
            refine own_f_aloadN X127.here hx (hb hby d_prog_8_2_10) rfl rfl (rfl : _ = 11) ?_
            refine st128 _ ?_
            show Steps p.tables e below (T128.setTop (mkF m 14 #[.val (.ref a1), .val (.double dx), .second, .val (.double hi2), .second, .val (.int (1 : Int32)), .val (.int (3 : Int32)), .val (.double (own_snd hi1 q2)), .second, .val (.double hi2), .second, .val (.double lo2), .second] [(.int (3 : Int32)), (.int (3 : Int32))])) _
            refine own_f_icmpYes X128.here hx (hb hby d_prog_8_2_14) (flt (by decide)).2.1 (by decide) (by decide : _ = 92) ?_
            refine own_f_iload X128.here hx (hb hby d_prog_8_2_92) rfl (rfl : _ = 94) ?_
            refine own_f_aloadN X128.here hx (hb hby d_prog_8_2_94) rfl rfl (rfl : _ = 95) ?_
            refine st129 _ ?_
            show Steps p.tables e below (T129.setTop (mkF m 98 #[.val (.ref a1), .val (.double dx), .second, .val (.double hi2), .second, .val (.int (1 : Int32)), .val (.int (3 : Int32)), .val (.double (own_snd hi1 q2)), .second, .val (.double hi2), .second, .val (.double lo2), .second] [(.ref ar), (.int (1 : Int32))])) _
            refine X129.arraylength hx (by rw [e129]; exact Ar130.1) (State.isArrayOf_alike hZ.alike Ar130.2.1) (g := (mkF m 98 #[.val (.ref a1), .val (.double dx), .second, .val (.double hi2), .second, .val (.int (1 : Int32)), .val (.int (3 : Int32)), .val (.double (own_snd hi1 q2)), .second, .val (.double hi2), .second, .val (.double lo2), .second] [(.ref ar), (.int (1 : Int32))])) rfl rfl (hb hby d_prog_8_2_98) _ ?_
            rw [len_of Sz130 Ng130]
            show Steps p.tables e below (T129.setTop (mkF m 99 #[.val (.ref a1), .val (.double dx), .second, .val (.double hi2), .second, .val (.int (1 : Int32)), .val (.int (3 : Int32)), .val (.double (own_snd hi1 q2)), .second, .val (.double hi2), .second, .val (.double lo2), .second] [(.int (4 : Int32)), (.int (1 : Int32))])) _
            refine own_f_icmpYes X129.here hx (hb hby d_prog_8_2_99) (feq (by decide)).2 (by decide) (by decide : _ = 117) ?_
            refine own_f_aloadN X129.here hx (hb hby d_prog_8_2_117) rfl rfl (rfl : _ = 118) ?_
            refine st131 _ ?_
            show Steps p.tables e below (T131.setTop (mkF m 121 #[.val (.ref a1), .val (.double dx), .second, .val (.double hi2), .second, .val (.int (1 : Int32)), .val (.int (3 : Int32)), .val (.double (own_snd hi1 q2)), .second, .val (.double hi2), .second, .val (.double lo2), .second] [(.ref ar)])) _
            refine own_f_iload X131.here hx (hb hby d_prog_8_2_121) rfl (rfl : _ = 123) ?_
            refine own_f_iinc X131.here hx (hb hby d_prog_8_2_123) rfl (rfl : storeLocals _ _ _ = some #[.val (.ref a1), .val (.double dx), .second, .val (.double hi2), .second, .val (.int (2 : Int32)), .val (.int (3 : Int32)), .val (.double (own_snd hi1 q2)), .second, .val (.double hi2), .second, .val (.double lo2), .second]) (rfl : _ = 126) ?_
            refine own_f_dloadN X131.here hx (hb hby d_prog_8_2_126) rfl (rfl : _ = 127) ?_
            refine st133 _ ?_
            show Steps p.tables e below (T133.setTop (mkF m 128 #[.val (.ref a1), .val (.double dx), .second, .val (.double hi2), .second, .val (.int (2 : Int32)), .val (.int (3 : Int32)), .val (.double (own_snd hi1 q2)), .second, .val (.double hi2), .second, .val (.double lo2), .second] [])) _
            refine own_f_aloadN X133.here hx (hb hby d_prog_8_2_128) rfl rfl (rfl : _ = 129) ?_
            refine own_f_iload X133.here hx (hb hby d_prog_8_2_129) rfl (rfl : _ = 131) ?_
            refine st134 _ ?_
            show Steps p.tables e below (T134.setTop (mkF m 134 #[.val (.ref a1), .val (.double dx), .second, .val (.double hi2), .second, .val (.int (2 : Int32)), .val (.int (3 : Int32)), .val (.double (own_snd hi1 q2)), .second, .val (.double hi2), .second, .val (.double lo2), .second] [])) _
            exact X134.returnOut hx Bd.returns (hb hby d_prog_8_2_134) hr
          · show Q2 Z a1 dx _ ar kc q0 q1 q2 q3 _ h0 n0 _ T134.heap _
            rw [e134]
            exact ⟨(2 : Int32), lo2, hi2, q2, q3, rfl, N134, KK, Fp, Fs, Va, own_res (M := [lo2, hi2]) (by rw [own_ins_d hlo0 hhi0 hz0, own_ins_d hlo1 hhi1 hz1, own_ins_c hlo2 hhi2 hz2]; rfl) (by show Int32.toInt 2 = ((2 : Nat) : Int); decide) rfl⟩
      · obtain ⟨T135, X135, e135, st135⟩ := getF X106 hx hZ hown (host := "") (Or.inl (hw _ (List.mem_of_getElem? (i := 10) rfl))) Via.refl e106 Fp (g := (mkF m 72 #[.val (.ref a1), .val (.double dx), .second, .val (.double (own_fst hi0 q1)), .second, .val (.int (0 : Int32)), .val (.int (1 : Int32)), .val (.double (own_snd hi0 q1)), .second, .val (.double hi1), .second, .val (.double lo1), .second] [(.ref a1)])) rfl rfl (hb hby d_prog_8_2_72)
        obtain ⟨cl136, Ar136, q136, Sz136, Ng136, Hs136, Gs136⟩ := Va
        have hin136 : ¬ ((0 : Int32) < 0 ∨ cl136.slots.size ≤ ((0 : Int32)).toNatClampNeg) := inb_of Sz136 ⟨by decide, by decide⟩
        obtain ⟨T137, h137, X137, e137, W137, st137⟩ := stD X135 hx hZ e135 Ar136 (j := (0 : Int32)) hin136 (g := (mkF m 82 #[.val (.ref a1), .val (.double dx), .second, .val (.double (own_fst hi0 q1)), .second, .val (.int (1 : Int32)), .val (.int (1 : Int32)), .val (.double (own_snd hi0 q1)), .second, .val (.double hi1), .second, .val (.double lo1), .second] [(.double lo1), (.int (0 : Int32)), (.ref ar)])) rfl rfl (hb hby d_prog_8_2_82)
        replace Ea := Ea.wr W137
        replace Fp := Fp.other W137 (Or.inl hne)
        replace Fs := Fs.other W137 (Or.inl hne)
        have Zs137 := Nat.le_trans Z0 (Keep.of_wr W137).1
        replace KK := KK.wr W137 (Or.inl (by simp))
        have Va : Arv Z h137 ar kc .double (4 : Int32) [(.double lo1), (.double q1), (.double q2), (.double q3)] (.double (0 : UInt64)) := Arv.set Ar136 q136 Sz136 Ng136 Hs136 Gs136 rfl W137 0 rfl (Nat.le_of_ble_eq_true rfl)
        have N137 := Fr.snoc X137 N0 g_ar
        obtain ⟨T138, X138, e138, st138⟩ := getF X137 hx hZ hown (host := "") (Or.inl (hw _ (List.mem_of_getElem? (i := 17) rfl))) Via.refl e137 Fs (g := (mkF m 11 #[.val (.ref a1), .val (.double dx), .second, .val (.double hi1), .second, .val (.int (1 : Int32)), .val (.int (2 : Int32)), .val (.double (own_snd hi0 q1)), .second, .val (.double hi1), .second, .val (.double lo1), .second] [(.ref a1), (.int (2 : Int32))])) rfl rfl (hb hby d_prog_8_2_11)
        obtain ⟨T139, X139, e139, st139⟩ := getF X138 hx hZ hown (host := "") (Or.inl (hw _ (List.mem_of_getElem? (i := 10) rfl))) Via.refl e138 Fp (g := (mkF m 18 #[.val (.ref a1), .val (.double dx), .second, .val (.double hi1), .second, .val (.int (1 : Int32)), .val (.int (2 : Int32)), .val (.double (own_snd hi0 q1)), .second, .val (.double hi1), .second, .val (.double lo1), .second] [(.ref a1)])) rfl rfl (hb hby d_prog_8_2_18)
        obtain ⟨cl140, Ar140, -, Sz140, Ng140, Hs140, -⟩ := id Va
        have hin140 : ¬ ((2 : Int32) < 0 ∨ cl140.slots.size ≤ ((2 : Int32)).toNatClampNeg) := inb_of Sz140 ⟨by decide, by decide⟩
        have hat140 : cl140.slots[((2 : Int32)).toNatClampNeg]? = some (.double q2) := Hs140 _ (Nat.lt_of_not_le fun q => hin140 (Or.inr q))
        obtain ⟨⟨nx2, nq2⟩, na2, nb2, nc2, -⟩ := own_nn hnn
        obtain ⟨T141, X141, e141, st141⟩ := natS X139 hx hZ hown (hw _ (List.mem_of_getElem? (i := 38) rfl)) (hw _ (List.mem_of_getElem? (i := 39) rfl)) (hw _ (List.mem_of_getElem? (i := 40) rfl)) (hw _ (List.mem_of_getElem? (i := 41) rfl)) (by decide) e139 (W := 0) (val' := (.double (hi1 &&& 0x7fffffffffffffff))) (fun c => Jvm.Free.Fl.Abs.absD_pays hi1 c (by decide) (by decide)) (g := (mkF m 27 #[.val (.ref a1), .val (.double dx), .second, .val (.double hi1), .second, .val (.int (1 : Int32)), .val (.int (2 : Int32)), .val (.double q2), .second, .val (.double hi1), .second, .val (.double lo1), .second] [(.double hi1)])) rfl (by rw [hml]; rfl) (argsL := [(.double hi1)]) (rest := []) (lenOf pd_0 rfl) rfl (by show 2 * 0 + _ ≤ _; exact Nat.le_of_eq rfl) (hb hby d_prog_8_2_27) (by decide) (by decide) ⟨rfl, nx2⟩ rfl
        obtain ⟨T142, X142, e142, st142⟩ := natS X141 hx hZ hown (hw _ (List.mem_of_getElem? (i := 38) rfl)) (hw _ (List.mem_of_getElem? (i := 39) rfl)) (hw _ (List.mem_of_getElem? (i := 40) rfl)) (hw _ (List.mem_of_getElem? (i := 41) rfl)) (by decide) e141 (W := 2) (val' := (.double (q2 &&& 0x7fffffffffffffff))) (fun c => Jvm.Free.Fl.Abs.absD_pays q2 c (by decide) (by decide)) (g := (mkF m 32 #[.val (.ref a1), .val (.double dx), .second, .val (.double hi1), .second, .val (.int (1 : Int32)), .val (.int (2 : Int32)), .val (.double q2), .second, .val (.double hi1), .second, .val (.double lo1), .second] [(.double q2), (.double (hi1 &&& 0x7fffffffffffffff))])) rfl (by rw [hml]; rfl) (argsL := [(.double q2)]) (rest := [(.double (hi1 &&& 0x7fffffffffffffff))]) (lenOf pd_0 rfl) rfl (by show 2 * 0 + _ ≤ _; exact Nat.le_of_eq rfl) (hb hby d_prog_8_2_32) (by decide) (by decide) ⟨rfl, nq2⟩ rfl
        have k143 : ∀ t_, Steps p.tables e below (T142.setTop (mkF m 36 #[.val (.ref a1), .val (.double dx), .second, .val (.double hi1), .second, .val (.int (1 : Int32)), .val (.int (2 : Int32)), .val (.double q2), .second, .val (.double hi1), .second, .val (.double lo1), .second] [(.int (cmpValue (FP.dcmp (hi1 &&& 0x7fffffffffffffff) (q2 &&& 0x7fffffffffffffff)) .g))])) t_ → Steps p.tables e below A t_ := by
          intro t_ ht_
          refine k109 t_ ?_
          refine own_f_ifNo X106.here hx (hb hby d_prog_8_2_68) ((if0 _ _).trans (feq (hz1)).1) (rfl : _ = 71) ?_
          refine own_f_aloadN X106.here hx (hb hby d_prog_8_2_71) rfl rfl (rfl : _ = 72) ?_
          refine st135 _ ?_
          show Steps p.tables e below (T135.setTop (mkF m 75 #[.val (.ref a1), .val (.double dx), .second, .val (.double (own_fst hi0 q1)), .second, .val (.int (0 : Int32)), .val (.int (1 : Int32)), .val (.double (own_snd hi0 q1)), .second, .val (.double hi1), .second, .val (.double lo1), .second] [(.ref ar)])) t_
          refine own_f_iload X135.here hx (hb hby d_prog_8_2_75) rfl (rfl : _ = 77) ?_
          refine own_f_iinc X135.here hx (hb hby d_prog_8_2_77) rfl (rfl : storeLocals _ _ _ = some #[.val (.ref a1), .val (.double dx), .second, .val (.double (own_fst hi0 q1)), .second, .val (.int (1 : Int32)), .val (.int (1 : Int32)), .val (.double (own_snd hi0 q1)), .second, .val (.double hi1), .second, .val (.double lo1), .second]) (rfl : _ = 80) ?_
          refine own_f_dload X135.here hx (hb hby d_prog_8_2_80) rfl (rfl : _ = 82) ?_
          refine st137 _ ?_
          show Steps p.tables e below (T137.setTop (mkF m 83 #[.val (.ref a1), .val (.double dx), .second, .val (.double (own_fst hi0 q1)), .second, .val (.int (1 : Int32)), .val (.int (1 : Int32)), .val (.double (own_snd hi0 q1)), .second, .val (.double hi1), .second, .val (.double lo1), .second] [])) t_
          refine own_f_dload X137.here hx (hb hby d_prog_8_2_83) rfl (rfl : _ = 85) ?_
          refine own_f_dstoreN X137.here hx (hb hby d_prog_8_2_85) (rfl : storeLocals _ _ _ = some #[.val (.ref a1), .val (.double dx), .second, .val (.double hi1), .second, .val (.int (1 : Int32)), .val (.int (1 : Int32)), .val (.double (own_snd hi0 q1)), .second, .val (.double hi1), .second, .val (.double lo1), .second]) (rfl : _ = 86) ?_
          refine own_f_iinc X137.here hx (hb hby d_prog_8_2_86) rfl (rfl : storeLocals _ _ _ = some #[.val (.ref a1), .val (.double dx), .second, .val (.double hi1), .second, .val (.int (1 : Int32)), .val (.int (2 : Int32)), .val (.double (own_snd hi0 q1)), .second, .val (.double hi1), .second, .val (.double lo1), .second]) (rfl : _ = 89) ?_
          refine own_f_goto X137.here hx (hb hby d_prog_8_2_89) (by decide) (by decide : _ = 8) ?_
          refine own_f_iload X137.here hx (hb hby d_prog_8_2_8) rfl (rfl : _ = 10) ?_
          refine own_f_aloadN X137.here hx (hb hby d_prog_8_2_10) rfl rfl (rfl : _ = 11) ?_
          refine st138 _ ?_
          show Steps p.tables e below (T138.setTop (mkF m 14 #[.val (.ref a1), .val (.double dx), .second, .val (.double hi1), .second, .val (.int (1 : Int32)), .val (.int (2 : Int32)), .val (.double (own_snd hi0 q1)), .second, .val (.double hi1), .second, .val (.double lo1), .second] [(.int (3 : Int32)), (.int (2 : Int32))])) t_
          refine own_f_icmpNo X138.here hx (hb hby d_prog_8_2_14) (tlt (by decide)).2.1 (rfl : _ = 17) ?_
          refine own_f_aloadN X138.here hx (hb hby d_prog_8_2_17) rfl rfl (rfl : _ = 18) ?_
          refine st139 _ ?_
          show Steps p.tables e below (T139.setTop (mkF m 21 #[.val (.ref a1), .val (.double dx), .second, .val (.double hi1), .second, .val (.int (1 : Int32)), .val (.int (2 : Int32)), .val (.double (own_snd hi0 q1)), .second, .val (.double hi1), .second, .val (.double lo1), .second] [(.ref ar)])) t_
          refine own_f_iload X139.here hx (hb hby d_prog_8_2_21) rfl (rfl : _ = 23) ?_
          refine X139.daload hx (j := (2 : Int32)) (v := (.double q2)) (by rw [e139]; exact Ar140.1) (State.isArrayOf_alike hZ.alike Ar140.2.1) Ar140.2.2 hin140 hat140 (g := (mkF m 23 #[.val (.ref a1), .val (.double dx), .second, .val (.double hi1), .second, .val (.int (1 : Int32)), .val (.int (2 : Int32)), .val (.double (own_snd hi0 q1)), .second, .val (.double hi1), .second, .val (.double lo1), .second] [(.int (2 : Int32)), (.ref ar)])) rfl rfl (hb hby d_prog_8_2_23) _ ?_
          show Steps p.tables e below (T139.setTop (mkF m 24 #[.val (.ref a1), .val (.double dx), .second, .val (.double hi1), .second, .val (.int (1 : Int32)), .val (.int (2 : Int32)), .val (.double (own_snd hi0 q1)), .second, .val (.double hi1), .second, .val (.double lo1), .second] [(.double q2)])) t_
          refine own_f_dstore X139.here hx (hb hby d_prog_8_2_24) (rfl : storeLocals _ _ _ = some #[.val (.ref a1), .val (.double dx), .second, .val (.double hi1), .second, .val (.int (1 : Int32)), .val (.int (2 : Int32)), .val (.double q2), .second, .val (.double hi1), .second, .val (.double lo1), .second]) (rfl : _ = 26) ?_
          refine own_f_dloadN X139.here hx (hb hby d_prog_8_2_26) rfl (rfl : _ = 27) ?_
          refine st141 _ ?_
          show Steps p.tables e below (T141.setTop (mkF m 30 #[.val (.ref a1), .val (.double dx), .second, .val (.double hi1), .second, .val (.int (1 : Int32)), .val (.int (2 : Int32)), .val (.double q2), .second, .val (.double hi1), .second, .val (.double lo1), .second] [(.double (hi1 &&& 0x7fffffffffffffff))])) t_
          refine own_f_dload X141.here hx (hb hby d_prog_8_2_30) rfl (rfl : _ = 32) ?_
          refine st142 _ ?_
          show Steps p.tables e below (T142.setTop (mkF m 35 #[.val (.ref a1), .val (.double dx), .second, .val (.double hi1), .second, .val (.int (1 : Int32)), .val (.int (2 : Int32)), .val (.double q2), .second, .val (.double hi1), .second, .val (.double lo1), .second] [(.double (q2 &&& 0x7fffffffffffffff)), (.double (hi1 &&& 0x7fffffffffffffff))])) t_
          refine own_f_dcmp X142.here hx (hb hby d_prog_8_2_35) rfl (rfl : _ = 36) ?_
          exact ht_
        have k144 : ∀ t_, Steps p.tables e below (T142.setTop (mkF m 64 #[.val (.ref a1), .val (.double dx), .second, .val (.double (own_fst hi1 q2)), .second, .val (.int (1 : Int32)), .val (.int (2 : Int32)), .val (.double (own_snd hi1 q2)), .second, .val (.double (FP.dadd (own_fst hi1 q2) (own_snd hi1 q2))), .second, .val (.double (own_lo (own_fst hi1 q2) (own_snd hi1 q2))), .second] [])) t_ → Steps p.tables e below A t_ := by
          intro t_ ht_
          refine k143 t_ ?_
          by_cases hsw : own_lt hi1 q2
          · have e1 : own_fst hi1 q2 = q2 := if_pos hsw
            have e2 : own_snd hi1 q2 = hi1 := if_pos hsw
            rw [e1, e2] at ht_ na2 nb2 nc2
            have hs_ : (cmpValue (FP.dcmp (hi1 &&& 0x7fffffffffffffff) (q2 &&& 0x7fffffffffffffff)) .g) < (0 : Int32) := hsw
            refine own_f_ifNo X142.here hx (hb hby d_prog_8_2_36) ((if0 _ _).trans (tlt (hs_)).2.1) (rfl : _ = 39) ?_
            refine own_f_dload X142.here hx (hb hby d_prog_8_2_39) rfl (rfl : _ = 41) ?_
            refine own_f_dstore X142.here hx (hb hby d_prog_8_2_41) (rfl : storeLocals _ _ _ = some #[.val (.ref a1), .val (.double dx), .second, .val (.double hi1), .second, .val (.int (1 : Int32)), .val (.int (2 : Int32)), .val (.double q2), .second, .val (.double q2), .second, .val (.double lo1), .second]) (rfl : _ = 43) ?_
            refine own_f_dloadN X142.here hx (hb hby d_prog_8_2_43) rfl (rfl : _ = 44) ?_
            refine own_f_dstore X142.here hx (hb hby d_prog_8_2_44) (rfl : storeLocals _ _ _ = some #[.val (.ref a1), .val (.double dx), .second, .val (.double hi1), .second, .val (.int (1 : Int32)), .val (.int (2 : Int32)), .val (.double hi1), .second, .val (.double q2), .second, .val (.double lo1), .second]) (rfl : _ = 46) ?_
            refine own_f_dload X142.here hx (hb hby d_prog_8_2_46) rfl (rfl : _ = 48) ?_
            refine own_f_dstoreN X142.here hx (hb hby d_prog_8_2_48) (rfl : storeLocals _ _ _ = some #[.val (.ref a1), .val (.double dx), .second, .val (.double q2), .second, .val (.int (1 : Int32)), .val (.int (2 : Int32)), .val (.double hi1), .second, .val (.double q2), .second, .val (.double lo1), .second]) (rfl : _ = 49) ?_
            refine own_f_dloadN X142.here hx (hb hby d_prog_8_2_49) rfl (rfl : _ = 50) ?_
            refine own_f_dload X142.here hx (hb hby d_prog_8_2_50) rfl (rfl : _ = 52) ?_
            refine own_f_dadd X142.here hx (hb hby d_prog_8_2_52) (na2) rfl (rfl : _ = 53) ?_
            refine own_f_dstore X142.here hx (hb hby d_prog_8_2_53) (rfl : storeLocals _ _ _ = some #[.val (.ref a1), .val (.double dx), .second, .val (.double q2), .second, .val (.int (1 : Int32)), .val (.int (2 : Int32)), .val (.double hi1), .second, .val (.double (FP.dadd q2 hi1)), .second, .val (.double lo1), .second]) (rfl : _ = 55) ?_
            refine own_f_dload X142.here hx (hb hby d_prog_8_2_55) rfl (rfl : _ = 57) ?_
            refine own_f_dload X142.here hx (hb hby d_prog_8_2_57) rfl (rfl : _ = 59) ?_
            refine own_f_dloadN X142.here hx (hb hby d_prog_8_2_59) rfl (rfl : _ = 60) ?_
            refine own_f_dsub X142.here hx (hb hby d_prog_8_2_60) (nb2) rfl (rfl : _ = 61) ?_
            refine own_f_dsub X142.here hx (hb hby d_prog_8_2_61) (nc2) rfl (rfl : _ = 62) ?_
            refine own_f_dstore X142.here hx (hb hby d_prog_8_2_62) (rfl : storeLocals _ _ _ = some #[.val (.ref a1), .val (.double dx), .second, .val (.double q2), .second, .val (.int (1 : Int32)), .val (.int (2 : Int32)), .val (.double hi1), .second, .val (.double (FP.dadd q2 hi1)), .second, .val (.double (FP.dsub hi1 (FP.dsub (FP.dadd q2 hi1) q2))), .second]) (rfl : _ = 64) ?_
            exact ht_
          · have e1 : own_fst hi1 q2 = hi1 := if_neg hsw
            have e2 : own_snd hi1 q2 = q2 := if_neg hsw
            rw [e1, e2] at ht_ na2 nb2 nc2
            have hs_ : ¬ ((cmpValue (FP.dcmp (hi1 &&& 0x7fffffffffffffff) (q2 &&& 0x7fffffffffffffff)) .g) < (0 : Int32)) := hsw
            refine own_f_ifYes X142.here hx (hb hby d_prog_8_2_36) ((if0 _ _).trans (flt (hs_)).2.1) (by decide) (by decide : _ = 49) ?_
            refine own_f_dloadN X142.here hx (hb hby d_prog_8_2_49) rfl (rfl : _ = 50) ?_
            refine own_f_dload X142.here hx (hb hby d_prog_8_2_50) rfl (rfl : _ = 52) ?_
            refine own_f_dadd X142.here hx (hb hby d_prog_8_2_52) (na2) rfl (rfl : _ = 53) ?_
            refine own_f_dstore X142.here hx (hb hby d_prog_8_2_53) (rfl : storeLocals _ _ _ = some #[.val (.ref a1), .val (.double dx), .second, .val (.double hi1), .second, .val (.int (1 : Int32)), .val (.int (2 : Int32)), .val (.double q2), .second, .val (.double (FP.dadd hi1 q2)), .second, .val (.double lo1), .second]) (rfl : _ = 55) ?_
            refine own_f_dload X142.here hx (hb hby d_prog_8_2_55) rfl (rfl : _ = 57) ?_
            refine own_f_dload X142.here hx (hb hby d_prog_8_2_57) rfl (rfl : _ = 59) ?_
            refine own_f_dloadN X142.here hx (hb hby d_prog_8_2_59) rfl (rfl : _ = 60) ?_
            refine own_f_dsub X142.here hx (hb hby d_prog_8_2_60) (nb2) rfl (rfl : _ = 61) ?_
            refine own_f_dsub X142.here hx (hb hby d_prog_8_2_61) (nc2) rfl (rfl : _ = 62) ?_
            refine own_f_dstore X142.here hx (hb hby d_prog_8_2_62) (rfl : storeLocals _ _ _ = some #[.val (.ref a1), .val (.double dx), .second, .val (.double hi1), .second, .val (.int (1 : Int32)), .val (.int (2 : Int32)), .val (.double q2), .second, .val (.double (FP.dadd hi1 q2)), .second, .val (.double (FP.dsub q2 (FP.dsub (FP.dadd hi1 q2) hi1))), .second]) (rfl : _ = 64) ?_
            exact ht_
        obtain ⟨hi2, hhi2⟩ : ∃ z : UInt64, z = (FP.dadd (own_fst hi1 q2) (own_snd hi1 q2)) := ⟨_, rfl⟩
        rw [← hhi2] at k144
        obtain ⟨lo2, hlo2⟩ : ∃ z : UInt64, z = (own_lo (own_fst hi1 q2) (own_snd hi1 q2)) := ⟨_, rfl⟩
        rw [← hlo2] at k144
        replace hnn := own_nn' hhi2 hnn
        have k145 : ∀ t_, Steps p.tables e below (T142.setTop (mkF m 68 #[.val (.ref a1), .val (.double dx), .second, .val (.double (own_fst hi1 q2)), .second, .val (.int (1 : Int32)), .val (.int (2 : Int32)), .val (.double (own_snd hi1 q2)), .second, .val (.double hi2), .second, .val (.double lo2), .second] [(.int (cmpValue (FP.dcmp lo2 (0 : UInt64)) .l))])) t_ → Steps p.tables e below A t_ := by
          intro t_ ht_
          refine k144 t_ ?_
          refine own_f_dload X142.here hx (hb hby d_prog_8_2_64) rfl (rfl : _ = 66) ?_
          refine own_f_dconst0 X142.here hx (hb hby d_prog_8_2_66) (rfl : _ = (0 : UInt64)) (rfl : _ = 67) ?_
          refine own_f_dcmp X142.here hx (hb hby d_prog_8_2_67) rfl (rfl : _ = 68) ?_
          exact ht_
        by_cases hz2 : (cmpValue (FP.dcmp lo2 (0 : UInt64)) .l) = (0 : Int32)
        · obtain ⟨T146, X146, e146, st146⟩ := getF X142 hx hZ hown (host := "") (Or.inl (hw _ (List.mem_of_getElem? (i := 17) rfl))) Via.refl e142 Fs (g := (mkF m 11 #[.val (.ref a1), .val (.double dx), .second, .val (.double hi2), .second, .val (.int (1 : Int32)), .val (.int (3 : Int32)), .val (.double (own_snd hi1 q2)), .second, .val (.double hi2), .second, .val (.double lo2), .second] [(.ref a1), (.int (3 : Int32))])) rfl rfl (hb hby d_prog_8_2_11)
          obtain ⟨T147, X147, e147, st147⟩ := getF X146 hx hZ hown (host := "") (Or.inl (hw _ (List.mem_of_getElem? (i := 10) rfl))) Via.refl e146 Fp (g := (mkF m 95 #[.val (.ref a1), .val (.double dx), .second, .val (.double hi2), .second, .val (.int (1 : Int32)), .val (.int (3 : Int32)), .val (.double (own_snd hi1 q2)), .second, .val (.double hi2), .second, .val (.double lo2), .second] [(.ref a1), (.int (1 : Int32))])) rfl rfl (hb hby d_prog_8_2_95)
          obtain ⟨cl148, Ar148, -, Sz148, Ng148, -, -⟩ := id Va
          obtain ⟨T149, X149, e149, st149⟩ := getF X147 hx hZ hown (host := "") (Or.inl (hw _ (List.mem_of_getElem? (i := 10) rfl))) Via.refl e147 Fp (g := (mkF m 118 #[.val (.ref a1), .val (.double dx), .second, .val (.double hi2), .second, .val (.int (1 : Int32)), .val (.int (3 : Int32)), .val (.double (own_snd hi1 q2)), .second, .val (.double hi2), .second, .val (.double lo2), .second] [(.ref a1)])) rfl rfl (hb hby d_prog_8_2_118)
          obtain ⟨cl150, Ar150, q150, Sz150, Ng150, Hs150, Gs150⟩ := Va
          have hin150 : ¬ ((1 : Int32) < 0 ∨ cl150.slots.size ≤ ((1 : Int32)).toNatClampNeg) := inb_of Sz150 ⟨by decide, by decide⟩
          obtain ⟨T151, h151, X151, e151, W151, st151⟩ := stD X149 hx hZ e149 Ar150 (j := (1 : Int32)) hin150 (g := (mkF m 127 #[.val (.ref a1), .val (.double dx), .second, .val (.double hi2), .second, .val (.int (2 : Int32)), .val (.int (3 : Int32)), .val (.double (own_snd hi1 q2)), .second, .val (.double hi2), .second, .val (.double lo2), .second] [(.double hi2), (.int (1 : Int32)), (.ref ar)])) rfl rfl (hb hby d_prog_8_2_127)
          replace Ea := Ea.wr W151
          replace Fp := Fp.other W151 (Or.inl hne)
          replace Fs := Fs.other W151 (Or.inl hne)
          have Zs151 := Nat.le_trans Zs137 (Keep.of_wr W151).1
          replace KK := KK.wr W151 (Or.inl (by simp))
          have Va : Arv Z h151 ar kc .double (4 : Int32) [(.double lo1), (.double hi2), (.double q2), (.double q3)] (.double (0 : UInt64)) := Arv.set Ar150 q150 Sz150 Ng150 Hs150 Gs150 rfl W151 1 rfl (Nat.le_of_ble_eq_true rfl)
          have N151 := Fr.snoc X151 N137 g_ar
          obtain ⟨T152, h152, X152, e152, W152, st152⟩ := putF X151 hx hZ hown (host := "") (Or.inl (hw _ (List.mem_of_getElem? (i := 17) rfl))) Via.refl e151 Fs Ea (Or.inl (hw _ (List.mem_of_getElem? (i := 18) rfl))) (hw _ (List.mem_of_getElem? (i := 1) rfl)) (ty := .int) (by decide) rfl rfl (g := (mkF m 131 #[.val (.ref a1), .val (.double dx), .second, .val (.double hi2), .second, .val (.int (2 : Int32)), .val (.int (3 : Int32)), .val (.double (own_snd hi1 q2)), .second, .val (.double hi2), .second, .val (.double lo2), .second] [(.int (2 : Int32)), (.ref a1)])) rfl rfl (hb hby d_prog_8_2_131)
          replace Ea := Ea.wr W152
          replace Fp := Fp.other W152 (Or.inr (slot_ne (Or.inl (hw _ (List.mem_of_getElem? (i := 11) rfl))) (Or.inl (hw _ (List.mem_of_getElem? (i := 18) rfl))) (by decide) (t := (.array .double)) (t' := .int) (by decide) (by decide)))
          replace Va := Va.other W152 (Ne.symm hne)
          have Zs152 := Nat.le_trans Zs151 (Keep.of_wr W152).1
          replace KK := KK.wr W152 (Or.inl (by simp))
          replace Fs := Fs.same W152
          have N152 := Fr.snoc X152 N151 g_a1
          obtain ⟨fs, hr, hrun, hended, hW, hsame⟩ := X152.leave (v := none) (fun _ => rfl) hlk
          refine ⟨_, _, ?_, hrun, hended, _, _, rfl, ?_, ⟨_, rfl⟩, hW, hsame.mono (by decide) (by decide)⟩
          · refine hA0 _ ?_
            refine k145 _ ?_
            refine own_f_ifYes X142.here hx (hb hby d_prog_8_2_68) ((if0 _ _).trans (teq (hz2)).1) (by decide) (by decide : _ = 83) ?_
            refine own_f_dload X142.here hx (hb hby d_prog_8_2_83) rfl (rfl : _ = 85) ?_
            refine own_f_dstoreN X142.here hx (hb hby d_prog_8_2_85) (rfl : storeLocals _ _ _ = some #[.val (.ref a1), .val (.double dx), .second, .val (.double hi2), .second, .val (.int (1 : Int32)), .val (.int (2 : Int32)), .val (.double (own_snd hi1 q2)), .second, .val (.double hi2), .second, .val (.double lo2), .second]) (rfl : _ = 86) ?_
            refine own_f_iinc X142.here hx (hb hby d_prog_8_2_86) rfl (rfl : storeLocals _ _ _ = some #[.val (.ref a1), .val (.double dx), .second, .val (.double hi2), .second, .val (.int (1 : Int32)), .val (.int (3 : Int32)), .val (.double (own_snd hi1 q2)), .second, .val (.double hi2), .second, .val (.double lo2), .second]) (rfl : _ = 89) ?_
            refine own_f_goto X142.here hx (hb hby d_prog_8_2_89) (by decide) (by decide : _ = 8) ?_
            refine own_f_iload X142.here hx (hb hby d_prog_8_2_8) rfl (rfl : _ = 10) ?_
            refine own_f_aloadN X142.here hx (hb hby d_prog_8_2_10) rfl rfl (rfl : _ = 11) ?_
            refine st146 _ ?_
            show Steps p.tables e below (T146.setTop (mkF m 14 #[.val (.ref a1), .val (.double dx), .second, .val (.double hi2), .second, .val (.int (1 : Int32)), .val (.int (3 : Int32)), .val (.double (own_snd hi1 q2)), .second, .val (.double hi2), .second, .val (.double lo2), .second] [(.int (3 : Int32)), (.int (3 : Int32))])) _
            refine own_f_icmpYes X146.here hx (hb hby d_prog_8_2_14) (flt (by decide)).2.1 (by decide) (by decide : _ = 92) ?_
            refine own_f_iload X146.here hx (hb hby d_prog_8_2_92) rfl (rfl : _ = 94) ?_
            refine own_f_aloadN X146.here hx (hb hby d_prog_8_2_94) rfl rfl (rfl : _ = 95) ?_
            refine st147 _ ?_
            show Steps p.tables e below (T147.setTop (mkF m 98 #[.val (.ref a1), .val (.double dx), .second, .val (.double hi2), .second, .val (.int (1 : Int32)), .val (.int (3 : Int32)), .val (.double (own_snd hi1 q2)), .second, .val (.double hi2), .second, .val (.double lo2), .second] [(.ref ar), (.int (1 : Int32))])) _
            refine X147.arraylength hx (by rw [e147]; exact Ar148.1) (State.isArrayOf_alike hZ.alike Ar148.2.1) (g := (mkF m 98 #[.val (.ref a1), .val (.double dx), .second, .val (.double hi2), .second, .val (.int (1 : Int32)), .val (.int (3 : Int32)), .val (.double (own_snd hi1 q2)), .second, .val (.double hi2), .second, .val (.double lo2), .second] [(.ref ar), (.int (1 : Int32))])) rfl rfl (hb hby d_prog_8_2_98) _ ?_
            rw [len_of Sz148 Ng148]
            show Steps p.tables e below (T147.setTop (mkF m 99 #[.val (.ref a1), .val (.double dx), .second, .val (.double hi2), .second, .val (.int (1 : Int32)), .val (.int (3 : Int32)), .val (.double (own_snd hi1 q2)), .second, .val (.double hi2), .second, .val (.double lo2), .second] [(.int (4 : Int32)), (.int (1 : Int32))])) _
            refine own_f_icmpYes X147.here hx (hb hby d_prog_8_2_99) (feq (by decide)).2 (by decide) (by decide : _ = 117) ?_
            refine own_f_aloadN X147.here hx (hb hby d_prog_8_2_117) rfl rfl (rfl : _ = 118) ?_
            refine st149 _ ?_
            show Steps p.tables e below (T149.setTop (mkF m 121 #[.val (.ref a1), .val (.double dx), .second, .val (.double hi2), .second, .val (.int (1 : Int32)), .val (.int (3 : Int32)), .val (.double (own_snd hi1 q2)), .second, .val (.double hi2), .second, .val (.double lo2), .second] [(.ref ar)])) _
            refine own_f_iload X149.here hx (hb hby d_prog_8_2_121) rfl (rfl : _ = 123) ?_
            refine own_f_iinc X149.here hx (hb hby d_prog_8_2_123) rfl (rfl : storeLocals _ _ _ = some #[.val (.ref a1), .val (.double dx), .second, .val (.double hi2), .second, .val (.int (2 : Int32)), .val (.int (3 : Int32)), .val (.double (own_snd hi1 q2)), .second, .val (.double hi2), .second, .val (.double lo2), .second]) (rfl : _ = 126) ?_
            refine own_f_dloadN X149.here hx (hb hby d_prog_8_2_126) rfl (rfl : _ = 127) ?_
            refine st151 _ ?_
            show Steps p.tables e below (T151.setTop (mkF m 128 #[.val (.ref a1), .val (.double dx), .second, .val (.double hi2), .second, .val (.int (2 : Int32)), .val (.int (3 : Int32)), .val (.double (own_snd hi1 q2)), .second, .val (.double hi2), .second, .val (.double lo2), .second] [])) _
            refine own_f_aloadN X151.here hx (hb hby d_prog_8_2_128) rfl rfl (rfl : _ = 129) ?_
            refine own_f_iload X151.here hx (hb hby d_prog_8_2_129) rfl (rfl : _ = 131) ?_
            refine st152 _ ?_
            show Steps p.tables e below (T152.setTop (mkF m 134 #[.val (.ref a1), .val (.double dx), .second, .val (.double hi2), .second, .val (.int (2 : Int32)), .val (.int (3 : Int32)), .val (.double (own_snd hi1 q2)), .second, .val (.double hi2), .second, .val (.double lo2), .second] [])) _
            exact X152.returnOut hx Bd.returns (hb hby d_prog_8_2_134) hr
          · show Q2 Z a1 dx _ ar kc q0 q1 q2 q3 _ h0 n0 _ T152.heap _
            rw [e152]
            exact ⟨(2 : Int32), lo1, hi2, q2, q3, rfl, N152, KK, Fp, Fs, Va, own_res (M := [lo1, hi2]) (by rw [own_ins_d hlo0 hhi0 hz0, own_ins_c hlo1 hhi1 hz1, own_ins_d hlo2 hhi2 hz2]; rfl) (by show Int32.toInt 2 = ((2 : Nat) : Int); decide) rfl⟩
        · obtain ⟨T153, X153, e153, st153⟩ := getF X142 hx hZ hown (host := "") (Or.inl (hw _ (List.mem_of_getElem? (i := 10) rfl))) Via.refl e142 Fp (g := (mkF m 72 #[.val (.ref a1), .val (.double dx), .second, .val (.double (own_fst hi1 q2)), .second, .val (.int (1 : Int32)), .val (.int (2 : Int32)), .val (.double (own_snd hi1 q2)), .second, .val (.double hi2), .second, .val (.double lo2), .second] [(.ref a1)])) rfl rfl (hb hby d_prog_8_2_72)
          obtain ⟨cl154, Ar154, q154, Sz154, Ng154, Hs154, Gs154⟩ := Va
          have hin154 : ¬ ((1 : Int32) < 0 ∨ cl154.slots.size ≤ ((1 : Int32)).toNatClampNeg) := inb_of Sz154 ⟨by decide, by decide⟩
          obtain ⟨T155, h155, X155, e155, W155, st155⟩ := stD X153 hx hZ e153 Ar154 (j := (1 : Int32)) hin154 (g := (mkF m 82 #[.val (.ref a1), .val (.double dx), .second, .val (.double (own_fst hi1 q2)), .second, .val (.int (2 : Int32)), .val (.int (2 : Int32)), .val (.double (own_snd hi1 q2)), .second, .val (.double hi2), .second, .val (.double lo2), .second] [(.double lo2), (.int (1 : Int32)), (.ref ar)])) rfl rfl (hb hby d_prog_8_2_82)
          replace Ea := Ea.wr W155
          replace Fp := Fp.other W155 (Or.inl hne)
          replace Fs := Fs.other W155 (Or.inl hne)
          have Zs155 := Nat.le_trans Zs137 (Keep.of_wr W155).1
          replace KK := KK.wr W155 (Or.inl (by simp))
          have Va : Arv Z h155 ar kc .double (4 : Int32) [(.double lo1), (.double lo2), (.double q2), (.double q3)] (.double (0 : UInt64)) := Arv.set Ar154 q154 Sz154 Ng154 Hs154 Gs154 rfl W155 1 rfl (Nat.le_of_ble_eq_true rfl)
          have N155 := Fr.snoc X155 N137 g_ar
          obtain ⟨T156, X156, e156, st156⟩ := getF X155 hx hZ hown (host := "") (Or.inl (hw _ (List.mem_of_getElem? (i := 17) rfl))) Via.refl e155 Fs (g := (mkF m 11 #[.val (.ref a1), .val (.double dx), .second, .val (.double hi2), .second, .val (.int (2 : Int32)), .val (.int (3 : Int32)), .val (.double (own_snd hi1 q2)), .second, .val (.double hi2), .second, .val (.double lo2), .second] [(.ref a1), (.int (3 : Int32))])) rfl rfl (hb hby d_prog_8_2_11)
          obtain ⟨T157, X157, e157, st157⟩ := getF X156 hx hZ hown (host := "") (Or.inl (hw _ (List.mem_of_getElem? (i := 10) rfl))) Via.refl e156 Fp (g := (mkF m 95 #[.val (.ref a1), .val (.double dx), .second, .val (.double hi2), .second, .val (.int (2 : Int32)), .val (.int (3 : Int32)), .val (.double (own_snd hi1 q2)), .second, .val (.double hi2), .second, .val (.double lo2), .second] [(.ref a1), (.int (2 : Int32))])) rfl rfl (hb hby d_prog_8_2_95)
          obtain ⟨cl158, Ar158, -, Sz158, Ng158, -, -⟩ := id Va
          obtain ⟨T159, X159, e159, st159⟩ := getF X157 hx hZ hown (host := "") (Or.inl (hw _ (List.mem_of_getElem? (i := 10) rfl))) Via.refl e157 Fp (g := (mkF m 118 #[.val (.ref a1), .val (.double dx), .second, .val (.double hi2), .second, .val (.int (2 : Int32)), .val (.int (3 : Int32)), .val (.double (own_snd hi1 q2)), .second, .val (.double hi2), .second, .val (.double lo2), .second] [(.ref a1)])) rfl rfl (hb hby d_prog_8_2_118)
          obtain ⟨cl160, Ar160, q160, Sz160, Ng160, Hs160, Gs160⟩ := Va
          have hin160 : ¬ ((2 : Int32) < 0 ∨ cl160.slots.size ≤ ((2 : Int32)).toNatClampNeg) := inb_of Sz160 ⟨by decide, by decide⟩
          obtain ⟨T161, h161, X161, e161, W161, st161⟩ := stD X159 hx hZ e159 Ar160 (j := (2 : Int32)) hin160 (g := (mkF m 127 #[.val (.ref a1), .val (.double dx), .second, .val (.double hi2), .second, .val (.int (3 : Int32)), .val (.int (3 : Int32)), .val (.double (own_snd hi1 q2)), .second, .val (.double hi2), .second, .val (.double lo2), .second] [(.double hi2), (.int (2 : Int32)), (.ref ar)])) rfl rfl (hb hby d_prog_8_2_127)
          replace Ea := Ea.wr W161
          replace Fp := Fp.other W161 (Or.inl hne)
          replace Fs := Fs.other W161 (Or.inl hne)
          have Zs161 := Nat.le_trans Zs155 (Keep.of_wr W161).1
          replace KK := KK.wr W161 (Or.inl (by simp))
          have Va : Arv Z h161 ar kc .double (4 : Int32) [(.double lo1), (.double lo2), (.double hi2), (.double q3)] (.double (0 : UInt64)) := Arv.set Ar160 q160 Sz160 Ng160 Hs160 Gs160 rfl W161 2 rfl (Nat.le_of_ble_eq_true rfl)
          have N161 := Fr.snoc X161 N155 g_ar
          obtain ⟨T162, h162, X162, e162, W162, st162⟩ := putF X161 hx hZ hown (host := "") (Or.inl (hw _ (List.mem_of_getElem? (i := 17) rfl))) Via.refl e161 Fs Ea (Or.inl (hw _ (List.mem_of_getElem? (i := 18) rfl))) (hw _ (List.mem_of_getElem? (i := 1) rfl)) (ty := .int) (by decide) rfl rfl (g := (mkF m 131 #[.val (.ref a1), .val (.double dx), .second, .val (.double hi2), .second, .val (.int (3 : Int32)), .val (.int (3 : Int32)), .val (.double (own_snd hi1 q2)), .second, .val (.double hi2), .second, .val (.double lo2), .second] [(.int (3 : Int32)), (.ref a1)])) rfl rfl (hb hby d_prog_8_2_131)
          replace Ea := Ea.wr W162
          replace Fp := Fp.other W162 (Or.inr (slot_ne (Or.inl (hw _ (List.mem_of_getElem? (i := 11) rfl))) (Or.inl (hw _ (List.mem_of_getElem? (i := 18) rfl))) (by decide) (t := (.array .double)) (t' := .int) (by decide) (by decide)))
          replace Va := Va.other W162 (Ne.symm hne)
          have Zs162 := Nat.le_trans Zs161 (Keep.of_wr W162).1
          replace KK := KK.wr W162 (Or.inl (by simp))
          replace Fs := Fs.same W162
          have N162 := Fr.snoc X162 N161 g_a1
          obtain ⟨fs, hr, hrun, hended, hW, hsame⟩ := X162.leave (v := none) (fun _ => rfl) hlk
          refine ⟨_, _, ?_, hrun, hended, _, _, rfl, ?_, ⟨_, rfl⟩, hW, hsame.mono (by decide) (by decide)⟩
          · refine hA0 _ ?_
            refine k145 _ ?_
            refine own_f_ifNo X142.here hx (hb hby d_prog_8_2_68) ((if0 _ _).trans (feq (hz2)).1) (rfl : _ = 71) ?_
            refine own_f_aloadN X142.here hx (hb hby d_prog_8_2_71) rfl rfl (rfl : _ = 72) ?_
            refine st153 _ ?_
            show Steps p.tables e below (T153.setTop (mkF m 75 #[.val (.ref a1), .val (.double dx), .second, .val (.double (own_fst hi1 q2)), .second, .val (.int (1 : Int32)), .val (.int (2 : Int32)), .val (.double (own_snd hi1 q2)), .second, .val (.double hi2), .second, .val (.double lo2), .second] [(.ref ar)])) _
            refine own_f_iload X153.here hx (hb hby d_prog_8_2_75) rfl (rfl : _ = 77) ?_
            refine own_f_iinc X153.here hx (hb hby d_prog_8_2_77) rfl (rfl : storeLocals _ _ _ = some #[.val (.ref a1), .val (.double dx), .second, .val (.double (own_fst hi1 q2)), .second, .val (.int (2 : Int32)), .val (.int (2 : Int32)), .val (.double (own_snd hi1 q2)), .second, .val (.double hi2), .second, .val (.double lo2), .second]) (rfl : _ = 80) ?_
            refine own_f_dload X153.here hx (hb hby d_prog_8_2_80) rfl (rfl : _ = 82) ?_
            refine st155 _ ?_
            show Steps p.tables e below (T155.setTop (mkF m 83 #[.val (.ref a1), .val (.double dx), .second, .val (.double (own_fst hi1 q2)), .second, .val (.int (2 : Int32)), .val (.int (2 : Int32)), .val (.double (own_snd hi1 q2)), .second, .val (.double hi2), .second, .val (.double lo2), .second] [])) _
            refine own_f_dload X155.here hx (hb hby d_prog_8_2_83) rfl (rfl : _ = 85) ?_
            refine own_f_dstoreN X155.here hx (hb hby d_prog_8_2_85) (rfl : storeLocals _ _ _ = some #[.val (.ref a1), .val (.double dx), .second, .val (.double hi2), .second, .val (.int (2 : Int32)), .val (.int (2 : Int32)), .val (.double (own_snd hi1 q2)), .second, .val (.double hi2), .second, .val (.double lo2), .second]) (rfl : _ = 86) ?_
            refine own_f_iinc X155.here hx (hb hby d_prog_8_2_86) rfl (rfl : storeLocals _ _ _ = some #[.val (.ref a1), .val (.double dx), .second, .val (.double hi2), .second, .val (.int (2 : Int32)), .val (.int (3 : Int32)), .val (.double (own_snd hi1 q2)), .second, .val (.double hi2), .second, .val (.double lo2), .second]) (rfl : _ = 89) ?_
            refine own_f_goto X155.here hx (hb hby d_prog_8_2_89) (by decide) (by decide : _ = 8) ?_
            refine own_f_iload X155.here hx (hb hby d_prog_8_2_8) rfl (rfl : _ = 10) ?_
            refine own_f_aloadN X155.here hx (hb hby d_prog_8_2_10) rfl rfl (rfl : _ = 11) ?_
            refine st156 _ ?_
            show Steps p.tables e below (T156.setTop (mkF m 14 #[.val (.ref a1), .val (.double dx), .second, .val (.double hi2), .second, .val (.int (2 : Int32)), .val (.int (3 : Int32)), .val (.double (own_snd hi1 q2)), .second, .val (.double hi2), .second, .val (.double lo2), .second] [(.int (3 : Int32)), (.int (3 : Int32))])) _
            refine own_f_icmpYes X156.here hx (hb hby d_prog_8_2_14) (flt (by decide)).2.1 (by decide) (by decide : _ = 92) ?_
            refine own_f_iload X156.here hx (hb hby d_prog_8_2_92) rfl (rfl : _ = 94) ?_
            refine own_f_aloadN X156.here hx (hb hby d_prog_8_2_94) rfl rfl (rfl : _ = 95) ?_
            refine st157 _ ?_
            show Steps p.tables e below (T157.setTop (mkF m 98 #[.val (.ref a1), .val (.double dx), .second, .val (.double hi2), .second, .val (.int (2 : Int32)), .val (.int (3 : Int32)), .val (.double (own_snd hi1 q2)), .second, .val (.double hi2), .second, .val (.double lo2), .second] [(.ref ar), (.int (2 : Int32))])) _
            refine X157.arraylength hx (by rw [e157]; exact Ar158.1) (State.isArrayOf_alike hZ.alike Ar158.2.1) (g := (mkF m 98 #[.val (.ref a1), .val (.double dx), .second, .val (.double hi2), .second, .val (.int (2 : Int32)), .val (.int (3 : Int32)), .val (.double (own_snd hi1 q2)), .second, .val (.double hi2), .second, .val (.double lo2), .second] [(.ref ar), (.int (2 : Int32))])) rfl rfl (hb hby d_prog_8_2_98) _ ?_
            rw [len_of Sz158 Ng158]
            show Steps p.tables e below (T157.setTop (mkF m 99 #[.val (.ref a1), .val (.double dx), .second, .val (.double hi2), .second, .val (.int (2 : Int32)), .val (.int (3 : Int32)), .val (.double (own_snd hi1 q2)), .second, .val (.double hi2), .second, .val (.double lo2), .second] [(.int (4 : Int32)), (.int (2 : Int32))])) _
            refine own_f_icmpYes X157.here hx (hb hby d_prog_8_2_99) (feq (by decide)).2 (by decide) (by decide : _ = 117) ?_
            refine own_f_aloadN X157.here hx (hb hby d_prog_8_2_117) rfl rfl (rfl : _ = 118) ?_
            refine st159 _ ?_
            show Steps p.tables e below (T159.setTop (mkF m 121 #[.val (.ref a1), .val (.double dx), .second, .val (.double hi2), .second, .val (.int (2 : Int32)), .val (.int (3 : Int32)), .val (.double (own_snd hi1 q2)), .second, .val (.double hi2), .second, .val (.double lo2), .second] [(.ref ar)])) _
            refine own_f_iload X159.here hx (hb hby d_prog_8_2_121) rfl (rfl : _ = 123) ?_
            refine own_f_iinc X159.here hx (hb hby d_prog_8_2_123) rfl (rfl : storeLocals _ _ _ = some #[.val (.ref a1), .val (.double dx), .second, .val (.double hi2), .second, .val (.int (3 : Int32)), .val (.int (3 : Int32)), .val (.double (own_snd hi1 q2)), .second, .val (.double hi2), .second, .val (.double lo2), .second]) (rfl : _ = 126) ?_
            refine own_f_dloadN X159.here hx (hb hby d_prog_8_2_126) rfl (rfl : _ = 127) ?_
            refine st161 _ ?_
            show Steps p.tables e below (T161.setTop (mkF m 128 #[.val (.ref a1), .val (.double dx), .second, .val (.double hi2), .second, .val (.int (3 : Int32)), .val (.int (3 : Int32)), .val (.double (own_snd hi1 q2)), .second, .val (.double hi2), .second, .val (.double lo2), .second] [])) _
            refine own_f_aloadN X161.here hx (hb hby d_prog_8_2_128) rfl rfl (rfl : _ = 129) ?_
            refine own_f_iload X161.here hx (hb hby d_prog_8_2_129) rfl (rfl : _ = 131) ?_
            refine st162 _ ?_
            show Steps p.tables e below (T162.setTop (mkF m 134 #[.val (.ref a1), .val (.double dx), .second, .val (.double hi2), .second, .val (.int (3 : Int32)), .val (.int (3 : Int32)), .val (.double (own_snd hi1 q2)), .second, .val (.double hi2), .second, .val (.double lo2), .second] [])) _
            exact X162.returnOut hx Bd.returns (hb hby d_prog_8_2_134) hr
          · show Q2 Z a1 dx _ ar kc q0 q1 q2 q3 _ h0 n0 _ T162.heap _
            rw [e162]
            exact ⟨(3 : Int32), lo1, lo2, hi2, q3, rfl, N162, KK, Fp, Fs, Va, own_res (M := [lo1, lo2, hi2]) (by rw [own_ins_d hlo0 hhi0 hz0, own_ins_c hlo1 hhi1 hz1, own_ins_c hlo2 hhi2 hz2]; rfl) (by show Int32.toInt 3 = ((3 : Nat) : Int); decide) rfl⟩
    · obtain ⟨T163, X163, e163, st163⟩ := getF X98 hx hZ hown (host := "") (Or.inl (hw _ (List.mem_of_getElem? (i := 10) rfl))) Via.refl e98 Fp (g := (mkF m 72 #[.val (.ref a1), .val (.double dx), .second, .val (.double (own_fst dx q0)), .second, .val (.int (0 : Int32)), .val (.int (0 : Int32)), .val (.double (own_snd dx q0)), .second, .val (.double hi0), .second, .val (.double lo0), .second] [(.ref a1)])) rfl rfl (hb hby d_prog_8_2_72)
      obtain ⟨cl164, Ar164, q164, Sz164, Ng164, Hs164, Gs164⟩ := Va
      have hin164 : ¬ ((0 : Int32) < 0 ∨ cl164.slots.size ≤ ((0 : Int32)).toNatClampNeg) := inb_of Sz164 ⟨by decide, by decide⟩
      obtain ⟨T165, h165, X165, e165, W165, st165⟩ := stD X163 hx hZ e163 Ar164 (j := (0 : Int32)) hin164 (g := (mkF m 82 #[.val (.ref a1), .val (.double dx), .second, .val (.double (own_fst dx q0)), .second, .val (.int (1 : Int32)), .val (.int (0 : Int32)), .val (.double (own_snd dx q0)), .second, .val (.double hi0), .second, .val (.double lo0), .second] [(.double lo0), (.int (0 : Int32)), (.ref ar)])) rfl rfl (hb hby d_prog_8_2_82)
      replace Ea := Ea.wr W165
      replace Fp := Fp.other W165 (Or.inl hne)
      replace Fs := Fs.other W165 (Or.inl hne)
      have Zs165 := Nat.le_trans Z0 (Keep.of_wr W165).1
      replace KK := KK.wr W165 (Or.inl (by simp))
      have Va : Arv Z h165 ar kc .double (4 : Int32) [(.double lo0), (.double q1), (.double q2), (.double q3)] (.double (0 : UInt64)) := Arv.set Ar164 q164 Sz164 Ng164 Hs164 Gs164 rfl W165 0 rfl (Nat.le_of_ble_eq_true rfl)
      have N165 := Fr.snoc X165 N0 g_ar
      obtain ⟨T166, X166, e166, st166⟩ := getF X165 hx hZ hown (host := "") (Or.inl (hw _ (List.mem_of_getElem? (i := 17) rfl))) Via.refl e165 Fs (g := (mkF m 11 #[.val (.ref a1), .val (.double dx), .second, .val (.double hi0), .second, .val (.int (1 : Int32)), .val (.int (1 : Int32)), .val (.double (own_snd dx q0)), .second, .val (.double hi0), .second, .val (.double lo0), .second] [(.ref a1), (.int (1 : Int32))])) rfl rfl (hb hby d_prog_8_2_11)
      obtain ⟨T167, X167, e167, st167⟩ := getF X166 hx hZ hown (host := "") (Or.inl (hw _ (List.mem_of_getElem? (i := 10) rfl))) Via.refl e166 Fp (g := (mkF m 18 #[.val (.ref a1), .val (.double dx), .second, .val (.double hi0), .second, .val (.int (1 : Int32)), .val (.int (1 : Int32)), .val (.double (own_snd dx q0)), .second, .val (.double hi0), .second, .val (.double lo0), .second] [(.ref a1)])) rfl rfl (hb hby d_prog_8_2_18)
      obtain ⟨cl168, Ar168, -, Sz168, Ng168, Hs168, -⟩ := id Va
      have hin168 : ¬ ((1 : Int32) < 0 ∨ cl168.slots.size ≤ ((1 : Int32)).toNatClampNeg) := inb_of Sz168 ⟨by decide, by decide⟩
      have hat168 : cl168.slots[((1 : Int32)).toNatClampNeg]? = some (.double q1) := Hs168 _ (Nat.lt_of_not_le fun q => hin168 (Or.inr q))
      obtain ⟨⟨nx1, nq1⟩, na1, nb1, nc1, -⟩ := own_nn hnn
      obtain ⟨T169, X169, e169, st169⟩ := natS X167 hx hZ hown (hw _ (List.mem_of_getElem? (i := 38) rfl)) (hw _ (List.mem_of_getElem? (i := 39) rfl)) (hw _ (List.mem_of_getElem? (i := 40) rfl)) (hw _ (List.mem_of_getElem? (i := 41) rfl)) (by decide) e167 (W := 0) (val' := (.double (hi0 &&& 0x7fffffffffffffff))) (fun c => Jvm.Free.Fl.Abs.absD_pays hi0 c (by decide) (by decide)) (g := (mkF m 27 #[.val (.ref a1), .val (.double dx), .second, .val (.double hi0), .second, .val (.int (1 : Int32)), .val (.int (1 : Int32)), .val (.double q1), .second, .val (.double hi0), .second, .val (.double lo0), .second] [(.double hi0)])) rfl (by rw [hml]; rfl) (argsL := [(.double hi0)]) (rest := []) (lenOf pd_0 rfl) rfl (by show 2 * 0 + _ ≤ _; exact Nat.le_of_eq rfl) (hb hby d_prog_8_2_27) (by decide) (by decide) ⟨rfl, nx1⟩ rfl
      obtain ⟨T170, X170, e170, st170⟩ := natS X169 hx hZ hown (hw _ (List.mem_of_getElem? (i := 38) rfl)) (hw _ (List.mem_of_getElem? (i := 39) rfl)) (hw _ (List.mem_of_getElem? (i := 40) rfl)) (hw _ (List.mem_of_getElem? (i := 41) rfl)) (by decide) e169 (W := 2) (val' := (.double (q1 &&& 0x7fffffffffffffff))) (fun c => Jvm.Free.Fl.Abs.absD_pays q1 c (by decide) (by decide)) (g := (mkF m 32 #[.val (.ref a1), .val (.double dx), .second, .val (.double hi0), .second, .val (.int (1 : Int32)), .val (.int (1 : Int32)), .val (.double q1), .second, .val (.double hi0), .second, .val (.double lo0), .second] [(.double q1), (.double (hi0 &&& 0x7fffffffffffffff))])) rfl (by rw [hml]; rfl) (argsL := [(.double q1)]) (rest := [(.double (hi0 &&& 0x7fffffffffffffff))]) (lenOf pd_0 rfl) rfl (by show 2 * 0 + _ ≤ _; exact Nat.le_of_eq rfl) (hb hby d_prog_8_2_32) (by decide) (by decide) ⟨rfl, nq1⟩ rfl
      have k171 : ∀ t_, Steps p.tables e below (T170.setTop (mkF m 36 #[.val (.ref a1), .val (.double dx), .second, .val (.double hi0), .second, .val (.int (1 : Int32)), .val (.int (1 : Int32)), .val (.double q1), .second, .val (.double hi0), .second, .val (.double lo0), .second] [(.int (cmpValue (FP.dcmp (hi0 &&& 0x7fffffffffffffff) (q1 &&& 0x7fffffffffffffff)) .g))])) t_ → Steps p.tables e below A t_ := by
        intro t_ ht_
        refine k101 t_ ?_
        refine own_f_ifNo X98.here hx (hb hby d_prog_8_2_68) ((if0 _ _).trans (feq (hz0)).1) (rfl : _ = 71) ?_
        refine own_f_aloadN X98.here hx (hb hby d_prog_8_2_71) rfl rfl (rfl : _ = 72) ?_
        refine st163 _ ?_
        show Steps p.tables e below (T163.setTop (mkF m 75 #[.val (.ref a1), .val (.double dx), .second, .val (.double (own_fst dx q0)), .second, .val (.int (0 : Int32)), .val (.int (0 : Int32)), .val (.double (own_snd dx q0)), .second, .val (.double hi0), .second, .val (.double lo0), .second] [(.ref ar)])) t_
        refine own_f_iload X163.here hx (hb hby d_prog_8_2_75) rfl (rfl : _ = 77) ?_
        refine own_f_iinc X163.here hx (hb hby d_prog_8_2_77) rfl (rfl : storeLocals _ _ _ = some #[.val (.ref a1), .val (.double dx), .second, .val (.double (own_fst dx q0)), .second, .val (.int (1 : Int32)), .val (.int (0 : Int32)), .val (.double (own_snd dx q0)), .second, .val (.double hi0), .second, .val (.double lo0), .second]) (rfl : _ = 80) ?_
        refine own_f_dload X163.here hx (hb hby d_prog_8_2_80) rfl (rfl : _ = 82) ?_
        refine st165 _ ?_
        show Steps p.tables e below (T165.setTop (mkF m 83 #[.val (.ref a1), .val (.double dx), .second, .val (.double (own_fst dx q0)), .second, .val (.int (1 : Int32)), .val (.int (0 : Int32)), .val (.double (own_snd dx q0)), .second, .val (.double hi0), .second, .val (.double lo0), .second] [])) t_
        refine own_f_dload X165.here hx (hb hby d_prog_8_2_83) rfl (rfl : _ = 85) ?_
        refine own_f_dstoreN X165.here hx (hb hby d_prog_8_2_85) (rfl : storeLocals _ _ _ = some #[.val (.ref a1), .val (.double dx), .second, .val (.double hi0), .second, .val (.int (1 : Int32)), .val (.int (0 : Int32)), .val (.double (own_snd dx q0)), .second, .val (.double hi0), .second, .val (.double lo0), .second]) (rfl : _ = 86) ?_
        refine own_f_iinc X165.here hx (hb hby d_prog_8_2_86) rfl (rfl : storeLocals _ _ _ = some #[.val (.ref a1), .val (.double dx), .second, .val (.double hi0), .second, .val (.int (1 : Int32)), .val (.int (1 : Int32)), .val (.double (own_snd dx q0)), .second, .val (.double hi0), .second, .val (.double lo0), .second]) (rfl : _ = 89) ?_
        refine own_f_goto X165.here hx (hb hby d_prog_8_2_89) (by decide) (by decide : _ = 8) ?_
        refine own_f_iload X165.here hx (hb hby d_prog_8_2_8) rfl (rfl : _ = 10) ?_
        refine own_f_aloadN X165.here hx (hb hby d_prog_8_2_10) rfl rfl (rfl : _ = 11) ?_
        refine st166 _ ?_
        show Steps p.tables e below (T166.setTop (mkF m 14 #[.val (.ref a1), .val (.double dx), .second, .val (.double hi0), .second, .val (.int (1 : Int32)), .val (.int (1 : Int32)), .val (.double (own_snd dx q0)), .second, .val (.double hi0), .second, .val (.double lo0), .second] [(.int (3 : Int32)), (.int (1 : Int32))])) t_
        refine own_f_icmpNo X166.here hx (hb hby d_prog_8_2_14) (tlt (by decide)).2.1 (rfl : _ = 17) ?_
        refine own_f_aloadN X166.here hx (hb hby d_prog_8_2_17) rfl rfl (rfl : _ = 18) ?_
        refine st167 _ ?_
        show Steps p.tables e below (T167.setTop (mkF m 21 #[.val (.ref a1), .val (.double dx), .second, .val (.double hi0), .second, .val (.int (1 : Int32)), .val (.int (1 : Int32)), .val (.double (own_snd dx q0)), .second, .val (.double hi0), .second, .val (.double lo0), .second] [(.ref ar)])) t_
        refine own_f_iload X167.here hx (hb hby d_prog_8_2_21) rfl (rfl : _ = 23) ?_
        refine X167.daload hx (j := (1 : Int32)) (v := (.double q1)) (by rw [e167]; exact Ar168.1) (State.isArrayOf_alike hZ.alike Ar168.2.1) Ar168.2.2 hin168 hat168 (g := (mkF m 23 #[.val (.ref a1), .val (.double dx), .second, .val (.double hi0), .second, .val (.int (1 : Int32)), .val (.int (1 : Int32)), .val (.double (own_snd dx q0)), .second, .val (.double hi0), .second, .val (.double lo0), .second] [(.int (1 : Int32)), (.ref ar)])) rfl rfl (hb hby d_prog_8_2_23) _ ?_
        show Steps p.tables e below (T167.setTop (mkF m 24 #[.val (.ref a1), .val (.double dx), .second, .val (.double hi0), .second, .val (.int (1 : Int32)), .val (.int (1 : Int32)), .val (.double (own_snd dx q0)), .second, .val (.double hi0), .second, .val (.double lo0), .second] [(.double q1)])) t_
        refine own_f_dstore X167.here hx (hb hby d_prog_8_2_24) (rfl : storeLocals _ _ _ = some #[.val (.ref a1), .val (.double dx), .second, .val (.double hi0), .second, .val (.int (1 : Int32)), .val (.int (1 : Int32)), .val (.double q1), .second, .val (.double hi0), .second, .val (.double lo0), .second]) (rfl : _ = 26) ?_
        refine own_f_dloadN X167.here hx (hb hby d_prog_8_2_26) rfl (rfl : _ = 27) ?_
        refine st169 _ ?_
        show Steps p.tables e below (T169.setTop (mkF m 30 #[.val (.ref a1), .val (.double dx), .second, .val (.double hi0), .second, .val (.int (1 : Int32)), .val (.int (1 : Int32)), .val (.double q1), .second, .val (.double hi0), .second, .val (.double lo0), .second] [(.double (hi0 &&& 0x7fffffffffffffff))])) t_
        refine own_f_dload X169.here hx (hb hby d_prog_8_2_30) rfl (rfl : _ = 32) ?_
        refine st170 _ ?_
        show Steps p.tables e below (T170.setTop (mkF m 35 #[.val (.ref a1), .val (.double dx), .second, .val (.double hi0), .second, .val (.int (1 : Int32)), .val (.int (1 : Int32)), .val (.double q1), .second, .val (.double hi0), .second, .val (.double lo0), .second] [(.double (q1 &&& 0x7fffffffffffffff)), (.double (hi0 &&& 0x7fffffffffffffff))])) t_
        refine own_f_dcmp X170.here hx (hb hby d_prog_8_2_35) rfl (rfl : _ = 36) ?_
        exact ht_
      have k172 : ∀ t_, Steps p.tables e below (T170.setTop (mkF m 64 #[.val (.ref a1), .val (.double dx), .second, .val (.double (own_fst hi0 q1)), .second, .val (.int (1 : Int32)), .val (.int (1 : Int32)), .val (.double (own_snd hi0 q1)), .second, .val (.double (FP.dadd (own_fst hi0 q1) (own_snd hi0 q1))), .second, .val (.double (own_lo (own_fst hi0 q1) (own_snd hi0 q1))), .second] [])) t_ → Steps p.tables e below A t_ := by
        intro t_ ht_
        refine k171 t_ ?_
        by_cases hsw : own_lt hi0 q1
        · have e1 : own_fst hi0 q1 = q1 := if_pos hsw
          have e2 : own_snd hi0 q1 = hi0 := if_pos hsw
          rw [e1, e2] at ht_ na1 nb1 nc1
          have hs_ : (cmpValue (FP.dcmp (hi0 &&& 0x7fffffffffffffff) (q1 &&& 0x7fffffffffffffff)) .g) < (0 : Int32) := hsw
          refine own_f_ifNo X170.here hx (hb hby d_prog_8_2_36) ((if0 _ _).trans (tlt (hs_)).2.1) (rfl : _ = 39) ?_
          refine own_f_dload X170.here hx (hb hby d_prog_8_2_39) rfl (rfl : _ = 41) ?_
          refine own_f_dstore X170.here hx (hb hby d_prog_8_2_41) (rfl : storeLocals _ _ _ = some #[.val (.ref a1), .val (.double dx), .second, .val (.double hi0), .second, .val (.int (1 : Int32)), .val (.int (1 : Int32)), .val (.double q1), .second, .val (.double q1), .second, .val (.double lo0), .second]) (rfl : _ = 43) ?_
          refine own_f_dloadN X170.here hx (hb hby d_prog_8_2_43) rfl (rfl : _ = 44) ?_
          refine own_f_dstore X170.here hx (hb hby d_prog_8_2_44) (rfl : storeLocals _ _ _ = some #[.val (.ref a1), .val (.double dx), .second, .val (.double hi0), .second, .val (.int (1 : Int32)), .val (.int (1 : Int32)), .val (.double hi0), .second, .val (.double q1), .second, .val (.double lo0), .second]) (rfl : _ = 46) ?_
          refine own_f_dload X170.here hx (hb hby d_prog_8_2_46) rfl (rfl : _ = 48) ?_
          refine own_f_dstoreN X170.here hx (hb hby d_prog_8_2_48) (rfl : storeLocals _ _ _ = some #[.val (.ref a1), .val (.double dx), .second, .val (.double q1), .second, .val (.int (1 : Int32)), .val (.int (1 : Int32)), .val (.double hi0), .second, .val (.double q1), .second, .val (.double lo0), .second]) (rfl : _ = 49) ?_
          refine own_f_dloadN X170.here hx (hb hby d_prog_8_2_49) rfl (rfl : _ = 50) ?_
          refine own_f_dload X170.here hx (hb hby d_prog_8_2_50) rfl (rfl : _ = 52) ?_
          refine own_f_dadd X170.here hx (hb hby d_prog_8_2_52) (na1) rfl (rfl : _ = 53) ?_
          refine own_f_dstore X170.here hx (hb hby d_prog_8_2_53) (rfl : storeLocals _ _ _ = some #[.val (.ref a1), .val (.double dx), .second, .val (.double q1), .second, .val (.int (1 : Int32)), .val (.int (1 : Int32)), .val (.double hi0), .second, .val (.double (FP.dadd q1 hi0)), .second, .val (.double lo0), .second]) (rfl : _ = 55) ?_
          refine own_f_dload X170.here hx (hb hby d_prog_8_2_55) rfl (rfl : _ = 57) ?_
          refine own_f_dload X170.here hx (hb hby d_prog_8_2_57) rfl (rfl : _ = 59) ?_
          refine own_f_dloadN X170.here hx (hb hby d_prog_8_2_59) rfl (rfl : _ = 60) ?_
          refine own_f_dsub X170.here hx (hb hby d_prog_8_2_60) (nb1) rfl (rfl : _ = 61) ?_
          refine own_f_dsub X170.here hx (hb hby d_prog_8_2_61) (nc1) rfl (rfl : _ = 62) ?_
          refine own_f_dstore X170.here hx (hb hby d_prog_8_2_62) (rfl : storeLocals _ _ _ = some #[.val (.ref a1), .val (.double dx), .second, .val (.double q1), .second, .val (.int (1 : Int32)), .val (.int (1 : Int32)), .val (.double hi0), .second, .val (.double (FP.dadd q1 hi0)), .second, .val (.double (FP.dsub hi0 (FP.dsub (FP.dadd q1 hi0) q1))), .second]) (rfl : _ = 64) ?_
          exact ht_
        · have e1 : own_fst hi0 q1 = hi0 := if_neg hsw
          have e2 : own_snd hi0 q1 = q1 := if_neg hsw
          rw [e1, e2] at ht_ na1 nb1 nc1
          have hs_ : ¬ ((cmpValue (FP.dcmp (hi0 &&& 0x7fffffffffffffff) (q1 &&& 0x7fffffffffffffff)) .g) < (0 : Int32)) := hsw
          refine own_f_ifYes X170.here hx (hb hby d_prog_8_2_36) ((if0 _ _).trans (flt (hs_)).2.1) (by decide) (by decide : _ = 49) ?_
          refine own_f_dloadN X170.here hx (hb hby d_prog_8_2_49) rfl (rfl : _ = 50) ?_
          refine own_f_dload X170.here hx (hb hby d_prog_8_2_50) rfl (rfl : _ = 52) ?_
          refine own_f_dadd X170.here hx (hb hby d_prog_8_2_52) (na1) rfl (rfl : _ = 53) ?_
          refine own_f_dstore X170.here hx (hb hby d_prog_8_2_53) (rfl : storeLocals _ _ _ = some #[.val (.ref a1), .val (.double dx), .second, .val (.double hi0), .second, .val (.int (1 : Int32)), .val (.int (1 : Int32)), .val (.double q1), .second, .val (.double (FP.dadd hi0 q1)), .second, .val (.double lo0), .second]) (rfl : _ = 55) ?_
          refine own_f_dload X170.here hx (hb hby d_prog_8_2_55) rfl (rfl : _ = 57) ?_
          refine own_f_dload X170.here hx (hb hby d_prog_8_2_57) rfl (rfl : _ = 59) ?_
          refine own_f_dloadN X170.here hx (hb hby d_prog_8_2_59) rfl (rfl : _ = 60) ?_
          refine own_f_dsub X170.here hx (hb hby d_prog_8_2_60) (nb1) rfl (rfl : _ = 61) ?_
          refine own_f_dsub X170.here hx (hb hby d_prog_8_2_61) (nc1) rfl (rfl : _ = 62) ?_
          refine own_f_dstore X170.here hx (hb hby d_prog_8_2_62) (rfl : storeLocals _ _ _ = some #[.val (.ref a1), .val (.double dx), .second, .val (.double hi0), .second, .val (.int (1 : Int32)), .val (.int (1 : Int32)), .val (.double q1), .second, .val (.double (FP.dadd hi0 q1)), .second, .val (.double (FP.dsub q1 (FP.dsub (FP.dadd hi0 q1) hi0))), .second]) (rfl : _ = 64) ?_
          exact ht_
      obtain ⟨hi1, hhi1⟩ : ∃ z : UInt64, z = (FP.dadd (own_fst hi0 q1) (own_snd hi0 q1)) := ⟨_, rfl⟩
      rw [← hhi1] at k172
      obtain ⟨lo1, hlo1⟩ : ∃ z : UInt64, z = (own_lo (own_fst hi0 q1) (own_snd hi0 q1)) := ⟨_, rfl⟩
      rw [← hlo1] at k172
      replace hnn := own_nn' hhi1 hnn
      have k173 : ∀ t_, Steps p.tables e below (T170.setTop (mkF m 68 #[.val (.ref a1), .val (.double dx), .second, .val (.double (own_fst hi0 q1)), .second, .val (.int (1 : Int32)), .val (.int (1 : Int32)), .val (.double (own_snd hi0 q1)), .second, .val (.double hi1), .second, .val (.double lo1), .second] [(.int (cmpValue (FP.dcmp lo1 (0 : UInt64)) .l))])) t_ → Steps p.tables e below A t_ := by
        intro t_ ht_
        refine k172 t_ ?_
        refine own_f_dload X170.here hx (hb hby d_prog_8_2_64) rfl (rfl : _ = 66) ?_
        refine own_f_dconst0 X170.here hx (hb hby d_prog_8_2_66) (rfl : _ = (0 : UInt64)) (rfl : _ = 67) ?_
        refine own_f_dcmp X170.here hx (hb hby d_prog_8_2_67) rfl (rfl : _ = 68) ?_
        exact ht_
      by_cases hz1 : (cmpValue (FP.dcmp lo1 (0 : UInt64)) .l) = (0 : Int32)
      · obtain ⟨T174, X174, e174, st174⟩ := getF X170 hx hZ hown (host := "") (Or.inl (hw _ (List.mem_of_getElem? (i := 17) rfl))) Via.refl e170 Fs (g := (mkF m 11 #[.val (.ref a1), .val (.double dx), .second, .val (.double hi1), .second, .val (.int (1 : Int32)), .val (.int (2 : Int32)), .val (.double (own_snd hi0 q1)), .second, .val (.double hi1), .second, .val (.double lo1), .second] [(.ref a1), (.int (2 : Int32))])) rfl rfl (hb hby d_prog_8_2_11)
        obtain ⟨T175, X175, e175, st175⟩ := getF X174 hx hZ hown (host := "") (Or.inl (hw _ (List.mem_of_getElem? (i := 10) rfl))) Via.refl e174 Fp (g := (mkF m 18 #[.val (.ref a1), .val (.double dx), .second, .val (.double hi1), .second, .val (.int (1 : Int32)), .val (.int (2 : Int32)), .val (.double (own_snd hi0 q1)), .second, .val (.double hi1), .second, .val (.double lo1), .second] [(.ref a1)])) rfl rfl (hb hby d_prog_8_2_18)
        obtain ⟨cl176, Ar176, -, Sz176, Ng176, Hs176, -⟩ := id Va
        have hin176 : ¬ ((2 : Int32) < 0 ∨ cl176.slots.size ≤ ((2 : Int32)).toNatClampNeg) := inb_of Sz176 ⟨by decide, by decide⟩
        have hat176 : cl176.slots[((2 : Int32)).toNatClampNeg]? = some (.double q2) := Hs176 _ (Nat.lt_of_not_le fun q => hin176 (Or.inr q))
        obtain ⟨⟨nx2, nq2⟩, na2, nb2, nc2, -⟩ := own_nn hnn
        obtain ⟨T177, X177, e177, st177⟩ := natS X175 hx hZ hown (hw _ (List.mem_of_getElem? (i := 38) rfl)) (hw _ (List.mem_of_getElem? (i := 39) rfl)) (hw _ (List.mem_of_getElem? (i := 40) rfl)) (hw _ (List.mem_of_getElem? (i := 41) rfl)) (by decide) e175 (W := 0) (val' := (.double (hi1 &&& 0x7fffffffffffffff))) (fun c => Jvm.Free.Fl.Abs.absD_pays hi1 c (by decide) (by decide)) (g := (mkF m 27 #[.val (.ref a1), .val (.double dx), .second, .val (.double hi1), .second, .val (.int (1 : Int32)), .val (.int (2 : Int32)), .val (.double q2), .second, .val (.double hi1), .second, .val (.double lo1), .second] [(.double hi1)])) rfl (by rw [hml]; rfl) (argsL := [(.double hi1)]) (rest := []) (lenOf pd_0 rfl) rfl (by show 2 * 0 + _ ≤ _; exact Nat.le_of_eq rfl) (hb hby d_prog_8_2_27) (by decide) (by decide) ⟨rfl, nx2⟩ rfl
        obtain ⟨T178, X178, e178, st178⟩ := natS X177 hx hZ hown (hw _ (List.mem_of_getElem? (i := 38) rfl)) (hw _ (List.mem_of_getElem? (i := 39) rfl)) (hw _ (List.mem_of_getElem? (i := 40) rfl)) (hw _ (List.mem_of_getElem? (i := 41) rfl)) (by decide) e177 (W := 2) (val' := (.double (q2 &&& 0x7fffffffffffffff))) (fun c => Jvm.Free.Fl.Abs.absD_pays q2 c (by decide) (by decide)) (g := (mkF m 32 #[.val (.ref a1), .val (.double dx), .second, .val (.double hi1), .second, .val (.int (1 : Int32)), .val (.int (2 : Int32)), .val (.double q2), .second, .val (.double hi1), .second, .val (.double lo1), .second] [(.double q2), (.double (hi1 &&& 0x7fffffffffffffff))])) rfl (by rw [hml]; rfl) (argsL := [(.double q2)]) (rest := [(.double (hi1 &&& 0x7fffffffffffffff))]) (lenOf pd_0 rfl) rfl (by show 2 * 0 + _ ≤ _; exact Nat.le_of_eq rfl) (hb hby d_prog_8_2_32) (by decide) (by decide) ⟨rfl, nq2⟩ rfl
        have k179 : ∀ t_, Steps p.tables e below (T178.setTop (mkF m 36 #[.val (.ref a1), .val (.double dx), .second, .val (.double hi1), .second, .val (.int (1 : Int32)), .val (.int (2 : Int32)), .val (.double q2), .second, .val (.double hi1), .second, .val (.double lo1), .second] [(.int (cmpValue (FP.dcmp (hi1 &&& 0x7fffffffffffffff) (q2 &&& 0x7fffffffffffffff)) .g))])) t_ → Steps p.tables e below A t_ := by
          intro t_ ht_
          refine k173 t_ ?_
          refine own_f_ifYes X170.here hx (hb hby d_prog_8_2_68) ((if0 _ _).trans (teq (hz1)).1) (by decide) (by decide : _ = 83) ?_
          refine own_f_dload X170.here hx (hb hby d_prog_8_2_83) rfl (rfl : _ = 85) ?_
          refine own_f_dstoreN X170.here hx (hb hby d_prog_8_2_85) (rfl : storeLocals _ _ _ = some #[.val (.ref a1), .val (.double dx), .second, .val (.double hi1), .second, .val (.int (1 : Int32)), .val (.int (1 : Int32)), .val (.double (own_snd hi0 q1)), .second, .val (.double hi1), .second, .val (.double lo1), .second]) (rfl : _ = 86) ?_
          refine own_f_iinc X170.here hx (hb hby d_prog_8_2_86) rfl (rfl : storeLocals _ _ _ = some #[.val (.ref a1), .val (.double dx), .second, .val (.double hi1), .second, .val (.int (1 : Int32)), .val (.int (2 : Int32)), .val (.double (own_snd hi0 q1)), .second, .val (.double hi1), .second, .val (.double lo1), .second]) (rfl : _ = 89) ?_
          refine own_f_goto X170.here hx (hb hby d_prog_8_2_89) (by decide) (by decide : _ = 8) ?_
          refine own_f_iload X170.here hx (hb hby d_prog_8_2_8) rfl (rfl : _ = 10) ?_
          refine own_f_aloadN X170.here hx (hb hby d_prog_8_2_10) rfl rfl (rfl : _ = 11) ?_
          refine st174 _ ?_
          show Steps p.tables e below (T174.setTop (mkF m 14 #[.val (.ref a1), .val (.double dx), .second, .val (.double hi1), .second, .val (.int (1 : Int32)), .val (.int (2 : Int32)), .val (.double (own_snd hi0 q1)), .second, .val (.double hi1), .second, .val (.double lo1), .second] [(.int (3 : Int32)), (.int (2 : Int32))])) t_
          refine own_f_icmpNo X174.here hx (hb hby d_prog_8_2_14) (tlt (by decide)).2.1 (rfl : _ = 17) ?_
          refine own_f_aloadN X174.here hx (hb hby d_prog_8_2_17) rfl rfl (rfl : _ = 18) ?_
          refine st175 _ ?_
          show Steps p.tables e below (T175.setTop (mkF m 21 #[.val (.ref a1), .val (.double dx), .second, .val (.double hi1), .second, .val (.int (1 : Int32)), .val (.int (2 : Int32)), .val (.double (own_snd hi0 q1)), .second, .val (.double hi1), .second, .val (.double lo1), .second] [(.ref ar)])) t_
          refine own_f_iload X175.here hx (hb hby d_prog_8_2_21) rfl (rfl : _ = 23) ?_
          refine X175.daload hx (j := (2 : Int32)) (v := (.double q2)) (by rw [e175]; exact Ar176.1) (State.isArrayOf_alike hZ.alike Ar176.2.1) Ar176.2.2 hin176 hat176 (g := (mkF m 23 #[.val (.ref a1), .val (.double dx), .second, .val (.double hi1), .second, .val (.int (1 : Int32)), .val (.int (2 : Int32)), .val (.double (own_snd hi0 q1)), .second, .val (.double hi1), .second, .val (.double lo1), .second] [(.int (2 : Int32)), (.ref ar)])) rfl rfl (hb hby d_prog_8_2_23) _ ?_
          show Steps p.tables e below (T175.setTop (mkF m 24 #[.val (.ref a1), .val (.double dx), .second, .val (.double hi1), .second, .val (.int (1 : Int32)), .val (.int (2 : Int32)), .val (.double (own_snd hi0 q1)), .second, .val (.double hi1), .second, .val (.double lo1), .second] [(.double q2)])) t_
          refine own_f_dstore X175.here hx (hb hby d_prog_8_2_24) (rfl : storeLocals _ _ _ = some #[.val (.ref a1), .val (.double dx), .second, .val (.double hi1), .second, .val (.int (1 : Int32)), .val (.int (2 : Int32)), .val (.double q2), .second, .val (.double hi1), .second, .val (.double lo1), .second]) (rfl : _ = 26) ?_
          refine own_f_dloadN X175.here hx (hb hby d_prog_8_2_26) rfl (rfl : _ = 27) ?_
          refine st177 _ ?_
          show Steps p.tables e below (T177.setTop (mkF m 30 #[.val (.ref a1), .val (.double dx), .second, .val (.double hi1), .second, .val (.int (1 : Int32)), .val (.int (2 : Int32)), .val (.double q2), .second, .val (.double hi1), .second, .val (.double lo1), .second] [(.double (hi1 &&& 0x7fffffffffffffff))])) t_
          refine own_f_dload X177.here hx (hb hby d_prog_8_2_30) rfl (rfl : _ = 32) ?_
          refine st178 _ ?_
          show Steps p.tables e below (T178.setTop (mkF m 35 #[.val (.ref a1), .val (.double dx), .second, .val (.double hi1), .second, .val (.int (1 : Int32)), .val (.int (2 : Int32)), .val (.double q2), .second, .val (.double hi1), .second, .val (.double lo1), .second] [(.double (q2 &&& 0x7fffffffffffffff)), (.double (hi1 &&& 0x7fffffffffffffff))])) t_
          refine own_f_dcmp X178.here hx (hb hby d_prog_8_2_35) rfl (rfl : _ = 36) ?_
          exact ht_
        have k180 : ∀ t_, Steps p.tables e below (T178.setTop (mkF m 64 #[.val (.ref a1), .val (.double dx), .second, .val (.double (own_fst hi1 q2)), .second, .val (.int (1 : Int32)), .val (.int (2 : Int32)), .val (.double (own_snd hi1 q2)), .second, .val (.double (FP.dadd (own_fst hi1 q2) (own_snd hi1 q2))), .second, .val (.double (own_lo (own_fst hi1 q2) (own_snd hi1 q2))), .second] [])) t_ → Steps p.tables e below A t_ := by
          intro t_ ht_
          refine k179 t_ ?_
          by_cases hsw : own_lt hi1 q2
          · have e1 : own_fst hi1 q2 = q2 := if_pos hsw
            have e2 : own_snd hi1 q2 = hi1 := if_pos hsw
            rw [e1, e2] at ht_ na2 nb2 nc2
            have hs_ : (cmpValue (FP.dcmp (hi1 &&& 0x7fffffffffffffff) (q2 &&& 0x7fffffffffffffff)) .g) < (0 : Int32) := hsw
            refine own_f_ifNo X178.here hx (hb hby d_prog_8_2_36) ((if0 _ _).trans (tlt (hs_)).2.1) (rfl : _ = 39) ?_
            refine own_f_dload X178.here hx (hb hby d_prog_8_2_39) rfl (rfl : _ = 41) ?_
            refine own_f_dstore X178.here hx (hb hby d_prog_8_2_41) (rfl : storeLocals _ _ _ = some #[.val (.ref a1), .val (.double dx), .second, .val (.double hi1), .second, .val (.int (1 : Int32)), .val (.int (2 : Int32)), .val (.double q2), .second, .val (.double q2), .second, .val (.double lo1), .second]) (rfl : _ = 43) ?_
            refine own_f_dloadN X178.here hx (hb hby d_prog_8_2_43) rfl (rfl : _ = 44) ?_
            refine own_f_dstore X178.here hx (hb hby d_prog_8_2_44) (rfl : storeLocals _ _ _ = some #[.val (.ref a1), .val (.double dx), .second, .val (.double hi1), .second, .val (.int (1 : Int32)), .val (.int (2 : Int32)), .val (.double hi1), .second, .val (.double q2), .second, .val (.double lo1), .second]) (rfl : _ = 46) ?_
            refine own_f_dload X178.here hx (hb hby d_prog_8_2_46) rfl (rfl : _ = 48) ?_
            refine own_f_dstoreN X178.here hx (hb hby d_prog_8_2_48) (rfl : storeLocals _ _ _ = some #[.val (.ref a1), .val (.double dx), .second, .val (.double q2), .second, .val (.int (1 : Int32)), .val (.int (2 : Int32)), .val (.double hi1), .second, .val (.double q2), .second, .val (.double lo1), .second]) (rfl : _ = 49) ?_
            refine own_f_dloadN X178.here hx (hb hby d_prog_8_2_49) rfl (rfl : _ = 50) ?_
            refine own_f_dload X178.here hx (hb hby d_prog_8_2_50) rfl (rfl : _ = 52) ?_
            refine own_f_dadd X178.here hx (hb hby d_prog_8_2_52) (na2) rfl (rfl : _ = 53) ?_
            refine own_f_dstore X178.here hx (hb hby d_prog_8_2_53) (rfl : storeLocals _ _ _ = some #[.val (.ref a1), .val (.double dx), .second, .val (.double q2), .second, .val (.int (1 : Int32)), .val (.int (2 : Int32)), .val (.double hi1), .second, .val (.double (FP.dadd q2 hi1)), .second, .val (.double lo1), .second]) (rfl : _ = 55) ?_
            refine own_f_dload X178.here hx (hb hby d_prog_8_2_55) rfl (rfl : _ = 57) ?_
            refine own_f_dload X178.here hx (hb hby d_prog_8_2_57) rfl (rfl : _ = 59) ?_
            refine own_f_dloadN X178.here hx (hb hby d_prog_8_2_59) rfl (rfl : _ = 60) ?_
            refine own_f_dsub X178.here hx (hb hby d_prog_8_2_60) (nb2) rfl (rfl : _ = 61) ?_
            refine own_f_dsub X178.here hx (hb hby d_prog_8_2_61) (nc2) rfl (rfl : _ = 62) ?_
            refine own_f_dstore X178.here hx (hb hby d_prog_8_2_62) (rfl : storeLocals _ _ _ = some #[.val (.ref a1), .val (.double dx), .second, .val (.double q2), .second, .val (.int (1 : Int32)), .val (.int (2 : Int32)), .val (.double hi1), .second, .val (.double (FP.dadd q2 hi1)), .second, .val (.double (FP.dsub hi1 (FP.dsub (FP.dadd q2 hi1) q2))), .second]) (rfl : _ = 64) ?_
            exact ht_
          · have e1 : own_fst hi1 q2 = hi1 := if_neg hsw
            have e2 : own_snd hi1 q2 = q2 := if_neg hsw
            rw [e1, e2] at ht_ na2 nb2 nc2
            have hs_ : ¬ ((cmpValue (FP.dcmp (hi1 &&& 0x7fffffffffffffff) (q2 &&& 0x7fffffffffffffff)) .g) < (0 : Int32)) := hsw
            refine own_f_ifYes X178.here hx (hb hby d_prog_8_2_36) ((if0 _ _).trans (flt (hs_)).2.1) (by decide) (by decide : _ = 49) ?_
            refine own_f_dloadN X178.here hx (hb hby d_prog_8_2_49) rfl (rfl : _ = 50) ?_
            refine own_f_dload X178.here hx (hb hby d_prog_8_2_50) rfl (rfl : _ = 52) ?_
            refine own_f_dadd X178.here hx (hb hby d_prog_8_2_52) (na2) rfl (rfl : _ = 53) ?_
            refine own_f_dstore X178.here hx (hb hby d_prog_8_2_53) (rfl : storeLocals _ _ _ = some #[.val (.ref a1), .val (.double dx), .second, .val (.double hi1), .second, .val (.int (1 : Int32)), .val (.int (2 : Int32)), .val (.double q2), .second, .val (.double (FP.dadd hi1 q2)), .second, .val (.double lo1), .second]) (rfl : _ = 55) ?_
            refine own_f_dload X178.here hx (hb hby d_prog_8_2_55) rfl (rfl : _ = 57) ?_
            refine own_f_dload X178.here hx (hb hby d_prog_8_2_57) rfl (rfl : _ = 59) ?_
            refine own_f_dloadN X178.here hx (hb hby d_prog_8_2_59) rfl (rfl : _ = 60) ?_
            refine own_f_dsub X178.here hx (hb hby d_prog_8_2_60) (nb2) rfl (rfl : _ = 61) ?_
            refine own_f_dsub X178.here hx (hb hby d_prog_8_2_61) (nc2) rfl (rfl : _ = 62) ?_
            refine own_f_dstore X178.here hx (hb hby d_prog_8_2_62) (rfl : storeLocals _ _ _ = some #[.val (.ref a1), .val (.double dx), .second, .val (.double hi1), .second, .val (.int (1 : Int32)), .val (.int (2 : Int32)), .val (.double q2), .second, .val (.double (FP.dadd hi1 q2)), .second, .val (.double (FP.dsub q2 (FP.dsub (FP.dadd hi1 q2) hi1))), .second]) (rfl : _ = 64) ?_
            exact ht_
        obtain ⟨hi2, hhi2⟩ : ∃ z : UInt64, z = (FP.dadd (own_fst hi1 q2) (own_snd hi1 q2)) := ⟨_, rfl⟩
        rw [← hhi2] at k180
        obtain ⟨lo2, hlo2⟩ : ∃ z : UInt64, z = (own_lo (own_fst hi1 q2) (own_snd hi1 q2)) := ⟨_, rfl⟩
        rw [← hlo2] at k180
        replace hnn := own_nn' hhi2 hnn
        have k181 : ∀ t_, Steps p.tables e below (T178.setTop (mkF m 68 #[.val (.ref a1), .val (.double dx), .second, .val (.double (own_fst hi1 q2)), .second, .val (.int (1 : Int32)), .val (.int (2 : Int32)), .val (.double (own_snd hi1 q2)), .second, .val (.double hi2), .second, .val (.double lo2), .second] [(.int (cmpValue (FP.dcmp lo2 (0 : UInt64)) .l))])) t_ → Steps p.tables e below A t_ := by
          intro t_ ht_
          refine k180 t_ ?_
          refine own_f_dload X178.here hx (hb hby d_prog_8_2_64) rfl (rfl : _ = 66) ?_
          refine own_f_dconst0 X178.here hx (hb hby d_prog_8_2_66) (rfl : _ = (0 : UInt64)) (rfl : _ = 67) ?_
          refine own_f_dcmp X178.here hx (hb hby d_prog_8_2_67) rfl (rfl : _ = 68) ?_
          exact ht_
        by_cases hz2 : (cmpValue (FP.dcmp lo2 (0 : UInt64)) .l) = (0 : Int32)
        · obtain ⟨T182, X182, e182, st182⟩ := getF X178 hx hZ hown (host := "") (Or.inl (hw _ (List.mem_of_getElem? (i := 17) rfl))) Via.refl e178 Fs (g := (mkF m 11 #[.val (.ref a1), .val (.double dx), .second, .val (.double hi2), .second, .val (.int (1 : Int32)), .val (.int (3 : Int32)), .val (.double (own_snd hi1 q2)), .second, .val (.double hi2), .second, .val (.double lo2), .second] [(.ref a1), (.int (3 : Int32))])) rfl rfl (hb hby d_prog_8_2_11)
          obtain ⟨T183, X183, e183, st183⟩ := getF X182 hx hZ hown (host := "") (Or.inl (hw _ (List.mem_of_getElem? (i := 10) rfl))) Via.refl e182 Fp (g := (mkF m 95 #[.val (.ref a1), .val (.double dx), .second, .val (.double hi2), .second, .val (.int (1 : Int32)), .val (.int (3 : Int32)), .val (.double (own_snd hi1 q2)), .second, .val (.double hi2), .second, .val (.double lo2), .second] [(.ref a1), (.int (1 : Int32))])) rfl rfl (hb hby d_prog_8_2_95)
          obtain ⟨cl184, Ar184, -, Sz184, Ng184, -, -⟩ := id Va
          obtain ⟨T185, X185, e185, st185⟩ := getF X183 hx hZ hown (host := "") (Or.inl (hw _ (List.mem_of_getElem? (i := 10) rfl))) Via.refl e183 Fp (g := (mkF m 118 #[.val (.ref a1), .val (.double dx), .second, .val (.double hi2), .second, .val (.int (1 : Int32)), .val (.int (3 : Int32)), .val (.double (own_snd hi1 q2)), .second, .val (.double hi2), .second, .val (.double lo2), .second] [(.ref a1)])) rfl rfl (hb hby d_prog_8_2_118)
          obtain ⟨cl186, Ar186, q186, Sz186, Ng186, Hs186, Gs186⟩ := Va
          have hin186 : ¬ ((1 : Int32) < 0 ∨ cl186.slots.size ≤ ((1 : Int32)).toNatClampNeg) := inb_of Sz186 ⟨by decide, by decide⟩
          obtain ⟨T187, h187, X187, e187, W187, st187⟩ := stD X185 hx hZ e185 Ar186 (j := (1 : Int32)) hin186 (g := (mkF m 127 #[.val (.ref a1), .val (.double dx), .second, .val (.double hi2), .second, .val (.int (2 : Int32)), .val (.int (3 : Int32)), .val (.double (own_snd hi1 q2)), .second, .val (.double hi2), .second, .val (.double lo2), .second] [(.double hi2), (.int (1 : Int32)), (.ref ar)])) rfl rfl (hb hby d_prog_8_2_127)
          replace Ea := Ea.wr W187
          replace Fp := Fp.other W187 (Or.inl hne)
          replace Fs := Fs.other W187 (Or.inl hne)
          have Zs187 := Nat.le_trans Zs165 (Keep.of_wr W187).1
          replace KK := KK.wr W187 (Or.inl (by simp))
          have Va : Arv Z h187 ar kc .double (4 : Int32) [(.double lo0), (.double hi2), (.double q2), (.double q3)] (.double (0 : UInt64)) := Arv.set Ar186 q186 Sz186 Ng186 Hs186 Gs186 rfl W187 1 rfl (Nat.le_of_ble_eq_true rfl)
          have N187 := Fr.snoc X187 N165 g_ar
          obtain ⟨T188, h188, X188, e188, W188, st188⟩ := putF X187 hx hZ hown (host := "") (Or.inl (hw _ (List.mem_of_getElem? (i := 17) rfl))) Via.refl e187 Fs Ea (Or.inl (hw _ (List.mem_of_getElem? (i := 18) rfl))) (hw _ (List.mem_of_getElem? (i := 1) rfl)) (ty := .int) (by decide) rfl rfl (g := (mkF m 131 #[.val (.ref a1), .val (.double dx), .second, .val (.double hi2), .second, .val (.int (2 : Int32)), .val (.int (3 : Int32)), .val (.double (own_snd hi1 q2)), .second, .val (.double hi2), .second, .val (.double lo2), .second] [(.int (2 : Int32)), (.ref a1)])) rfl rfl (hb hby d_prog_8_2_131)
          replace Ea := Ea.wr W188
          replace Fp := Fp.other W188 (Or.inr (slot_ne (Or.inl (hw _ (List.mem_of_getElem? (i := 11) rfl))) (Or.inl (hw _ (List.mem_of_getElem? (i := 18) rfl))) (by decide) (t := (.array .double)) (t' := .int) (by decide) (by decide)))
          replace Va := Va.other W188 (Ne.symm hne)
          have Zs188 := Nat.le_trans Zs187 (Keep.of_wr W188).1
          replace KK := KK.wr W188 (Or.inl (by simp))
          replace Fs := Fs.same W188
          have N188 := Fr.snoc X188 N187 g_a1
          obtain ⟨fs, hr, hrun, hended, hW, hsame⟩ := X188.leave (v := none) (fun _ => rfl) hlk
          refine ⟨_, _, ?_, hrun, hended, _, _, rfl, ?_, ⟨_, rfl⟩, hW, hsame.mono (by decide) (by decide)⟩
          · refine hA0 _ ?_
            refine k181 _ ?_
            refine own_f_ifYes X178.here hx (hb hby d_prog_8_2_68) ((if0 _ _).trans (teq (hz2)).1) (by decide) (by decide : _ = 83) ?_
            refine own_f_dload X178.here hx (hb hby d_prog_8_2_83) rfl (rfl : _ = 85) ?_
            refine own_f_dstoreN X178.here hx (hb hby d_prog_8_2_85) (rfl : storeLocals _ _ _ = some #[.val (.ref a1), .val (.double dx), .second, .val (.double hi2), .second, .val (.int (1 : Int32)), .val (.int (2 : Int32)), .val (.double (own_snd hi1 q2)), .second, .val (.double hi2), .second, .val (.double lo2), .second]) (rfl : _ = 86) ?_
            refine own_f_iinc X178.here hx (hb hby d_prog_8_2_86) rfl (rfl : storeLocals _ _ _ = some #[.val (.ref a1), .val (.double dx), .second, .val (.double hi2), .second, .val (.int (1 : Int32)), .val (.int (3 : Int32)), .val (.double (own_snd hi1 q2)), .second, .val (.double hi2), .second, .val (.double lo2), .second]) (rfl : _ = 89) ?_
            refine own_f_goto X178.here hx (hb hby d_prog_8_2_89) (by decide) (by decide : _ = 8) ?_
            refine own_f_iload X178.here hx (hb hby d_prog_8_2_8) rfl (rfl : _ = 10) ?_
            refine own_f_aloadN X178.here hx (hb hby d_prog_8_2_10) rfl rfl (rfl : _ = 11) ?_
            refine st182 _ ?_
            show Steps p.tables e below (T182.setTop (mkF m 14 #[.val (.ref a1), .val (.double dx), .second, .val (.double hi2), .second, .val (.int (1 : Int32)), .val (.int (3 : Int32)), .val (.double (own_snd hi1 q2)), .second, .val (.double hi2), .second, .val (.double lo2), .second] [(.int (3 : Int32)), (.int (3 : Int32))])) _
            refine own_f_icmpYes X182.here hx (hb hby d_prog_8_2_14) (flt (by decide)).2.1 (by decide) (by decide : _ = 92) ?_
            refine own_f_iload X182.here hx (hb hby d_prog_8_2_92) rfl (rfl : _ = 94) ?_
            refine own_f_aloadN X182.here hx (hb hby d_prog_8_2_94) rfl rfl (rfl : _ = 95) ?_
            refine st183 _ ?_
            show Steps p.tables e below (T183.setTop (mkF m 98 #[.val (.ref a1), .val (.double dx), .second, .val (.double hi2), .second, .val (.int (1 : Int32)), .val (.int (3 : Int32)), .val (.double (own_snd hi1 q2)), .second, .val (.double hi2), .second, .val (.double lo2), .second] [(.ref ar), (.int (1 : Int32))])) _
            refine X183.arraylength hx (by rw [e183]; exact Ar184.1) (State.isArrayOf_alike hZ.alike Ar184.2.1) (g := (mkF m 98 #[.val (.ref a1), .val (.double dx), .second, .val (.double hi2), .second, .val (.int (1 : Int32)), .val (.int (3 : Int32)), .val (.double (own_snd hi1 q2)), .second, .val (.double hi2), .second, .val (.double lo2), .second] [(.ref ar), (.int (1 : Int32))])) rfl rfl (hb hby d_prog_8_2_98) _ ?_
            rw [len_of Sz184 Ng184]
            show Steps p.tables e below (T183.setTop (mkF m 99 #[.val (.ref a1), .val (.double dx), .second, .val (.double hi2), .second, .val (.int (1 : Int32)), .val (.int (3 : Int32)), .val (.double (own_snd hi1 q2)), .second, .val (.double hi2), .second, .val (.double lo2), .second] [(.int (4 : Int32)), (.int (1 : Int32))])) _
            refine own_f_icmpYes X183.here hx (hb hby d_prog_8_2_99) (feq (by decide)).2 (by decide) (by decide : _ = 117) ?_
            refine own_f_aloadN X183.here hx (hb hby d_prog_8_2_117) rfl rfl (rfl : _ = 118) ?_
            refine st185 _ ?_
            show Steps p.tables e below (T185.setTop (mkF m 121 #[.val (.ref a1), .val (.double dx), .second, .val (.double hi2), .second, .val (.int (1 : Int32)), .val (.int (3 : Int32)), .val (.double (own_snd hi1 q2)), .second, .val (.double hi2), .second, .val (.double lo2), .second] [(.ref ar)])) _
            refine own_f_iload X185.here hx (hb hby d_prog_8_2_121) rfl (rfl : _ = 123) ?_
            refine own_f_iinc X185.here hx (hb hby d_prog_8_2_123) rfl (rfl : storeLocals _ _ _ = some #[.val (.ref a1), .val (.double dx), .second, .val (.double hi2), .second, .val (.int (2 : Int32)), .val (.int (3 : Int32)), .val (.double (own_snd hi1 q2)), .second, .val (.double hi2), .second, .val (.double lo2), .second]) (rfl : _ = 126) ?_
            refine own_f_dloadN X185.here hx (hb hby d_prog_8_2_126) rfl (rfl : _ = 127) ?_
            refine st187 _ ?_
            show Steps p.tables e below (T187.setTop (mkF m 128 #[.val (.ref a1), .val (.double dx), .second, .val (.double hi2), .second, .val (.int (2 : Int32)), .val (.int (3 : Int32)), .val (.double (own_snd hi1 q2)), .second, .val (.double hi2), .second, .val (.double lo2), .second] [])) _
            refine own_f_aloadN X187.here hx (hb hby d_prog_8_2_128) rfl rfl (rfl : _ = 129) ?_
            refine own_f_iload X187.here hx (hb hby d_prog_8_2_129) rfl (rfl : _ = 131) ?_
            refine st188 _ ?_
            show Steps p.tables e below (T188.setTop (mkF m 134 #[.val (.ref a1), .val (.double dx), .second, .val (.double hi2), .second, .val (.int (2 : Int32)), .val (.int (3 : Int32)), .val (.double (own_snd hi1 q2)), .second, .val (.double hi2), .second, .val (.double lo2), .second] [])) _
            exact X188.returnOut hx Bd.returns (hb hby d_prog_8_2_134) hr
          · show Q2 Z a1 dx _ ar kc q0 q1 q2 q3 _ h0 n0 _ T188.heap _
            rw [e188]
            exact ⟨(2 : Int32), lo0, hi2, q2, q3, rfl, N188, KK, Fp, Fs, Va, own_res (M := [lo0, hi2]) (by rw [own_ins_c hlo0 hhi0 hz0, own_ins_d hlo1 hhi1 hz1, own_ins_d hlo2 hhi2 hz2]; rfl) (by show Int32.toInt 2 = ((2 : Nat) : Int); decide) rfl⟩
        · obtain ⟨T189, X189, e189, st189⟩ := getF X178 hx hZ hown (host := "") (Or.inl (hw _ (List.mem_of_getElem? (i := 10) rfl))) Via.refl e178 Fp (g := (mkF m 72 #[.val (.ref a1), .val (.double dx), .second, .val (.double (own_fst hi1 q2)), .second, .val (.int (1 : Int32)), .val (.int (2 : Int32)), .val (.double (own_snd hi1 q2)), .second, .val (.double hi2), .second, .val (.double lo2), .second] [(.ref a1)])) rfl rfl (hb hby d_prog_8_2_72)
          obtain ⟨cl190, Ar190, q190, Sz190, Ng190, Hs190, Gs190⟩ := Va
          have hin190 : ¬ ((1 : Int32) < 0 ∨ cl190.slots.size ≤ ((1 : Int32)).toNatClampNeg) := inb_of Sz190 ⟨by decide, by decide⟩
          obtain ⟨T191, h191, X191, e191, W191, st191⟩ := stD X189 hx hZ e189 Ar190 (j := (1 : Int32)) hin190 (g := (mkF m 82 #[.val (.ref a1), .val (.double dx), .second, .val (.double (own_fst hi1 q2)), .second, .val (.int (2 : Int32)), .val (.int (2 : Int32)), .val (.double (own_snd hi1 q2)), .second, .val (.double hi2), .second, .val (.double lo2), .second] [(.double lo2), (.int (1 : Int32)), (.ref ar)])) rfl rfl (hb hby d_prog_8_2_82)
          replace Ea := Ea.wr W191
          replace Fp := Fp.other W191 (Or.inl hne)
          replace Fs := Fs.other W191 (Or.inl hne)
          have Zs191 := Nat.le_trans Zs165 (Keep.of_wr W191).1
          replace KK := KK.wr W191 (Or.inl (by simp))
          have Va : Arv Z h191 ar kc .double (4 : Int32) [(.double lo0), (.double lo2), (.double q2), (.double q3)] (.double (0 : UInt64)) := Arv.set Ar190 q190 Sz190 Ng190 Hs190 Gs190 rfl W191 1 rfl (Nat.le_of_ble_eq_true rfl)
          have N191 := Fr.snoc X191 N165 g_ar
          obtain ⟨T192, X192, e192, st192⟩ := getF X191 hx hZ hown (host := "") (Or.inl (hw _ (List.mem_of_getElem? (i := 17) rfl))) Via.refl e191 Fs (g := (mkF m 11 #[.val (.ref a1), .val (.double dx), .second, .val (.double hi2), .second, .val (.int (2 : Int32)), .val (.int (3 : Int32)), .val (.double (own_snd hi1 q2)), .second, .val (.double hi2), .second, .val (.double lo2), .second] [(.ref a1), (.int (3 : Int32))])) rfl rfl (hb hby d_prog_8_2_11)
          obtain ⟨T193, X193, e193, st193⟩ := getF X192 hx hZ hown (host := "") (Or.inl (hw _ (List.mem_of_getElem? (i := 10) rfl))) Via.refl e192 Fp (g := (mkF m 95 #[.val (.ref a1), .val (.double dx), .second, .val (.double hi2), .second, .val (.int (2 : Int32)), .val (.int (3 : Int32)), .val (.double (own_snd hi1 q2)), .second, .val (.double hi2), .second, .val (.double lo2), .second] [(.ref a1), (.int (2 : Int32))])) rfl rfl (hb hby d_prog_8_2_95)
          obtain ⟨cl194, Ar194, -, Sz194, Ng194, -, -⟩ := id Va
          obtain ⟨T195, X195, e195, st195⟩ := getF X193 hx hZ hown (host := "") (Or.inl (hw _ (List.mem_of_getElem? (i := 10) rfl))) Via.refl e193 Fp (g := (mkF m 118 #[.val (.ref a1), .val (.double dx), .second, .val (.double hi2), .second, .val (.int (2 : Int32)), .val (.int (3 : Int32)), .val (.double (own_snd hi1 q2)), .second, .val (.double hi2), .second, .val (.double lo2), .second] [(.ref a1)])) rfl rfl (hb hby d_prog_8_2_118)
          obtain ⟨cl196, Ar196, q196, Sz196, Ng196, Hs196, Gs196⟩ := Va
          have hin196 : ¬ ((2 : Int32) < 0 ∨ cl196.slots.size ≤ ((2 : Int32)).toNatClampNeg) := inb_of Sz196 ⟨by decide, by decide⟩
          obtain ⟨T197, h197, X197, e197, W197, st197⟩ := stD X195 hx hZ e195 Ar196 (j := (2 : Int32)) hin196 (g := (mkF m 127 #[.val (.ref a1), .val (.double dx), .second, .val (.double hi2), .second, .val (.int (3 : Int32)), .val (.int (3 : Int32)), .val (.double (own_snd hi1 q2)), .second, .val (.double hi2), .second, .val (.double lo2), .second] [(.double hi2), (.int (2 : Int32)), (.ref ar)])) rfl rfl (hb hby d_prog_8_2_127)
          replace Ea := Ea.wr W197
          replace Fp := Fp.other W197 (Or.inl hne)
          replace Fs := Fs.other W197 (Or.inl hne)
          have Zs197 := Nat.le_trans Zs191 (Keep.of_wr W197).1
          replace KK := KK.wr W197 (Or.inl (by simp))
          have Va : Arv Z h197 ar kc .double (4 : Int32) [(.double lo0), (.double lo2), (.double hi2), (.double q3)] (.double (0 : UInt64)) := Arv.set Ar196 q196 Sz196 Ng196 Hs196 Gs196 rfl W197 2 rfl (Nat.le_of_ble_eq_true rfl)
          have N197 := Fr.snoc X197 N191 g_ar
          obtain ⟨T198, h198, X198, e198, W198, st198⟩ := putF X197 hx hZ hown (host := "") (Or.inl (hw _ (List.mem_of_getElem? (i := 17) rfl))) Via.refl e197 Fs Ea (Or.inl (hw _ (List.mem_of_getElem? (i := 18) rfl))) (hw _ (List.mem_of_getElem? (i := 1) rfl)) (ty := .int) (by decide) rfl rfl (g := (mkF m 131 #[.val (.ref a1), .val (.double dx), .second, .val (.double hi2), .second, .val (.int (3 : Int32)), .val (.int (3 : Int32)), .val (.double (own_snd hi1 q2)), .second, .val (.double hi2), .second, .val (.double lo2), .second] [(.int (3 : Int32)), (.ref a1)])) rfl rfl (hb hby d_prog_8_2_131)
          replace Ea := Ea.wr W198
          replace Fp := Fp.other W198 (Or.inr (slot_ne (Or.inl (hw _ (List.mem_of_getElem? (i := 11) rfl))) (Or.inl (hw _ (List.mem_of_getElem? (i := 18) rfl))) (by decide) (t := (.array .double)) (t' := .int) (by decide) (by decide)))
          replace Va := Va.other W198 (Ne.symm hne)
          have Zs198 := Nat.le_trans Zs197 (Keep.of_wr W198).1
          replace KK := KK.wr W198 (Or.inl (by simp))
          replace Fs := Fs.same W198
          have N198 := Fr.snoc X198 N197 g_a1
          obtain ⟨fs, hr, hrun, hended, hW, hsame⟩ := X198.leave (v := none) (fun _ => rfl) hlk
          refine ⟨_, _, ?_, hrun, hended, _, _, rfl, ?_, ⟨_, rfl⟩, hW, hsame.mono (by decide) (by decide)⟩
          · refine hA0 _ ?_
            refine k181 _ ?_
            refine own_f_ifNo X178.here hx (hb hby d_prog_8_2_68) ((if0 _ _).trans (feq (hz2)).1) (rfl : _ = 71) ?_
            refine own_f_aloadN X178.here hx (hb hby d_prog_8_2_71) rfl rfl (rfl : _ = 72) ?_
            refine st189 _ ?_
            show Steps p.tables e below (T189.setTop (mkF m 75 #[.val (.ref a1), .val (.double dx), .second, .val (.double (own_fst hi1 q2)), .second, .val (.int (1 : Int32)), .val (.int (2 : Int32)), .val (.double (own_snd hi1 q2)), .second, .val (.double hi2), .second, .val (.double lo2), .second] [(.ref ar)])) _
            refine own_f_iload X189.here hx (hb hby d_prog_8_2_75) rfl (rfl : _ = 77) ?_
            refine own_f_iinc X189.here hx (hb hby d_prog_8_2_77) rfl (rfl : storeLocals _ _ _ = some #[.val (.ref a1), .val (.double dx), .second, .val (.double (own_fst hi1 q2)), .second, .val (.int (2 : Int32)), .val (.int (2 : Int32)), .val (.double (own_snd hi1 q2)), .second, .val (.double hi2), .second, .val (.double lo2), .second]) (rfl : _ = 80) ?_
            refine own_f_dload X189.here hx (hb hby d_prog_8_2_80) rfl (rfl : _ = 82) ?_
            refine st191 _ ?_
            show Steps p.tables e below (T191.setTop (mkF m 83 #[.val (.ref a1), .val (.double dx), .second, .val (.double (own_fst hi1 q2)), .second, .val (.int (2 : Int32)), .val (.int (2 : Int32)), .val (.double (own_snd hi1 q2)), .second, .val (.double hi2), .second, .val (.double lo2), .second] [])) _
            refine own_f_dload X191.here hx (hb hby d_prog_8_2_83) rfl (rfl : _ = 85) ?_
            refine own_f_dstoreN X191.here hx (hb hby d_prog_8_2_85) (rfl : storeLocals _ _ _ = some #[.val (.ref a1), .val (.double dx), .second, .val (.double hi2), .second, .val (.int (2 : Int32)), .val (.int (2 : Int32)), .val (.double (own_snd hi1 q2)), .second, .val (.double hi2), .second, .val (.double lo2), .second]) (rfl : _ = 86) ?_
            refine own_f_iinc X191.here hx (hb hby d_prog_8_2_86) rfl (rfl : storeLocals _ _ _ = some #[.val (.ref a1), .val (.double dx), .second, .val (.double hi2), .second, .val (.int (2 : Int32)), .val (.int (3 : Int32)), .val (.double (own_snd hi1 q2)), .second, .val (.double hi2), .second, .val (.double lo2), .second]) (rfl : _ = 89) ?_
            refine own_f_goto X191.here hx (hb hby d_prog_8_2_89) (by decide) (by decide : _ = 8) ?_
            refine own_f_iload X191.here hx (hb hby d_prog_8_2_8) rfl (rfl : _ = 10) ?_
            refine own_f_aloadN X191.here hx (hb hby d_prog_8_2_10) rfl rfl (rfl : _ = 11) ?_
            refine st192 _ ?_
            show Steps p.tables e below (T192.setTop (mkF m 14 #[.val (.ref a1), .val (.double dx), .second, .val (.double hi2), .second, .val (.int (2 : Int32)), .val (.int (3 : Int32)), .val (.double (own_snd hi1 q2)), .second, .val (.double hi2), .second, .val (.double lo2), .second] [(.int (3 : Int32)), (.int (3 : Int32))])) _
            refine own_f_icmpYes X192.here hx (hb hby d_prog_8_2_14) (flt (by decide)).2.1 (by decide) (by decide : _ = 92) ?_
            refine own_f_iload X192.here hx (hb hby d_prog_8_2_92) rfl (rfl : _ = 94) ?_
            refine own_f_aloadN X192.here hx (hb hby d_prog_8_2_94) rfl rfl (rfl : _ = 95) ?_
            refine st193 _ ?_
            show Steps p.tables e below (T193.setTop (mkF m 98 #[.val (.ref a1), .val (.double dx), .second, .val (.double hi2), .second, .val (.int (2 : Int32)), .val (.int (3 : Int32)), .val (.double (own_snd hi1 q2)), .second, .val (.double hi2), .second, .val (.double lo2), .second] [(.ref ar), (.int (2 : Int32))])) _
            refine X193.arraylength hx (by rw [e193]; exact Ar194.1) (State.isArrayOf_alike hZ.alike Ar194.2.1) (g := (mkF m 98 #[.val (.ref a1), .val (.double dx), .second, .val (.double hi2), .second, .val (.int (2 : Int32)), .val (.int (3 : Int32)), .val (.double (own_snd hi1 q2)), .second, .val (.double hi2), .second, .val (.double lo2), .second] [(.ref ar), (.int (2 : Int32))])) rfl rfl (hb hby d_prog_8_2_98) _ ?_
            rw [len_of Sz194 Ng194]
            show Steps p.tables e below (T193.setTop (mkF m 99 #[.val (.ref a1), .val (.double dx), .second, .val (.double hi2), .second, .val (.int (2 : Int32)), .val (.int (3 : Int32)), .val (.double (own_snd hi1 q2)), .second, .val (.double hi2), .second, .val (.double lo2), .second] [(.int (4 : Int32)), (.int (2 : Int32))])) _
            refine own_f_icmpYes X193.here hx (hb hby d_prog_8_2_99) (feq (by decide)).2 (by decide) (by decide : _ = 117) ?_
            refine own_f_aloadN X193.here hx (hb hby d_prog_8_2_117) rfl rfl (rfl : _ = 118) ?_
            refine st195 _ ?_
            show Steps p.tables e below (T195.setTop (mkF m 121 #[.val (.ref a1), .val (.double dx), .second, .val (.double hi2), .second, .val (.int (2 : Int32)), .val (.int (3 : Int32)), .val (.double (own_snd hi1 q2)), .second, .val (.double hi2), .second, .val (.double lo2), .second] [(.ref ar)])) _
            refine own_f_iload X195.here hx (hb hby d_prog_8_2_121) rfl (rfl : _ = 123) ?_
            refine own_f_iinc X195.here hx (hb hby d_prog_8_2_123) rfl (rfl : storeLocals _ _ _ = some #[.val (.ref a1), .val (.double dx), .second, .val (.double hi2), .second, .val (.int (3 : Int32)), .val (.int (3 : Int32)), .val (.double (own_snd hi1 q2)), .second, .val (.double hi2), .second, .val (.double lo2), .second]) (rfl : _ = 126) ?_
            refine own_f_dloadN X195.here hx (hb hby d_prog_8_2_126) rfl (rfl : _ = 127) ?_
            refine st197 _ ?_
            show Steps p.tables e below (T197.setTop (mkF m 128 #[.val (.ref a1), .val (.double dx), .second, .val (.double hi2), .second, .val (.int (3 : Int32)), .val (.int (3 : Int32)), .val (.double (own_snd hi1 q2)), .second, .val (.double hi2), .second, .val (.double lo2), .second] [])) _
            refine own_f_aloadN X197.here hx (hb hby d_prog_8_2_128) rfl rfl (rfl : _ = 129) ?_
            refine own_f_iload X197.here hx (hb hby d_prog_8_2_129) rfl (rfl : _ = 131) ?_
            refine st198 _ ?_
            show Steps p.tables e below (T198.setTop (mkF m 134 #[.val (.ref a1), .val (.double dx), .second, .val (.double hi2), .second, .val (.int (3 : Int32)), .val (.int (3 : Int32)), .val (.double (own_snd hi1 q2)), .second, .val (.double hi2), .second, .val (.double lo2), .second] [])) _
            exact X198.returnOut hx Bd.returns (hb hby d_prog_8_2_134) hr
          · show Q2 Z a1 dx _ ar kc q0 q1 q2 q3 _ h0 n0 _ T198.heap _
            rw [e198]
            exact ⟨(3 : Int32), lo0, lo2, hi2, q3, rfl, N198, KK, Fp, Fs, Va, own_res (M := [lo0, lo2, hi2]) (by rw [own_ins_c hlo0 hhi0 hz0, own_ins_d hlo1 hhi1 hz1, own_ins_c hlo2 hhi2 hz2]; rfl) (by show Int32.toInt 3 = ((3 : Nat) : Int); decide) rfl⟩
      · obtain ⟨T199, X199, e199, st199⟩ := getF X170 hx hZ hown (host := "") (Or.inl (hw _ (List.mem_of_getElem? (i := 10) rfl))) Via.refl e170 Fp (g := (mkF m 72 #[.val (.ref a1), .val (.double dx), .second, .val (.double (own_fst hi0 q1)), .second, .val (.int (1 : Int32)), .val (.int (1 : Int32)), .val (.double (own_snd hi0 q1)), .second, .val (.double hi1), .second, .val (.double lo1), .second] [(.ref a1)])) rfl rfl (hb hby d_prog_8_2_72)
        obtain ⟨cl200, Ar200, q200, Sz200, Ng200, Hs200, Gs200⟩ := Va
        have hin200 : ¬ ((1 : Int32) < 0 ∨ cl200.slots.size ≤ ((1 : Int32)).toNatClampNeg) := inb_of Sz200 ⟨by decide, by decide⟩
        obtain ⟨T201, h201, X201, e201, W201, st201⟩ := stD X199 hx hZ e199 Ar200 (j := (1 : Int32)) hin200 (g := (mkF m 82 #[.val (.ref a1), .val (.double dx), .second, .val (.double (own_fst hi0 q1)), .second, .val (.int (2 : Int32)), .val (.int (1 : Int32)), .val (.double (own_snd hi0 q1)), .second, .val (.double hi1), .second, .val (.double lo1), .second] [(.double lo1), (.int (1 : Int32)), (.ref ar)])) rfl rfl (hb hby d_prog_8_2_82)
        replace Ea := Ea.wr W201
        replace Fp := Fp.other W201 (Or.inl hne)
        replace Fs := Fs.other W201 (Or.inl hne)
        have Zs201 := Nat.le_trans Zs165 (Keep.of_wr W201).1
        replace KK := KK.wr W201 (Or.inl (by simp))
        have Va : Arv Z h201 ar kc .double (4 : Int32) [(.double lo0), (.double lo1), (.double q2), (.double q3)] (.double (0 : UInt64)) := Arv.set Ar200 q200 Sz200 Ng200 Hs200 Gs200 rfl W201 1 rfl (Nat.le_of_ble_eq_true rfl)
        have N201 := Fr.snoc X201 N165 g_ar
        obtain ⟨T202, X202, e202, st202⟩ := getF X201 hx hZ hown (host := "") (Or.inl (hw _ (List.mem_of_getElem? (i := 17) rfl))) Via.refl e201 Fs (g := (mkF m 11 #[.val (.ref a1), .val (.double dx), .second, .val (.double hi1), .second, .val (.int (2 : Int32)), .val (.int (2 : Int32)), .val (.double (own_snd hi0 q1)), .second, .val (.double hi1), .second, .val (.double lo1), .second] [(.ref a1), (.int (2 : Int32))])) rfl rfl (hb hby d_prog_8_2_11)
        obtain ⟨T203, X203, e203, st203⟩ := getF X202 hx hZ hown (host := "") (Or.inl (hw _ (List.mem_of_getElem? (i := 10) rfl))) Via.refl e202 Fp (g := (mkF m 18 #[.val (.ref a1), .val (.double dx), .second, .val (.double hi1), .second, .val (.int (2 : Int32)), .val (.int (2 : Int32)), .val (.double (own_snd hi0 q1)), .second, .val (.double hi1), .second, .val (.double lo1), .second] [(.ref a1)])) rfl rfl (hb hby d_prog_8_2_18)
        obtain ⟨cl204, Ar204, -, Sz204, Ng204, Hs204, -⟩ := id Va
        have hin204 : ¬ ((2 : Int32) < 0 ∨ cl204.slots.size ≤ ((2 : Int32)).toNatClampNeg) := inb_of Sz204 ⟨by decide, by decide⟩
        have hat204 : cl204.slots[((2 : Int32)).toNatClampNeg]? = some (.double q2) := Hs204 _ (Nat.lt_of_not_le fun q => hin204 (Or.inr q))
        obtain ⟨⟨nx2, nq2⟩, na2, nb2, nc2, -⟩ := own_nn hnn
        obtain ⟨T205, X205, e205, st205⟩ := natS X203 hx hZ hown (hw _ (List.mem_of_getElem? (i := 38) rfl)) (hw _ (List.mem_of_getElem? (i := 39) rfl)) (hw _ (List.mem_of_getElem? (i := 40) rfl)) (hw _ (List.mem_of_getElem? (i := 41) rfl)) (by decide) e203 (W := 0) (val' := (.double (hi1 &&& 0x7fffffffffffffff))) (fun c => Jvm.Free.Fl.Abs.absD_pays hi1 c (by decide) (by decide)) (g := (mkF m 27 #[.val (.ref a1), .val (.double dx), .second, .val (.double hi1), .second, .val (.int (2 : Int32)), .val (.int (2 : Int32)), .val (.double q2), .second, .val (.double hi1), .second, .val (.double lo1), .second] [(.double hi1)])) rfl (by rw [hml]; rfl) (argsL := [(.double hi1)]) (rest := []) (lenOf pd_0 rfl) rfl (by show 2 * 0 + _ ≤ _; exact Nat.le_of_eq rfl) (hb hby d_prog_8_2_27) (by decide) (by decide) ⟨rfl, nx2⟩ rfl
        obtain ⟨T206, X206, e206, st206⟩ := natS X205 hx hZ hown (hw _ (List.mem_of_getElem? (i := 38) rfl)) (hw _ (List.mem_of_getElem? (i := 39) rfl)) (hw _ (List.mem_of_getElem? (i := 40) rfl)) (hw _ (List.mem_of_getElem? (i := 41) rfl)) (by decide) e205 (W := 2) (val' := (.double (q2 &&& 0x7fffffffffffffff))) (fun c => Jvm.Free.Fl.Abs.absD_pays q2 c (by decide) (by decide)) (g := (mkF m 32 #[.val (.ref a1), .val (.double dx), .second, .val (.double hi1), .second, .val (.int (2 : Int32)), .val (.int (2 : Int32)), .val (.double q2), .second, .val (.double hi1), .second, .val (.double lo1), .second] [(.double q2), (.double (hi1 &&& 0x7fffffffffffffff))])) rfl (by rw [hml]; rfl) (argsL := [(.double q2)]) (rest := [(.double (hi1 &&& 0x7fffffffffffffff))]) (lenOf pd_0 rfl) rfl (by show 2 * 0 + _ ≤ _; exact Nat.le_of_eq rfl) (hb hby d_prog_8_2_32) (by decide) (by decide) ⟨rfl, nq2⟩ rfl
        have k207 : ∀ t_, Steps p.tables e below (T206.setTop (mkF m 36 #[.val (.ref a1), .val (.double dx), .second, .val (.double hi1), .second, .val (.int (2 : Int32)), .val (.int (2 : Int32)), .val (.double q2), .second, .val (.double hi1), .second, .val (.double lo1), .second] [(.int (cmpValue (FP.dcmp (hi1 &&& 0x7fffffffffffffff) (q2 &&& 0x7fffffffffffffff)) .g))])) t_ → Steps p.tables e below A t_ := by
          intro t_ ht_
          refine k173 t_ ?_
          refine own_f_ifNo X170.here hx (hb hby d_prog_8_2_68) ((if0 _ _).trans (feq (hz1)).1) (rfl : _ = 71) ?_
          refine own_f_aloadN X170.here hx (hb hby d_prog_8_2_71) rfl rfl (rfl : _ = 72) ?_
          refine st199 _ ?_
          show Steps p.tables e below (T199.setTop (mkF m 75 #[.val (.ref a1), .val (.double dx), .second, .val (.double (own_fst hi0 q1)), .second, .val (.int (1 : Int32)), .val (.int (1 : Int32)), .val (.double (own_snd hi0 q1)), .second, .val (.double hi1), .second, .val (.double lo1), .second] [(.ref ar)])) t_
          refine own_f_iload X199.here hx (hb hby d_prog_8_2_75) rfl (rfl : _ = 77) ?_
          refine own_f_iinc X199.here hx (hb hby d_prog_8_2_77) rfl (rfl : storeLocals _ _ _ = some #[.val (.ref a1), .val (.double dx), .second, .val (.double (own_fst hi0 q1)), .second, .val (.int (2 : Int32)), .val (.int (1 : Int32)), .val (.double (own_snd hi0 q1)), .second, .val (.double hi1), .second, .val (.double lo1), .second]) (rfl : _ = 80) ?_
          refine own_f_dload X199.here hx (hb hby d_prog_8_2_80) rfl (rfl : _ = 82) ?_
          refine st201 _ ?_
          show Steps p.tables e below (T201.setTop (mkF m 83 #[.val (.ref a1), .val (.double dx), .second, .val (.double (own_fst hi0 q1)), .second, .val (.int (2 : Int32)), .val (.int (1 : Int32)), .val (.double (own_snd hi0 q1)), .second, .val (.double hi1), .second, .val (.double lo1), .second] [])) t_
          refine own_f_dload X201.here hx (hb hby d_prog_8_2_83) rfl (rfl : _ = 85) ?_
          refine own_f_dstoreN X201.here hx (hb hby d_prog_8_2_85) (rfl : storeLocals _ _ _ = some #[.val (.ref a1), .val (.double dx), .second, .val (.double hi1), .second, .val (.int (2 : Int32)), .val (.int (1 : Int32)), .val (.double (own_snd hi0 q1)), .second, .val (.double hi1), .second, .val (.double lo1), .second]) (rfl : _ = 86) ?_
          refine own_f_iinc X201.here hx (hb hby d_prog_8_2_86) rfl (rfl : storeLocals _ _ _ = some #[.val (.ref a1), .val (.double dx), .second, .val (.double hi1), .second, .val (.int (2 : Int32)), .val (.int (2 : Int32)), .val (.double (own_snd hi0 q1)), .second, .val (.double hi1), .second, .val (.double lo1), .second]) (rfl : _ = 89) ?_
          refine own_f_goto X201.here hx (hb hby d_prog_8_2_89) (by decide) (by decide : _ = 8) ?_
          refine own_f_iload X201.here hx (hb hby d_prog_8_2_8) rfl (rfl : _ = 10) ?_
          refine own_f_aloadN X201.here hx (hb hby d_prog_8_2_10) rfl rfl (rfl : _ = 11) ?_
          refine st202 _ ?_
          show Steps p.tables e below (T202.setTop (mkF m 14 #[.val (.ref a1), .val (.double dx), .second, .val (.double hi1), .second, .val (.int (2 : Int32)), .val (.int (2 : Int32)), .val (.double (own_snd hi0 q1)), .second, .val (.double hi1), .second, .val (.double lo1), .second] [(.int (3 : Int32)), (.int (2 : Int32))])) t_
          refine own_f_icmpNo X202.here hx (hb hby d_prog_8_2_14) (tlt (by decide)).2.1 (rfl : _ = 17) ?_
          refine own_f_aloadN X202.here hx (hb hby d_prog_8_2_17) rfl rfl (rfl : _ = 18) ?_
          refine st203 _ ?_
          show Steps p.tables e below (T203.setTop (mkF m 21 #[.val (.ref a1), .val (.double dx), .second, .val (.double hi1), .second, .val (.int (2 : Int32)), .val (.int (2 : Int32)), .val (.double (own_snd hi0 q1)), .second, .val (.double hi1), .second, .val (.double lo1), .second] [(.ref ar)])) t_
          refine own_f_iload X203.here hx (hb hby d_prog_8_2_21) rfl (rfl : _ = 23) ?_
          refine X203.daload hx (j := (2 : Int32)) (v := (.double q2)) (by rw [e203]; exact Ar204.1) (State.isArrayOf_alike hZ.alike Ar204.2.1) Ar204.2.2 hin204 hat204 (g := (mkF m 23 #[.val (.ref a1), .val (.double dx), .second, .val (.double hi1), .second, .val (.int (2 : Int32)), .val (.int (2 : Int32)), .val (.double (own_snd hi0 q1)), .second, .val (.double hi1), .second, .val (.double lo1), .second] [(.int (2 : Int32)), (.ref ar)])) rfl rfl (hb hby d_prog_8_2_23) _ ?_
          show Steps p.tables e below (T203.setTop (mkF m 24 #[.val (.ref a1), .val (.double dx), .second, .val (.double hi1), .second, .val (.int (2 : Int32)), .val (.int (2 : Int32)), .val (.double (own_snd hi0 q1)), .second, .val (.double hi1), .second, .val (.double lo1), .second] [(.double q2)])) t_
          refine own_f_dstore X203.here hx (hb hby d_prog_8_2_24) (rfl : storeLocals _ _ _ = some #[.val (.ref a1), .val (.double dx), .second, .val (.double hi1), .second, .val (.int (2 : Int32)), .val (.int (2 : Int32)), .val (.double q2), .second, .val (.double hi1), .second, .val (.double lo1), .second]) (rfl : _ = 26) ?_
          refine own_f_dloadN X203.here hx (hb hby d_prog_8_2_26) rfl (rfl : _ = 27) ?_
          refine st205 _ ?_
          show Steps p.tables e below (T205.setTop (mkF m 30 #[.val (.ref a1), .val (.double dx), .second, .val (.double hi1), .second, .val (.int (2 : Int32)), .val (.int (2 : Int32)), .val (.double q2), .second, .val (.double hi1), .second, .val (.double lo1), .second] [(.double (hi1 &&& 0x7fffffffffffffff))])) t_
          refine own_f_dload X205.here hx (hb hby d_prog_8_2_30) rfl (rfl : _ = 32) ?_
          refine st206 _ ?_
          show Steps p.tables e below (T206.setTop (mkF m 35 #[.val (.ref a1), .val (.double dx), .second, .val (.double hi1), .second, .val (.int (2 : Int32)), .val (.int (2 : Int32)), .val (.double q2), .second, .val (.double hi1), .second, .val (.double lo1), .second] [(.double (q2 &&& 0x7fffffffffffffff)), (.double (hi1 &&& 0x7fffffffffffffff))])) t_
          refine own_f_dcmp X206.here hx (hb hby d_prog_8_2_35) rfl (rfl : _ = 36) ?_
          exact ht_
        have k208 : ∀ t_, Steps p.tables e below (T206.setTop (mkF m 64 #[.val (.ref a1), .val (.double dx), .second, .val (.double (own_fst hi1 q2)), .second, .val (.int (2 : Int32)), .val (.int (2 : Int32)), .val (.double (own_snd hi1 q2)), .second, .val (.double (FP.dadd (own_fst hi1 q2) (own_snd hi1 q2))), .second, .val (.double (own_lo (own_fst hi1 q2) (own_snd hi1 q2))), .second] [])) t_ → Steps p.tables e below A t_ := by
          intro t_ ht_
          refine k207 t_ ?_
          by_cases hsw : own_lt hi1 q2
          · have e1 : own_fst hi1 q2 = q2 := if_pos hsw
            have e2 : own_snd hi1 q2 = hi1 := if_pos hsw
            rw [e1, e2] at ht_ na2 nb2 nc2
            have hs_ : (cmpValue (FP.dcmp (hi1 &&& 0x7fffffffffffffff) (q2 &&& 0x7fffffffffffffff)) .g) < (0 : Int32) := hsw
            refine own_f_ifNo X206.here hx (hb hby d_prog_8_2_36) ((if0 _ _).trans (tlt (hs_)).2.1) (rfl : _ = 39) ?_
            refine own_f_dload X206.here hx (hb hby d_prog_8_2_39) rfl (rfl : _ = 41) ?_
            refine own_f_dstore X206.here hx (hb hby d_prog_8_2_41) (rfl : storeLocals _ _ _ = some #[.val (.ref a1), .val (.double dx), .second, .val (.double hi1), .second, .val (.int (2 : Int32)), .val (.int (2 : Int32)), .val (.double q2), .second, .val (.double q2), .second, .val (.double lo1), .second]) (rfl : _ = 43) ?_
            refine own_f_dloadN X206.here hx (hb hby d_prog_8_2_43) rfl (rfl : _ = 44) ?_
            refine own_f_dstore X206.here hx (hb hby d_prog_8_2_44) (rfl : storeLocals _ _ _ = some #[.val (.ref a1), .val (.double dx), .second, .val (.double hi1), .second, .val (.int (2 : Int32)), .val (.int (2 : Int32)), .val (.double hi1), .second, .val (.double q2), .second, .val (.double lo1), .second]) (rfl : _ = 46) ?_
            refine own_f_dload X206.here hx (hb hby d_prog_8_2_46) rfl (rfl : _ = 48) ?_
            refine own_f_dstoreN X206.here hx (hb hby d_prog_8_2_48) (rfl : storeLocals _ _ _ = some #[.val (.ref a1), .val (.double dx), .second, .val (.double q2), .second, .val (.int (2 : Int32)), .val (.int (2 : Int32)), .val (.double hi1), .second, .val (.double q2), .second, .val (.double lo1), .second]) (rfl : _ = 49) ?_
            refine own_f_dloadN X206.here hx (hb hby d_prog_8_2_49) rfl (rfl : _ = 50) ?_
            refine own_f_dload X206.here hx (hb hby d_prog_8_2_50) rfl (rfl : _ = 52) ?_
            refine own_f_dadd X206.here hx (hb hby d_prog_8_2_52) (na2) rfl (rfl : _ = 53) ?_
            refine own_f_dstore X206.here hx (hb hby d_prog_8_2_53) (rfl : storeLocals _ _ _ = some #[.val (.ref a1), .val (.double dx), .second, .val (.double q2), .second, .val (.int (2 : Int32)), .val (.int (2 : Int32)), .val (.double hi1), .second, .val (.double (FP.dadd q2 hi1)), .second, .val (.double lo1), .second]) (rfl : _ = 55) ?_
            refine own_f_dload X206.here hx (hb hby d_prog_8_2_55) rfl (rfl : _ = 57) ?_
            refine own_f_dload X206.here hx (hb hby d_prog_8_2_57) rfl (rfl : _ = 59) ?_
            refine own_f_dloadN X206.here hx (hb hby d_prog_8_2_59) rfl (rfl : _ = 60) ?_
            refine own_f_dsub X206.here hx (hb hby d_prog_8_2_60) (nb2) rfl (rfl : _ = 61) ?_
            refine own_f_dsub X206.here hx (hb hby d_prog_8_2_61) (nc2) rfl (rfl : _ = 62) ?_
            refine own_f_dstore X206.here hx (hb hby d_prog_8_2_62) (rfl : storeLocals _ _ _ = some #[.val (.ref a1), .val (.double dx), .second, .val (.double q2), .second, .val (.int (2 : Int32)), .val (.int (2 : Int32)), .val (.double hi1), .second, .val (.double (FP.dadd q2 hi1)), .second, .val (.double (FP.dsub hi1 (FP.dsub (FP.dadd q2 hi1) q2))), .second]) (rfl : _ = 64) ?_
            exact ht_
          · have e1 : own_fst hi1 q2 = hi1 := if_neg hsw
            have e2 : own_snd hi1 q2 = q2 := if_neg hsw
            rw [e1, e2] at ht_ na2 nb2 nc2
            have hs_ : ¬ ((cmpValue (FP.dcmp (hi1 &&& 0x7fffffffffffffff) (q2 &&& 0x7fffffffffffffff)) .g) < (0 : Int32)) := hsw
            refine own_f_ifYes X206.here hx (hb hby d_prog_8_2_36) ((if0 _ _).trans (flt (hs_)).2.1) (by decide) (by decide : _ = 49) ?_
            refine own_f_dloadN X206.here hx (hb hby d_prog_8_2_49) rfl (rfl : _ = 50) ?_
            refine own_f_dload X206.here hx (hb hby d_prog_8_2_50) rfl (rfl : _ = 52) ?_
            refine own_f_dadd X206.here hx (hb hby d_prog_8_2_52) (na2) rfl (rfl : _ = 53) ?_
            refine own_f_dstore X206.here hx (hb hby d_prog_8_2_53) (rfl : storeLocals _ _ _ = some #[.val (.ref a1), .val (.double dx), .second, .val (.double hi1), .second, .val (.int (2 : Int32)), .val (.int (2 : Int32)), .val (.double q2), .second, .val (.double (FP.dadd hi1 q2)), .second, .val (.double lo1), .second]) (rfl : _ = 55) ?_
            refine own_f_dload X206.here hx (hb hby d_prog_8_2_55) rfl (rfl : _ = 57) ?_
            refine own_f_dload X206.here hx (hb hby d_prog_8_2_57) rfl (rfl : _ = 59) ?_
            refine own_f_dloadN X206.here hx (hb hby d_prog_8_2_59) rfl (rfl : _ = 60) ?_
            refine own_f_dsub X206.here hx (hb hby d_prog_8_2_60) (nb2) rfl (rfl : _ = 61) ?_
            refine own_f_dsub X206.here hx (hb hby d_prog_8_2_61) (nc2) rfl (rfl : _ = 62) ?_
            refine own_f_dstore X206.here hx (hb hby d_prog_8_2_62) (rfl : storeLocals _ _ _ = some #[.val (.ref a1), .val (.double dx), .second, .val (.double hi1), .second, .val (.int (2 : Int32)), .val (.int (2 : Int32)), .val (.double q2), .second, .val (.double (FP.dadd hi1 q2)), .second, .val (.double (FP.dsub q2 (FP.dsub (FP.dadd hi1 q2) hi1))), .second]) (rfl : _ = 64) ?_
            exact ht_
        obtain ⟨hi2, hhi2⟩ : ∃ z : UInt64, z = (FP.dadd (own_fst hi1 q2) (own_snd hi1 q2)) := ⟨_, rfl⟩
        rw [← hhi2] at k208
        obtain ⟨lo2, hlo2⟩ : ∃ z : UInt64, z = (own_lo (own_fst hi1 q2) (own_snd hi1 q2)) := ⟨_, rfl⟩
        rw [← hlo2] at k208
        replace hnn := own_nn' hhi2 hnn
        have k209 : ∀ t_, Steps p.tables e below (T206.setTop (mkF m 68 #[.val (.ref a1), .val (.double dx), .second, .val (.double (own_fst hi1 q2)), .second, .val (.int (2 : Int32)), .val (.int (2 : Int32)), .val (.double (own_snd hi1 q2)), .second, .val (.double hi2), .second, .val (.double lo2), .second] [(.int (cmpValue (FP.dcmp lo2 (0 : UInt64)) .l))])) t_ → Steps p.tables e below A t_ := by
          intro t_ ht_
          refine k208 t_ ?_
          refine own_f_dload X206.here hx (hb hby d_prog_8_2_64) rfl (rfl : _ = 66) ?_
          refine own_f_dconst0 X206.here hx (hb hby d_prog_8_2_66) (rfl : _ = (0 : UInt64)) (rfl : _ = 67) ?_
          refine own_f_dcmp X206.here hx (hb hby d_prog_8_2_67) rfl (rfl : _ = 68) ?_
          exact ht_
        by_cases hz2 : (cmpValue (FP.dcmp lo2 (0 : UInt64)) .l) = (0 : Int32)
        · obtain ⟨T210, X210, e210, st210⟩ := getF X206 hx hZ hown (host := "") (Or.inl (hw _ (List.mem_of_getElem? (i := 17) rfl))) Via.refl e206 Fs (g := (mkF m 11 #[.val (.ref a1), .val (.double dx), .second, .val (.double hi2), .second, .val (.int (2 : Int32)), .val (.int (3 : Int32)), .val (.double (own_snd hi1 q2)), .second, .val (.double hi2), .second, .val (.double lo2), .second] [(.ref a1), (.int (3 : Int32))])) rfl rfl (hb hby d_prog_8_2_11)
          obtain ⟨T211, X211, e211, st211⟩ := getF X210 hx hZ hown (host := "") (Or.inl (hw _ (List.mem_of_getElem? (i := 10) rfl))) Via.refl e210 Fp (g := (mkF m 95 #[.val (.ref a1), .val (.double dx), .second, .val (.double hi2), .second, .val (.int (2 : Int32)), .val (.int (3 : Int32)), .val (.double (own_snd hi1 q2)), .second, .val (.double hi2), .second, .val (.double lo2), .second] [(.ref a1), (.int (2 : Int32))])) rfl rfl (hb hby d_prog_8_2_95)
          obtain ⟨cl212, Ar212, -, Sz212, Ng212, -, -⟩ := id Va
          obtain ⟨T213, X213, e213, st213⟩ := getF X211 hx hZ hown (host := "") (Or.inl (hw _ (List.mem_of_getElem? (i := 10) rfl))) Via.refl e211 Fp (g := (mkF m 118 #[.val (.ref a1), .val (.double dx), .second, .val (.double hi2), .second, .val (.int (2 : Int32)), .val (.int (3 : Int32)), .val (.double (own_snd hi1 q2)), .second, .val (.double hi2), .second, .val (.double lo2), .second] [(.ref a1)])) rfl rfl (hb hby d_prog_8_2_118)
          obtain ⟨cl214, Ar214, q214, Sz214, Ng214, Hs214, Gs214⟩ := Va
          have hin214 : ¬ ((2 : Int32) < 0 ∨ cl214.slots.size ≤ ((2 : Int32)).toNatClampNeg) := inb_of Sz214 ⟨by decide, by decide⟩
          obtain ⟨T215, h215, X215, e215, W215, st215⟩ := stD X213 hx hZ e213 Ar214 (j := (2 : Int32)) hin214 (g := (mkF m 127 #[.val (.ref a1), .val (.double dx), .second, .val (.double hi2), .second, .val (.int (3 : Int32)), .val (.int (3 : Int32)), .val (.double (own_snd hi1 q2)), .second, .val (.double hi2), .second, .val (.double lo2), .second] [(.double hi2), (.int (2 : Int32)), (.ref ar)])) rfl rfl (hb hby d_prog_8_2_127)
          replace Ea := Ea.wr W215
          replace Fp := Fp.other W215 (Or.inl hne)
          replace Fs := Fs.other W215 (Or.inl hne)
          have Zs215 := Nat.le_trans Zs201 (Keep.of_wr W215).1
          replace KK := KK.wr W215 (Or.inl (by simp))
          have Va : Arv Z h215 ar kc .double (4 : Int32) [(.double lo0), (.double lo1), (.double hi2), (.double q3)] (.double (0 : UInt64)) := Arv.set Ar214 q214 Sz214 Ng214 Hs214 Gs214 rfl W215 2 rfl (Nat.le_of_ble_eq_true rfl)
          have N215 := Fr.snoc X215 N201 g_ar
          obtain ⟨T216, h216, X216, e216, W216, st216⟩ := putF X215 hx hZ hown (host := "") (Or.inl (hw _ (List.mem_of_getElem? (i := 17) rfl))) Via.refl e215 Fs Ea (Or.inl (hw _ (List.mem_of_getElem? (i := 18) rfl))) (hw _ (List.mem_of_getElem? (i := 1) rfl)) (ty := .int) (by decide) rfl rfl (g := (mkF m 131 #[.val (.ref a1), .val (.double dx), .second, .val (.double hi2), .second, .val (.int (3 : Int32)), .val (.int (3 : Int32)), .val (.double (own_snd hi1 q2)), .second, .val (.double hi2), .second, .val (.double lo2), .second] [(.int (3 : Int32)), (.ref a1)])) rfl rfl (hb hby d_prog_8_2_131)
          replace Ea := Ea.wr W216
          replace Fp := Fp.other W216 (Or.inr (slot_ne (Or.inl (hw _ (List.mem_of_getElem? (i := 11) rfl))) (Or.inl (hw _ (List.mem_of_getElem? (i := 18) rfl))) (by decide) (t := (.array .double)) (t' := .int) (by decide) (by decide)))
          replace Va := Va.other W216 (Ne.symm hne)
          have Zs216 := Nat.le_trans Zs215 (Keep.of_wr W216).1
          replace KK := KK.wr W216 (Or.inl (by simp))
          replace Fs := Fs.same W216
          have N216 := Fr.snoc X216 N215 g_a1
          obtain ⟨fs, hr, hrun, hended, hW, hsame⟩ := X216.leave (v := none) (fun _ => rfl) hlk
          refine ⟨_, _, ?_, hrun, hended, _, _, rfl, ?_, ⟨_, rfl⟩, hW, hsame.mono (by decide) (by decide)⟩
          · refine hA0 _ ?_
            refine k209 _ ?_
            refine own_f_ifYes X206.here hx (hb hby d_prog_8_2_68) ((if0 _ _).trans (teq (hz2)).1) (by decide) (by decide : _ = 83) ?_
            refine own_f_dload X206.here hx (hb hby d_prog_8_2_83) rfl (rfl : _ = 85) ?_
            refine own_f_dstoreN X206.here hx (hb hby d_prog_8_2_85) (rfl : storeLocals _ _ _ = some #[.val (.ref a1), .val (.double dx), .second, .val (.double hi2), .second, .val (.int (2 : Int32)), .val (.int (2 : Int32)), .val (.double (own_snd hi1 q2)), .second, .val (.double hi2), .second, .val (.double lo2), .second]) (rfl : _ = 86) ?_
            refine own_f_iinc X206.here hx (hb hby d_prog_8_2_86) rfl (rfl : storeLocals _ _ _ = some #[.val (.ref a1), .val (.double dx), .second, .val (.double hi2), .second, .val (.int (2 : Int32)), .val (.int (3 : Int32)), .val (.double (own_snd hi1 q2)), .second, .val (.double hi2), .second, .val (.double lo2), .second]) (rfl : _ = 89) ?_
            refine own_f_goto X206.here hx (hb hby d_prog_8_2_89) (by decide) (by decide : _ = 8) ?_
            refine own_f_iload X206.here hx (hb hby d_prog_8_2_8) rfl (rfl : _ = 10) ?_
            refine own_f_aloadN X206.here hx (hb hby d_prog_8_2_10) rfl rfl (rfl : _ = 11) ?_
            refine st210 _ ?_
            show Steps p.tables e below (T210.setTop (mkF m 14 #[.val (.ref a1), .val (.double dx), .second, .val (.double hi2), .second, .val (.int (2 : Int32)), .val (.int (3 : Int32)), .val (.double (own_snd hi1 q2)), .second, .val (.double hi2), .second, .val (.double lo2), .second] [(.int (3 : Int32)), (.int (3 : Int32))])) _
            refine own_f_icmpYes X210.here hx (hb hby d_prog_8_2_14) (flt (by decide)).2.1 (by decide) (by decide : _ = 92) ?_
            refine own_f_iload X210.here hx (hb hby d_prog_8_2_92) rfl (rfl : _ = 94) ?_
            refine own_f_aloadN X210.here hx (hb hby d_prog_8_2_94) rfl rfl (rfl : _ = 95) ?_
            refine st211 _ ?_
            show Steps p.tables e below (T211.setTop (mkF m 98 #[.val (.ref a1), .val (.double dx), .second, .val (.double hi2), .second, .val (.int (2 : Int32)), .val (.int (3 : Int32)), .val (.double (own_snd hi1 q2)), .second, .val (.double hi2), .second, .val (.double lo2), .second] [(.ref ar), (.int (2 : Int32))])) _
            refine X211.arraylength hx (by rw [e211]; exact Ar212.1) (State.isArrayOf_alike hZ.alike Ar212.2.1) (g := (mkF m 98 #[.val (.ref a1), .val (.double dx), .second, .val (.double hi2), .second, .val (.int (2 : Int32)), .val (.int (3 : Int32)), .val (.double (own_snd hi1 q2)), .second, .val (.double hi2), .second, .val (.double lo2), .second] [(.ref ar), (.int (2 : Int32))])) rfl rfl (hb hby d_prog_8_2_98) _ ?_
            rw [len_of Sz212 Ng212]
            show Steps p.tables e below (T211.setTop (mkF m 99 #[.val (.ref a1), .val (.double dx), .second, .val (.double hi2), .second, .val (.int (2 : Int32)), .val (.int (3 : Int32)), .val (.double (own_snd hi1 q2)), .second, .val (.double hi2), .second, .val (.double lo2), .second] [(.int (4 : Int32)), (.int (2 : Int32))])) _
            refine own_f_icmpYes X211.here hx (hb hby d_prog_8_2_99) (feq (by decide)).2 (by decide) (by decide : _ = 117) ?_
            refine own_f_aloadN X211.here hx (hb hby d_prog_8_2_117) rfl rfl (rfl : _ = 118) ?_
            refine st213 _ ?_
            show Steps p.tables e below (T213.setTop (mkF m 121 #[.val (.ref a1), .val (.double dx), .second, .val (.double hi2), .second, .val (.int (2 : Int32)), .val (.int (3 : Int32)), .val (.double (own_snd hi1 q2)), .second, .val (.double hi2), .second, .val (.double lo2), .second] [(.ref ar)])) _
            refine own_f_iload X213.here hx (hb hby d_prog_8_2_121) rfl (rfl : _ = 123) ?_
            refine own_f_iinc X213.here hx (hb hby d_prog_8_2_123) rfl (rfl : storeLocals _ _ _ = some #[.val (.ref a1), .val (.double dx), .second, .val (.double hi2), .second, .val (.int (3 : Int32)), .val (.int (3 : Int32)), .val (.double (own_snd hi1 q2)), .second, .val (.double hi2), .second, .val (.double lo2), .second]) (rfl : _ = 126) ?_
            refine own_f_dloadN X213.here hx (hb hby d_prog_8_2_126) rfl (rfl : _ = 127) ?_
            refine st215 _ ?_
            show Steps p.tables e below (T215.setTop (mkF m 128 #[.val (.ref a1), .val (.double dx), .second, .val (.double hi2), .second, .val (.int (3 : Int32)), .val (.int (3 : Int32)), .val (.double (own_snd hi1 q2)), .second, .val (.double hi2), .second, .val (.double lo2), .second] [])) _
            refine own_f_aloadN X215.here hx (hb hby d_prog_8_2_128) rfl rfl (rfl : _ = 129) ?_
            refine own_f_iload X215.here hx (hb hby d_prog_8_2_129) rfl (rfl : _ = 131) ?_
            refine st216 _ ?_
            show Steps p.tables e below (T216.setTop (mkF m 134 #[.val (.ref a1), .val (.double dx), .second, .val (.double hi2), .second, .val (.int (3 : Int32)), .val (.int (3 : Int32)), .val (.double (own_snd hi1 q2)), .second, .val (.double hi2), .second, .val (.double lo2), .second] [])) _
            exact X216.returnOut hx Bd.returns (hb hby d_prog_8_2_134) hr
          · show Q2 Z a1 dx _ ar kc q0 q1 q2 q3 _ h0 n0 _ T216.heap _
            rw [e216]
            exact ⟨(3 : Int32), lo0, lo1, hi2, q3, rfl, N216, KK, Fp, Fs, Va, own_res (M := [lo0, lo1, hi2]) (by rw [own_ins_c hlo0 hhi0 hz0, own_ins_c hlo1 hhi1 hz1, own_ins_d hlo2 hhi2 hz2]; rfl) (by show Int32.toInt 3 = ((3 : Nat) : Int); decide) rfl⟩
        · obtain ⟨T217, X217, e217, st217⟩ := getF X206 hx hZ hown (host := "") (Or.inl (hw _ (List.mem_of_getElem? (i := 10) rfl))) Via.refl e206 Fp (g := (mkF m 72 #[.val (.ref a1), .val (.double dx), .second, .val (.double (own_fst hi1 q2)), .second, .val (.int (2 : Int32)), .val (.int (2 : Int32)), .val (.double (own_snd hi1 q2)), .second, .val (.double hi2), .second, .val (.double lo2), .second] [(.ref a1)])) rfl rfl (hb hby d_prog_8_2_72)
          obtain ⟨cl218, Ar218, q218, Sz218, Ng218, Hs218, Gs218⟩ := Va
          have hin218 : ¬ ((2 : Int32) < 0 ∨ cl218.slots.size ≤ ((2 : Int32)).toNatClampNeg) := inb_of Sz218 ⟨by decide, by decide⟩
          obtain ⟨T219, h219, X219, e219, W219, st219⟩ := stD X217 hx hZ e217 Ar218 (j := (2 : Int32)) hin218 (g := (mkF m 82 #[.val (.ref a1), .val (.double dx), .second, .val (.double (own_fst hi1 q2)), .second, .val (.int (3 : Int32)), .val (.int (2 : Int32)), .val (.double (own_snd hi1 q2)), .second, .val (.double hi2), .second, .val (.double lo2), .second] [(.double lo2), (.int (2 : Int32)), (.ref ar)])) rfl rfl (hb hby d_prog_8_2_82)
          replace Ea := Ea.wr W219
          replace Fp := Fp.other W219 (Or.inl hne)
          replace Fs := Fs.other W219 (Or.inl hne)
          have Zs219 := Nat.le_trans Zs201 (Keep.of_wr W219).1
          replace KK := KK.wr W219 (Or.inl (by simp))
          have Va : Arv Z h219 ar kc .double (4 : Int32) [(.double lo0), (.double lo1), (.double lo2), (.double q3)] (.double (0 : UInt64)) := Arv.set Ar218 q218 Sz218 Ng218 Hs218 Gs218 rfl W219 2 rfl (Nat.le_of_ble_eq_true rfl)
          have N219 := Fr.snoc X219 N201 g_ar
          obtain ⟨T220, X220, e220, st220⟩ := getF X219 hx hZ hown (host := "") (Or.inl (hw _ (List.mem_of_getElem? (i := 17) rfl))) Via.refl e219 Fs (g := (mkF m 11 #[.val (.ref a1), .val (.double dx), .second, .val (.double hi2), .second, .val (.int (3 : Int32)), .val (.int (3 : Int32)), .val (.double (own_snd hi1 q2)), .second, .val (.double hi2), .second, .val (.double lo2), .second] [(.ref a1), (.int (3 : Int32))])) rfl rfl (hb hby d_prog_8_2_11)
          obtain ⟨T221, X221, e221, st221⟩ := getF X220 hx hZ hown (host := "") (Or.inl (hw _ (List.mem_of_getElem? (i := 10) rfl))) Via.refl e220 Fp (g := (mkF m 95 #[.val (.ref a1), .val (.double dx), .second, .val (.double hi2), .second, .val (.int (3 : Int32)), .val (.int (3 : Int32)), .val (.double (own_snd hi1 q2)), .second, .val (.double hi2), .second, .val (.double lo2), .second] [(.ref a1), (.int (3 : Int32))])) rfl rfl (hb hby d_prog_8_2_95)
          obtain ⟨cl222, Ar222, -, Sz222, Ng222, -, -⟩ := id Va
          obtain ⟨T223, X223, e223, st223⟩ := getF X221 hx hZ hown (host := "") (Or.inl (hw _ (List.mem_of_getElem? (i := 10) rfl))) Via.refl e221 Fp (g := (mkF m 118 #[.val (.ref a1), .val (.double dx), .second, .val (.double hi2), .second, .val (.int (3 : Int32)), .val (.int (3 : Int32)), .val (.double (own_snd hi1 q2)), .second, .val (.double hi2), .second, .val (.double lo2), .second] [(.ref a1)])) rfl rfl (hb hby d_prog_8_2_118)
          obtain ⟨cl224, Ar224, q224, Sz224, Ng224, Hs224, Gs224⟩ := Va
          have hin224 : ¬ ((3 : Int32) < 0 ∨ cl224.slots.size ≤ ((3 : Int32)).toNatClampNeg) := inb_of Sz224 ⟨by decide, by decide⟩
          obtain ⟨T225, h225, X225, e225, W225, st225⟩ := stD X223 hx hZ e223 Ar224 (j := (3 : Int32)) hin224 (g := (mkF m 127 #[.val (.ref a1), .val (.double dx), .second, .val (.double hi2), .second, .val (.int (4 : Int32)), .val (.int (3 : Int32)), .val (.double (own_snd hi1 q2)), .second, .val (.double hi2), .second, .val (.double lo2), .second] [(.double hi2), (.int (3 : Int32)), (.ref ar)])) rfl rfl (hb hby d_prog_8_2_127)
          replace Ea := Ea.wr W225
          replace Fp := Fp.other W225 (Or.inl hne)
          replace Fs := Fs.other W225 (Or.inl hne)
          have Zs225 := Nat.le_trans Zs219 (Keep.of_wr W225).1
          replace KK := KK.wr W225 (Or.inl (by simp))
          have Va : Arv Z h225 ar kc .double (4 : Int32) [(.double lo0), (.double lo1), (.double lo2), (.double hi2)] (.double (0 : UInt64)) := Arv.set Ar224 q224 Sz224 Ng224 Hs224 Gs224 rfl W225 3 rfl (Nat.le_of_ble_eq_true rfl)
          have N225 := Fr.snoc X225 N219 g_ar
          obtain ⟨T226, h226, X226, e226, W226, st226⟩ := putF X225 hx hZ hown (host := "") (Or.inl (hw _ (List.mem_of_getElem? (i := 17) rfl))) Via.refl e225 Fs Ea (Or.inl (hw _ (List.mem_of_getElem? (i := 18) rfl))) (hw _ (List.mem_of_getElem? (i := 1) rfl)) (ty := .int) (by decide) rfl rfl (g := (mkF m 131 #[.val (.ref a1), .val (.double dx), .second, .val (.double hi2), .second, .val (.int (4 : Int32)), .val (.int (3 : Int32)), .val (.double (own_snd hi1 q2)), .second, .val (.double hi2), .second, .val (.double lo2), .second] [(.int (4 : Int32)), (.ref a1)])) rfl rfl (hb hby d_prog_8_2_131)
          replace Ea := Ea.wr W226
          replace Fp := Fp.other W226 (Or.inr (slot_ne (Or.inl (hw _ (List.mem_of_getElem? (i := 11) rfl))) (Or.inl (hw _ (List.mem_of_getElem? (i := 18) rfl))) (by decide) (t := (.array .double)) (t' := .int) (by decide) (by decide)))
          replace Va := Va.other W226 (Ne.symm hne)
          have Zs226 := Nat.le_trans Zs225 (Keep.of_wr W226).1
          replace KK := KK.wr W226 (Or.inl (by simp))
          replace Fs := Fs.same W226
          have N226 := Fr.snoc X226 N225 g_a1
          obtain ⟨fs, hr, hrun, hended, hW, hsame⟩ := X226.leave (v := none) (fun _ => rfl) hlk
          refine ⟨_, _, ?_, hrun, hended, _, _, rfl, ?_, ⟨_, rfl⟩, hW, hsame.mono (by decide) (by decide)⟩
          · refine hA0 _ ?_
            refine k209 _ ?_
            refine own_f_ifNo X206.here hx (hb hby d_prog_8_2_68) ((if0 _ _).trans (feq (hz2)).1) (rfl : _ = 71) ?_
            refine own_f_aloadN X206.here hx (hb hby d_prog_8_2_71) rfl rfl (rfl : _ = 72) ?_
            refine st217 _ ?_
            show Steps p.tables e below (T217.setTop (mkF m 75 #[.val (.ref a1), .val (.double dx), .second, .val (.double (own_fst hi1 q2)), .second, .val (.int (2 : Int32)), .val (.int (2 : Int32)), .val (.double (own_snd hi1 q2)), .second, .val (.double hi2), .second, .val (.double lo2), .second] [(.ref ar)])) _
            refine own_f_iload X217.here hx (hb hby d_prog_8_2_75) rfl (rfl : _ = 77) ?_
            refine own_f_iinc X217.here hx (hb hby d_prog_8_2_77) rfl (rfl : storeLocals _ _ _ = some #[.val (.ref a1), .val (.double dx), .second, .val (.double (own_fst hi1 q2)), .second, .val (.int (3 : Int32)), .val (.int (2 : Int32)), .val (.double (own_snd hi1 q2)), .second, .val (.double hi2), .second, .val (.double lo2), .second]) (rfl : _ = 80) ?_
            refine own_f_dload X217.here hx (hb hby d_prog_8_2_80) rfl (rfl : _ = 82) ?_
            refine st219 _ ?_
            show Steps p.tables e below (T219.setTop (mkF m 83 #[.val (.ref a1), .val (.double dx), .second, .val (.double (own_fst hi1 q2)), .second, .val (.int (3 : Int32)), .val (.int (2 : Int32)), .val (.double (own_snd hi1 q2)), .second, .val (.double hi2), .second, .val (.double lo2), .second] [])) _
            refine own_f_dload X219.here hx (hb hby d_prog_8_2_83) rfl (rfl : _ = 85) ?_
            refine own_f_dstoreN X219.here hx (hb hby d_prog_8_2_85) (rfl : storeLocals _ _ _ = some #[.val (.ref a1), .val (.double dx), .second, .val (.double hi2), .second, .val (.int (3 : Int32)), .val (.int (2 : Int32)), .val (.double (own_snd hi1 q2)), .second, .val (.double hi2), .second, .val (.double lo2), .second]) (rfl : _ = 86) ?_
            refine own_f_iinc X219.here hx (hb hby d_prog_8_2_86) rfl (rfl : storeLocals _ _ _ = some #[.val (.ref a1), .val (.double dx), .second, .val (.double hi2), .second, .val (.int (3 : Int32)), .val (.int (3 : Int32)), .val (.double (own_snd hi1 q2)), .second, .val (.double hi2), .second, .val (.double lo2), .second]) (rfl : _ = 89) ?_
            refine own_f_goto X219.here hx (hb hby d_prog_8_2_89) (by decide) (by decide : _ = 8) ?_
            refine own_f_iload X219.here hx (hb hby d_prog_8_2_8) rfl (rfl : _ = 10) ?_
            refine own_f_aloadN X219.here hx (hb hby d_prog_8_2_10) rfl rfl (rfl : _ = 11) ?_
            refine st220 _ ?_
            show Steps p.tables e below (T220.setTop (mkF m 14 #[.val (.ref a1), .val (.double dx), .second, .val (.double hi2), .second, .val (.int (3 : Int32)), .val (.int (3 : Int32)), .val (.double (own_snd hi1 q2)), .second, .val (.double hi2), .second, .val (.double lo2), .second] [(.int (3 : Int32)), (.int (3 : Int32))])) _
            refine own_f_icmpYes X220.here hx (hb hby d_prog_8_2_14) (flt (by decide)).2.1 (by decide) (by decide : _ = 92) ?_
            refine own_f_iload X220.here hx (hb hby d_prog_8_2_92) rfl (rfl : _ = 94) ?_
            refine own_f_aloadN X220.here hx (hb hby d_prog_8_2_94) rfl rfl (rfl : _ = 95) ?_
            refine st221 _ ?_
            show Steps p.tables e below (T221.setTop (mkF m 98 #[.val (.ref a1), .val (.double dx), .second, .val (.double hi2), .second, .val (.int (3 : Int32)), .val (.int (3 : Int32)), .val (.double (own_snd hi1 q2)), .second, .val (.double hi2), .second, .val (.double lo2), .second] [(.ref ar), (.int (3 : Int32))])) _
            refine X221.arraylength hx (by rw [e221]; exact Ar222.1) (State.isArrayOf_alike hZ.alike Ar222.2.1) (g := (mkF m 98 #[.val (.ref a1), .val (.double dx), .second, .val (.double hi2), .second, .val (.int (3 : Int32)), .val (.int (3 : Int32)), .val (.double (own_snd hi1 q2)), .second, .val (.double hi2), .second, .val (.double lo2), .second] [(.ref ar), (.int (3 : Int32))])) rfl rfl (hb hby d_prog_8_2_98) _ ?_
            rw [len_of Sz222 Ng222]
            show Steps p.tables e below (T221.setTop (mkF m 99 #[.val (.ref a1), .val (.double dx), .second, .val (.double hi2), .second, .val (.int (3 : Int32)), .val (.int (3 : Int32)), .val (.double (own_snd hi1 q2)), .second, .val (.double hi2), .second, .val (.double lo2), .second] [(.int (4 : Int32)), (.int (3 : Int32))])) _
            refine own_f_icmpYes X221.here hx (hb hby d_prog_8_2_99) (feq (by decide)).2 (by decide) (by decide : _ = 117) ?_
            refine own_f_aloadN X221.here hx (hb hby d_prog_8_2_117) rfl rfl (rfl : _ = 118) ?_
            refine st223 _ ?_
            show Steps p.tables e below (T223.setTop (mkF m 121 #[.val (.ref a1), .val (.double dx), .second, .val (.double hi2), .second, .val (.int (3 : Int32)), .val (.int (3 : Int32)), .val (.double (own_snd hi1 q2)), .second, .val (.double hi2), .second, .val (.double lo2), .second] [(.ref ar)])) _
            refine own_f_iload X223.here hx (hb hby d_prog_8_2_121) rfl (rfl : _ = 123) ?_
            refine own_f_iinc X223.here hx (hb hby d_prog_8_2_123) rfl (rfl : storeLocals _ _ _ = some #[.val (.ref a1), .val (.double dx), .second, .val (.double hi2), .second, .val (.int (4 : Int32)), .val (.int (3 : Int32)), .val (.double (own_snd hi1 q2)), .second, .val (.double hi2), .second, .val (.double lo2), .second]) (rfl : _ = 126) ?_
            refine own_f_dloadN X223.here hx (hb hby d_prog_8_2_126) rfl (rfl : _ = 127) ?_
            refine st225 _ ?_
            show Steps p.tables e below (T225.setTop (mkF m 128 #[.val (.ref a1), .val (.double dx), .second, .val (.double hi2), .second, .val (.int (4 : Int32)), .val (.int (3 : Int32)), .val (.double (own_snd hi1 q2)), .second, .val (.double hi2), .second, .val (.double lo2), .second] [])) _
            refine own_f_aloadN X225.here hx (hb hby d_prog_8_2_128) rfl rfl (rfl : _ = 129) ?_
            refine own_f_iload X225.here hx (hb hby d_prog_8_2_129) rfl (rfl : _ = 131) ?_
            refine st226 _ ?_
            show Steps p.tables e below (T226.setTop (mkF m 134 #[.val (.ref a1), .val (.double dx), .second, .val (.double hi2), .second, .val (.int (4 : Int32)), .val (.int (3 : Int32)), .val (.double (own_snd hi1 q2)), .second, .val (.double hi2), .second, .val (.double lo2), .second] [])) _
            exact X226.returnOut hx Bd.returns (hb hby d_prog_8_2_134) hr
          · show Q2 Z a1 dx _ ar kc q0 q1 q2 q3 _ h0 n0 _ T226.heap _
            rw [e226]
            exact ⟨(4 : Int32), lo0, lo1, lo2, hi2, rfl, N226, KK, Fp, Fs, Va, own_res (M := [lo0, lo1, lo2, hi2]) (by rw [own_ins_c hlo0 hhi0 hz0, own_ins_c hlo1 hhi1 hz1, own_ins_c hlo2 hhi2 hz2]; rfl) (by show Int32.toInt 4 = ((4 : Nat) : Int); decide) rfl⟩
theorem ef_3 (m : MethodId) (x0 : Addr) : entryFrame m #[(.ref x0)] 10 = mkF m 0 #[.val (.ref x0), .unset, .unset, .unset, .unset, .unset, .unset, .unset, .unset, .unset] [] := by first | (simp [entryFrame, mkF, argsToLocals, Value.category]; done) | rfl
def Q3 (Z : State) (a1 : Addr) (k1 : Int32) (ar : Addr) (kc : ClassId) (q0 : UInt64) (q1 : UInt64) (q2 : UInt64) (q3 : UInt64) (qs : List UInt64) (h0 : Heap) (n0 : Nat) (v : Option Value) (h : Heap) (L : List Loc) : Prop := v = some (.double (own_value qs)) ∧ Fr n0 L ∧ h = h0
set_option maxRecDepth 65536 in
set_option maxHeartbeats 40000000 in
theorem rm3 (l : Launch) (Z : State) (a0 : Array Value) (hw : ∀ d ∈ tables_1, d.before a0 Z = true) (ws : List Jvm.Cond) (a1 : Addr) (k1 : Int32) (ar : Addr) (kc : ClassId) (q0 : UInt64) (q1 : UInt64) (q2 : UInt64) (q3 : UInt64) (qs : List UInt64) (h0 : Heap) (n0 : Nat) (Z0 : n0 ≤ h0.size) (Fp : Fld Z h0 a1 "com/example/prose_to_query/prosetoquery/retrieval/ExactSum" "partials" "[D" (.ref ar)) (Fs : Fld Z h0 a1 "com/example/prose_to_query/prosetoquery/retrieval/ExactSum" "size" "I" (.int k1)) (Va : Arv Z h0 ar kc .double (4 : Int32) [.double q0, .double q1, .double q2, .double q3] (.double (0 : UInt64))) (hq : own_Res qs k1 [q0, q1, q2, q3]) (hlen : qs.length ≤ 4) (hvn : own_VN0 qs) :
    MetFree l (⟨"com/example/prose_to_query/prosetoquery/retrieval/ExactSum", "value", "()D"⟩ : MethodName) (head1 (Jvm.Cond.code (⟨"com/example/prose_to_query/prosetoquery/retrieval/ExactSum", "value", "()D"⟩ : MethodName) prog_8_method_4_code 10 (some .double) :: ws) ({ frames := 0, cells := 0, slots := 0, locals := 0 } : Room)) (fun a U => a = #[(.ref a1)] ∧ Z.Warmed39 U.vm ∧ U.heap = h0) (fun _ _ _ _ _ => True) (fun _ U o U' => ∃ v L, o = .returned v ∧ Q3 Z a1 k1 ar kc q0 q1 q2 q3 qs h0 n0 v U'.heap L ∧ FrameEnd U o U' L ({ frames := 0, cells := 0, slots := 0, locals := 0 } : Room).cells ({ frames := 0, cells := 0, slots := 0, locals := 0 } : Room).slots) := by
  refine MetFree.of_bodySF (plainFor_of_name pn_0) hisR ?_
  intro p e s m args below meth c s₁ Bd hml0 hP hK
  obtain ⟨rfl, hZ, hh⟩ := hP
  have hlk : meth.locks = false := BodyLoose.notSynchronized Bd
  have hx := Bd.exec
  have hby := Bd.bytes
  have hml : c.maxLocals = 10 := hml0
  have hown : s.vm.findClass "com/example/prose_to_query/prosetoquery/retrieval/ExactSum" = some m.cls := findClass_of_methodNamed Bd.named
  have hnm := (name_of_methodNamed Bd.named Bd.method).1
  have X0 : Stand p l e ({ frames := 0, cells := 0, slots := 0, locals := 0 } : Room) s m #[(.ref a1)] below meth c s₁ [] 0 0 := Stand.of_body Bd
  have e0 : s₁.heap = h0 := by rw [← hh, Bd.state]; rfl
  have N0 := Fr.nil n0
  obtain ⟨A, hA⟩ : ∃ A, A = s₁.setTop (mkF m 0 #[.val (.ref a1), .unset, .unset, .unset, .unset, .unset, .unset, .unset, .unset, .unset] []) := ⟨_, rfl⟩
  have hA0 : ∀ t, Steps p.tables e below A t → Steps p.tables e below (s₁.setTop (entryFrame m #[(.ref a1)] 10)) t := fun t k => castTop (ef_3 m a1) (hA ▸ k)
  have k0 : ∀ t, Steps p.tables e below (s₁.setTop (mkF m 0 #[.val (.ref a1), .unset, .unset, .unset, .unset, .unset, .unset, .unset, .unset, .unset] [])) t → Steps p.tables e below A t := fun t k => hA ▸ k
  rcases own_k5 hq hlen with rfl | rfl | rfl | rfl | rfl
  · obtain rfl : qs = [] := own_qs hq 0 (by decide)
    obtain ⟨T1, X1, e1, st1⟩ := getF X0 hx hZ hown (host := "") (Or.inl (hw _ (List.mem_of_getElem? (i := 17) rfl))) Via.refl e0 Fs (g := (mkF m 1 #[.val (.ref a1), .unset, .unset, .unset, .unset, .unset, .unset, .unset, .unset, .unset] [(.ref a1)])) rfl rfl (hb hby d_prog_8_4_1)
    obtain ⟨fs, hr, hrun, hended, hW, hsame⟩ := X1.leave (v := some (.double (0 : UInt64))) (fun h => by rw [Bd.returns] at h; cases h) hlk
    refine ⟨_, _, ?_, hrun, hended, _, _, rfl, ?_, ⟨_, rfl⟩, hW, hsame.mono (by decide) (by decide)⟩
    · refine hA0 _ ?_
      refine k0 _ ?_
      refine own_f_aloadN X0.here hx (hb hby d_prog_8_4_0) rfl rfl (rfl : _ = 1) ?_
      refine st1 _ ?_
      show Steps p.tables e below (T1.setTop (mkF m 4 #[.val (.ref a1), .unset, .unset, .unset, .unset, .unset, .unset, .unset, .unset, .unset] [(.int (0 : Int32))])) _
      refine own_f_ifNo X1.here hx (hb hby d_prog_8_4_4) ((if0 _ _).trans (teq (by decide)).2) (rfl : _ = 7) ?_
      refine own_f_dconst0 X1.here hx (hb hby d_prog_8_4_7) (rfl : _ = (0 : UInt64)) (rfl : _ = 8) ?_
      exact retD X1 hx Bd.returns (hb hby d_prog_8_4_8) hr
    · show Q3 Z a1 _ ar kc q0 q1 q2 q3 _ h0 n0 _ T1.heap _
      rw [e1]
      exact ⟨congrArg (fun z => some (Value.double z)) (Eq.symm (rfl)), N0, rfl⟩
  · obtain rfl : qs = [q0] := own_qs hq 1 (by decide)
    obtain ⟨T2, X2, e2, st2⟩ := getF X0 hx hZ hown (host := "") (Or.inl (hw _ (List.mem_of_getElem? (i := 17) rfl))) Via.refl e0 Fs (g := (mkF m 1 #[.val (.ref a1), .unset, .unset, .unset, .unset, .unset, .unset, .unset, .unset, .unset] [(.ref a1)])) rfl rfl (hb hby d_prog_8_4_1)
    replace hvn : own_VN [] q0 := hvn
    obtain ⟨T3, X3, e3, st3⟩ := getF X2 hx hZ hown (host := "") (Or.inl (hw _ (List.mem_of_getElem? (i := 17) rfl))) Via.refl e2 Fs (g := (mkF m 10 #[.val (.ref a1), .unset, .unset, .unset, .unset, .unset, .unset, .unset, .unset, .unset] [(.ref a1)])) rfl rfl (hb hby d_prog_8_4_10)
    obtain ⟨T4, X4, e4, st4⟩ := getF X3 hx hZ hown (host := "") (Or.inl (hw _ (List.mem_of_getElem? (i := 10) rfl))) Via.refl e3 Fp (g := (mkF m 17 #[.val (.ref a1), .val (.int (0 : Int32)), .unset, .unset, .unset, .unset, .unset, .unset, .unset, .unset] [(.ref a1)])) rfl rfl (hb hby d_prog_8_4_17)
    obtain ⟨cl5, Ar5, -, Sz5, Ng5, Hs5, -⟩ := id Va
    have hin5 : ¬ ((0 : Int32) < 0 ∨ cl5.slots.size ≤ ((0 : Int32)).toNatClampNeg) := inb_of Sz5 ⟨by decide, by decide⟩
    have hat5 : cl5.slots[((0 : Int32)).toNatClampNeg]? = some (.double q0) := Hs5 _ (Nat.lt_of_not_le fun q => hin5 (Or.inr q))
    obtain ⟨fs, hr, hrun, hended, hW, hsame⟩ := X4.leave (v := some (.double q0)) (fun h => by rw [Bd.returns] at h; cases h) hlk
    refine ⟨_, _, ?_, hrun, hended, _, _, rfl, ?_, ⟨_, rfl⟩, hW, hsame.mono (by decide) (by decide)⟩
    · refine hA0 _ ?_
      refine k0 _ ?_
      refine own_f_aloadN X0.here hx (hb hby d_prog_8_4_0) rfl rfl (rfl : _ = 1) ?_
      refine st2 _ ?_
      show Steps p.tables e below (T2.setTop (mkF m 4 #[.val (.ref a1), .unset, .unset, .unset, .unset, .unset, .unset, .unset, .unset, .unset] [(.int (1 : Int32))])) _
      refine own_f_ifYes X2.here hx (hb hby d_prog_8_4_4) ((if0 _ _).trans (feq (by decide)).2) (by decide) (by decide : _ = 9) ?_
      refine own_f_aloadN X2.here hx (hb hby d_prog_8_4_9) rfl rfl (rfl : _ = 10) ?_
      refine st3 _ ?_
      show Steps p.tables e below (T3.setTop (mkF m 13 #[.val (.ref a1), .unset, .unset, .unset, .unset, .unset, .unset, .unset, .unset, .unset] [(.int (1 : Int32))])) _
      refine own_f_iconst X3.here hx (hb hby d_prog_8_4_13) (rfl : _ = (1 : Int32)) (rfl : _ = 14) ?_
      refine own_f_isub X3.here hx (hb hby d_prog_8_4_14) (rfl : _ = (0 : Int32)) (rfl : _ = 15) ?_
      refine own_f_istoreN X3.here hx (hb hby d_prog_8_4_15) (rfl : storeLocals _ _ _ = some #[.val (.ref a1), .val (.int (0 : Int32)), .unset, .unset, .unset, .unset, .unset, .unset, .unset, .unset]) (rfl : _ = 16) ?_
      refine own_f_aloadN X3.here hx (hb hby d_prog_8_4_16) rfl rfl (rfl : _ = 17) ?_
      refine st4 _ ?_
      show Steps p.tables e below (T4.setTop (mkF m 20 #[.val (.ref a1), .val (.int (0 : Int32)), .unset, .unset, .unset, .unset, .unset, .unset, .unset, .unset] [(.ref ar)])) _
      refine own_f_iloadN X4.here hx (hb hby d_prog_8_4_20) rfl (rfl : _ = 21) ?_
      refine X4.daload hx (j := (0 : Int32)) (v := (.double q0)) (by rw [e4]; exact Ar5.1) (State.isArrayOf_alike hZ.alike Ar5.2.1) Ar5.2.2 hin5 hat5 (g := (mkF m 21 #[.val (.ref a1), .val (.int (0 : Int32)), .unset, .unset, .unset, .unset, .unset, .unset, .unset, .unset] [(.int (0 : Int32)), (.ref ar)])) rfl rfl (hb hby d_prog_8_4_21) _ ?_
      show Steps p.tables e below (T4.setTop (mkF m 22 #[.val (.ref a1), .val (.int (0 : Int32)), .unset, .unset, .unset, .unset, .unset, .unset, .unset, .unset] [(.double q0)])) _
      refine own_f_dstoreN X4.here hx (hb hby d_prog_8_4_22) (rfl : storeLocals _ _ _ = some #[.val (.ref a1), .val (.int (0 : Int32)), .val (.double q0), .second, .unset, .unset, .unset, .unset, .unset, .unset]) (rfl : _ = 23) ?_
      refine own_f_dconst0 X4.here hx (hb hby d_prog_8_4_23) (rfl : _ = (0 : UInt64)) (rfl : _ = 24) ?_
      refine own_f_dstore X4.here hx (hb hby d_prog_8_4_24) (rfl : storeLocals _ _ _ = some #[.val (.ref a1), .val (.int (0 : Int32)), .val (.double q0), .second, .val (.double (0 : UInt64)), .second, .unset, .unset, .unset, .unset]) (rfl : _ = 26) ?_
      refine own_f_iloadN X4.here hx (hb hby d_prog_8_4_26) rfl (rfl : _ = 27) ?_
      refine own_f_ifYes X4.here hx (hb hby d_prog_8_4_27) ((if0 _ _).trans (flt (by decide)).2.2.2) (by decide) (by decide : _ = 72) ?_
      refine own_f_iloadN X4.here hx (hb hby d_prog_8_4_72) rfl (rfl : _ = 73) ?_
      refine own_f_ifYes X4.here hx (hb hby d_prog_8_4_73) ((if0 _ _).trans (flt (by decide)).2.2.2) (by decide) (by decide : _ = 143) ?_
      refine own_f_dloadN X4.here hx (hb hby d_prog_8_4_143) rfl (rfl : _ = 144) ?_
      exact retD X4 hx Bd.returns (hb hby d_prog_8_4_144) hr
    · show Q3 Z a1 _ ar kc q0 q1 q2 q3 _ h0 n0 _ T4.heap _
      rw [e4]
      exact ⟨congrArg (fun z => some (Value.double z)) (Eq.symm ((show own_value [q0] = own_val [] q0 from rfl).trans (rfl))), N0, rfl⟩
  · obtain rfl : qs = [q0, q1] := own_qs hq 2 (by decide)
    obtain ⟨T6, X6, e6, st6⟩ := getF X0 hx hZ hown (host := "") (Or.inl (hw _ (List.mem_of_getElem? (i := 17) rfl))) Via.refl e0 Fs (g := (mkF m 1 #[.val (.ref a1), .unset, .unset, .unset, .unset, .unset, .unset, .unset, .unset, .unset] [(.ref a1)])) rfl rfl (hb hby d_prog_8_4_1)
    replace hvn : own_VN [q0] q1 := hvn
    obtain ⟨T7, X7, e7, st7⟩ := getF X6 hx hZ hown (host := "") (Or.inl (hw _ (List.mem_of_getElem? (i := 17) rfl))) Via.refl e6 Fs (g := (mkF m 10 #[.val (.ref a1), .unset, .unset, .unset, .unset, .unset, .unset, .unset, .unset, .unset] [(.ref a1)])) rfl rfl (hb hby d_prog_8_4_10)
    obtain ⟨T8, X8, e8, st8⟩ := getF X7 hx hZ hown (host := "") (Or.inl (hw _ (List.mem_of_getElem? (i := 10) rfl))) Via.refl e7 Fp (g := (mkF m 17 #[.val (.ref a1), .val (.int (1 : Int32)), .unset, .unset, .unset, .unset, .unset, .unset, .unset, .unset] [(.ref a1)])) rfl rfl (hb hby d_prog_8_4_17)
    obtain ⟨cl9, Ar9, -, Sz9, Ng9, Hs9, -⟩ := id Va
    have hin9 : ¬ ((1 : Int32) < 0 ∨ cl9.slots.size ≤ ((1 : Int32)).toNatClampNeg) := inb_of Sz9 ⟨by decide, by decide⟩
    have hat9 : cl9.slots[((1 : Int32)).toNatClampNeg]? = some (.double q1) := Hs9 _ (Nat.lt_of_not_le fun q => hin9 (Or.inr q))
    obtain ⟨T10, X10, e10, st10⟩ := getF X8 hx hZ hown (host := "") (Or.inl (hw _ (List.mem_of_getElem? (i := 10) rfl))) Via.refl e8 Fp (g := (mkF m 37 #[.val (.ref a1), .val (.int (0 : Int32)), .val (.double q1), .second, .val (.double (0 : UInt64)), .second, .val (.double q1), .second, .unset, .unset] [(.ref a1)])) rfl rfl (hb hby d_prog_8_4_37)
    obtain ⟨cl11, Ar11, -, Sz11, Ng11, Hs11, -⟩ := id Va
    have hin11 : ¬ ((0 : Int32) < 0 ∨ cl11.slots.size ≤ ((0 : Int32)).toNatClampNeg) := inb_of Sz11 ⟨by decide, by decide⟩
    have hat11 : cl11.slots[((0 : Int32)).toNatClampNeg]? = some (.double q0) := Hs11 _ (Nat.lt_of_not_le fun q => hin11 (Or.inr q))
    have k12 : ∀ t_, Steps p.tables e below (T10.setTop (mkF m 50 #[.val (.ref a1), .val (.int (0 : Int32)), .val (.double (FP.dadd q1 q0)), .second, .val (.double (0 : UInt64)), .second, .val (.double q1), .second, .val (.double q0), .second] [])) t_ → Steps p.tables e below A t_ := by
      intro t_ ht_
      refine k0 t_ ?_
      refine own_f_aloadN X0.here hx (hb hby d_prog_8_4_0) rfl rfl (rfl : _ = 1) ?_
      refine st6 _ ?_
      show Steps p.tables e below (T6.setTop (mkF m 4 #[.val (.ref a1), .unset, .unset, .unset, .unset, .unset, .unset, .unset, .unset, .unset] [(.int (2 : Int32))])) t_
      refine own_f_ifYes X6.here hx (hb hby d_prog_8_4_4) ((if0 _ _).trans (feq (by decide)).2) (by decide) (by decide : _ = 9) ?_
      refine own_f_aloadN X6.here hx (hb hby d_prog_8_4_9) rfl rfl (rfl : _ = 10) ?_
      refine st7 _ ?_
      show Steps p.tables e below (T7.setTop (mkF m 13 #[.val (.ref a1), .unset, .unset, .unset, .unset, .unset, .unset, .unset, .unset, .unset] [(.int (2 : Int32))])) t_
      refine own_f_iconst X7.here hx (hb hby d_prog_8_4_13) (rfl : _ = (1 : Int32)) (rfl : _ = 14) ?_
      refine own_f_isub X7.here hx (hb hby d_prog_8_4_14) (rfl : _ = (1 : Int32)) (rfl : _ = 15) ?_
      refine own_f_istoreN X7.here hx (hb hby d_prog_8_4_15) (rfl : storeLocals _ _ _ = some #[.val (.ref a1), .val (.int (1 : Int32)), .unset, .unset, .unset, .unset, .unset, .unset, .unset, .unset]) (rfl : _ = 16) ?_
      refine own_f_aloadN X7.here hx (hb hby d_prog_8_4_16) rfl rfl (rfl : _ = 17) ?_
      refine st8 _ ?_
      show Steps p.tables e below (T8.setTop (mkF m 20 #[.val (.ref a1), .val (.int (1 : Int32)), .unset, .unset, .unset, .unset, .unset, .unset, .unset, .unset] [(.ref ar)])) t_
      refine own_f_iloadN X8.here hx (hb hby d_prog_8_4_20) rfl (rfl : _ = 21) ?_
      refine X8.daload hx (j := (1 : Int32)) (v := (.double q1)) (by rw [e8]; exact Ar9.1) (State.isArrayOf_alike hZ.alike Ar9.2.1) Ar9.2.2 hin9 hat9 (g := (mkF m 21 #[.val (.ref a1), .val (.int (1 : Int32)), .unset, .unset, .unset, .unset, .unset, .unset, .unset, .unset] [(.int (1 : Int32)), (.ref ar)])) rfl rfl (hb hby d_prog_8_4_21) _ ?_
      show Steps p.tables e below (T8.setTop (mkF m 22 #[.val (.ref a1), .val (.int (1 : Int32)), .unset, .unset, .unset, .unset, .unset, .unset, .unset, .unset] [(.double q1)])) t_
      refine own_f_dstoreN X8.here hx (hb hby d_prog_8_4_22) (rfl : storeLocals _ _ _ = some #[.val (.ref a1), .val (.int (1 : Int32)), .val (.double q1), .second, .unset, .unset, .unset, .unset, .unset, .unset]) (rfl : _ = 23) ?_
      refine own_f_dconst0 X8.here hx (hb hby d_prog_8_4_23) (rfl : _ = (0 : UInt64)) (rfl : _ = 24) ?_
      refine own_f_dstore X8.here hx (hb hby d_prog_8_4_24) (rfl : storeLocals _ _ _ = some #[.val (.ref a1), .val (.int (1 : Int32)), .val (.double q1), .second, .val (.double (0 : UInt64)), .second, .unset, .unset, .unset, .unset]) (rfl : _ = 26) ?_
      refine own_f_iloadN X8.here hx (hb hby d_prog_8_4_26) rfl (rfl : _ = 27) ?_
      refine own_f_ifNo X8.here hx (hb hby d_prog_8_4_27) ((if0 _ _).trans (tlt (by decide)).2.2.2) (rfl : _ = 30) ?_
      refine own_f_dloadN X8.here hx (hb hby d_prog_8_4_30) rfl (rfl : _ = 31) ?_
      refine own_f_dstore X8.here hx (hb hby d_prog_8_4_31) (rfl : storeLocals _ _ _ = some #[.val (.ref a1), .val (.int (1 : Int32)), .val (.double q1), .second, .val (.double (0 : UInt64)), .second, .val (.double q1), .second, .unset, .unset]) (rfl : _ = 33) ?_
      refine own_f_iinc X8.here hx (hb hby d_prog_8_4_33) rfl (rfl : storeLocals _ _ _ = some #[.val (.ref a1), .val (.int (0 : Int32)), .val (.double q1), .second, .val (.double (0 : UInt64)), .second, .val (.double q1), .second, .unset, .unset]) (rfl : _ = 36) ?_
      refine own_f_aloadN X8.here hx (hb hby d_prog_8_4_36) rfl rfl (rfl : _ = 37) ?_
      refine st10 _ ?_
      show Steps p.tables e below (T10.setTop (mkF m 40 #[.val (.ref a1), .val (.int (0 : Int32)), .val (.double q1), .second, .val (.double (0 : UInt64)), .second, .val (.double q1), .second, .unset, .unset] [(.ref ar)])) t_
      refine own_f_iloadN X10.here hx (hb hby d_prog_8_4_40) rfl (rfl : _ = 41) ?_
      refine X10.daload hx (j := (0 : Int32)) (v := (.double q0)) (by rw [e10]; exact Ar11.1) (State.isArrayOf_alike hZ.alike Ar11.2.1) Ar11.2.2 hin11 hat11 (g := (mkF m 41 #[.val (.ref a1), .val (.int (0 : Int32)), .val (.double q1), .second, .val (.double (0 : UInt64)), .second, .val (.double q1), .second, .unset, .unset] [(.int (0 : Int32)), (.ref ar)])) rfl rfl (hb hby d_prog_8_4_41) _ ?_
      show Steps p.tables e below (T10.setTop (mkF m 42 #[.val (.ref a1), .val (.int (0 : Int32)), .val (.double q1), .second, .val (.double (0 : UInt64)), .second, .val (.double q1), .second, .unset, .unset] [(.double q0)])) t_
      refine own_f_dstore X10.here hx (hb hby d_prog_8_4_42) (rfl : storeLocals _ _ _ = some #[.val (.ref a1), .val (.int (0 : Int32)), .val (.double q1), .second, .val (.double (0 : UInt64)), .second, .val (.double q1), .second, .val (.double q0), .second]) (rfl : _ = 44) ?_
      refine own_f_dload X10.here hx (hb hby d_prog_8_4_44) rfl (rfl : _ = 46) ?_
      refine own_f_dload X10.here hx (hb hby d_prog_8_4_46) rfl (rfl : _ = 48) ?_
      refine own_f_dadd X10.here hx (hb hby d_prog_8_4_48) (hvn.1) rfl (rfl : _ = 49) ?_
      refine own_f_dstoreN X10.here hx (hb hby d_prog_8_4_49) (rfl : storeLocals _ _ _ = some #[.val (.ref a1), .val (.int (0 : Int32)), .val (.double (FP.dadd q1 q0)), .second, .val (.double (0 : UInt64)), .second, .val (.double q1), .second, .val (.double q0), .second]) (rfl : _ = 50) ?_
      exact ht_
    obtain ⟨hi1, hhi1⟩ : ∃ z : UInt64, z = (FP.dadd q1 q0) := ⟨_, rfl⟩
    rw [← hhi1] at k12
    obtain ⟨nb1, nc1⟩ := own_vn hhi1 hvn
    have k13 : ∀ t_, Steps p.tables e below (T10.setTop (mkF m 59 #[.val (.ref a1), .val (.int (0 : Int32)), .val (.double hi1), .second, .val (.double (FP.dsub q0 (FP.dsub hi1 q1))), .second, .val (.double q1), .second, .val (.double q0), .second] [])) t_ → Steps p.tables e below A t_ := by
      intro t_ ht_
      refine k12 t_ ?_
      refine own_f_dload X10.here hx (hb hby d_prog_8_4_50) rfl (rfl : _ = 52) ?_
      refine own_f_dloadN X10.here hx (hb hby d_prog_8_4_52) rfl (rfl : _ = 53) ?_
      refine own_f_dload X10.here hx (hb hby d_prog_8_4_53) rfl (rfl : _ = 55) ?_
      refine own_f_dsub X10.here hx (hb hby d_prog_8_4_55) (nb1) rfl (rfl : _ = 56) ?_
      refine own_f_dsub X10.here hx (hb hby d_prog_8_4_56) (nc1) rfl (rfl : _ = 57) ?_
      refine own_f_dstore X10.here hx (hb hby d_prog_8_4_57) (rfl : storeLocals _ _ _ = some #[.val (.ref a1), .val (.int (0 : Int32)), .val (.double hi1), .second, .val (.double (FP.dsub q0 (FP.dsub hi1 q1))), .second, .val (.double q1), .second, .val (.double q0), .second]) (rfl : _ = 59) ?_
      exact ht_
    obtain ⟨lo1, hlo1⟩ : ∃ z : UInt64, z = (FP.dsub q0 (FP.dsub hi1 q1)) := ⟨_, rfl⟩
    rw [← hlo1] at k13
    have k14 : ∀ t_, Steps p.tables e below (T10.setTop (mkF m 63 #[.val (.ref a1), .val (.int (0 : Int32)), .val (.double hi1), .second, .val (.double lo1), .second, .val (.double q1), .second, .val (.double q0), .second] [(.int (cmpValue (FP.dcmp lo1 (0 : UInt64)) .l))])) t_ → Steps p.tables e below A t_ := by
      intro t_ ht_
      refine k13 t_ ?_
      refine own_f_dload X10.here hx (hb hby d_prog_8_4_59) rfl (rfl : _ = 61) ?_
      refine own_f_dconst0 X10.here hx (hb hby d_prog_8_4_61) (rfl : _ = (0 : UInt64)) (rfl : _ = 62) ?_
      refine own_f_dcmp X10.here hx (hb hby d_prog_8_4_62) rfl (rfl : _ = 63) ?_
      exact ht_
    by_cases hz1 : (cmpValue (FP.dcmp lo1 (0 : UInt64)) .l) = (0 : Int32)
    · replace hvn := own_vnN hhi1 hlo1 hvn hz1
      obtain ⟨fs, hr, hrun, hended, hW, hsame⟩ := X10.leave (v := some (.double hi1)) (fun h => by rw [Bd.returns] at h; cases h) hlk
      refine ⟨_, _, ?_, hrun, hended, _, _, rfl, ?_, ⟨_, rfl⟩, hW, hsame.mono (by decide) (by decide)⟩
      · refine hA0 _ ?_
        refine k14 _ ?_
        refine own_f_ifYes X10.here hx (hb hby d_prog_8_4_63) ((if0 _ _).trans (teq (hz1)).1) (by decide) (by decide : _ = 69) ?_
        refine own_f_goto X10.here hx (hb hby d_prog_8_4_69) (by decide) (by decide : _ = 26) ?_
        refine own_f_iloadN X10.here hx (hb hby d_prog_8_4_26) rfl (rfl : _ = 27) ?_
        refine own_f_ifYes X10.here hx (hb hby d_prog_8_4_27) ((if0 _ _).trans (flt (by decide)).2.2.2) (by decide) (by decide : _ = 72) ?_
        refine own_f_iloadN X10.here hx (hb hby d_prog_8_4_72) rfl (rfl : _ = 73) ?_
        refine own_f_ifYes X10.here hx (hb hby d_prog_8_4_73) ((if0 _ _).trans (flt (by decide)).2.2.2) (by decide) (by decide : _ = 143) ?_
        refine own_f_dloadN X10.here hx (hb hby d_prog_8_4_143) rfl (rfl : _ = 144) ?_
        exact retD X10 hx Bd.returns (hb hby d_prog_8_4_144) hr
      · show Q3 Z a1 _ ar kc q0 q1 q2 q3 _ h0 n0 _ T10.heap _
        rw [e10]
        exact ⟨congrArg (fun z => some (Value.double z)) (Eq.symm ((show own_value [q0, q1] = own_val [q0] q1 from rfl).trans ((own_val_z hhi1 hlo1 hz1).trans (rfl)))), N0, rfl⟩
    · obtain ⟨fs, hr, hrun, hended, hW, hsame⟩ := X10.leave (v := some (.double hi1)) (fun h => by rw [Bd.returns] at h; cases h) hlk
      refine ⟨_, _, ?_, hrun, hended, _, _, rfl, ?_, ⟨_, rfl⟩, hW, hsame.mono (by decide) (by decide)⟩
      · refine hA0 _ ?_
        refine k14 _ ?_
        refine own_f_ifNo X10.here hx (hb hby d_prog_8_4_63) ((if0 _ _).trans (feq (hz1)).1) (rfl : _ = 66) ?_
        refine own_f_goto X10.here hx (hb hby d_prog_8_4_66) (by decide) (by decide : _ = 72) ?_
        refine own_f_iloadN X10.here hx (hb hby d_prog_8_4_72) rfl (rfl : _ = 73) ?_
        refine own_f_ifYes X10.here hx (hb hby d_prog_8_4_73) ((if0 _ _).trans (flt (by decide)).2.2.2) (by decide) (by decide : _ = 143) ?_
        refine own_f_dloadN X10.here hx (hb hby d_prog_8_4_143) rfl (rfl : _ = 144) ?_
        exact retD X10 hx Bd.returns (hb hby d_prog_8_4_144) hr
      · show Q3 Z a1 _ ar kc q0 q1 q2 q3 _ h0 n0 _ T10.heap _
        rw [e10]
        exact ⟨congrArg (fun z => some (Value.double z)) (Eq.symm ((show own_value [q0, q1] = own_val [q0] q1 from rfl).trans (own_val_1 hhi1 hlo1 hz1))), N0, rfl⟩
  · obtain rfl : qs = [q0, q1, q2] := own_qs hq 3 (by decide)
    obtain ⟨T15, X15, e15, st15⟩ := getF X0 hx hZ hown (host := "") (Or.inl (hw _ (List.mem_of_getElem? (i := 17) rfl))) Via.refl e0 Fs (g := (mkF m 1 #[.val (.ref a1), .unset, .unset, .unset, .unset, .unset, .unset, .unset, .unset, .unset] [(.ref a1)])) rfl rfl (hb hby d_prog_8_4_1)
    replace hvn : own_VN [q1, q0] q2 := hvn
    obtain ⟨T16, X16, e16, st16⟩ := getF X15 hx hZ hown (host := "") (Or.inl (hw _ (List.mem_of_getElem? (i := 17) rfl))) Via.refl e15 Fs (g := (mkF m 10 #[.val (.ref a1), .unset, .unset, .unset, .unset, .unset, .unset, .unset, .unset, .unset] [(.ref a1)])) rfl rfl (hb hby d_prog_8_4_10)
    obtain ⟨T17, X17, e17, st17⟩ := getF X16 hx hZ hown (host := "") (Or.inl (hw _ (List.mem_of_getElem? (i := 10) rfl))) Via.refl e16 Fp (g := (mkF m 17 #[.val (.ref a1), .val (.int (2 : Int32)), .unset, .unset, .unset, .unset, .unset, .unset, .unset, .unset] [(.ref a1)])) rfl rfl (hb hby d_prog_8_4_17)
    obtain ⟨cl18, Ar18, -, Sz18, Ng18, Hs18, -⟩ := id Va
    have hin18 : ¬ ((2 : Int32) < 0 ∨ cl18.slots.size ≤ ((2 : Int32)).toNatClampNeg) := inb_of Sz18 ⟨by decide, by decide⟩
    have hat18 : cl18.slots[((2 : Int32)).toNatClampNeg]? = some (.double q2) := Hs18 _ (Nat.lt_of_not_le fun q => hin18 (Or.inr q))
    obtain ⟨T19, X19, e19, st19⟩ := getF X17 hx hZ hown (host := "") (Or.inl (hw _ (List.mem_of_getElem? (i := 10) rfl))) Via.refl e17 Fp (g := (mkF m 37 #[.val (.ref a1), .val (.int (1 : Int32)), .val (.double q2), .second, .val (.double (0 : UInt64)), .second, .val (.double q2), .second, .unset, .unset] [(.ref a1)])) rfl rfl (hb hby d_prog_8_4_37)
    obtain ⟨cl20, Ar20, -, Sz20, Ng20, Hs20, -⟩ := id Va
    have hin20 : ¬ ((1 : Int32) < 0 ∨ cl20.slots.size ≤ ((1 : Int32)).toNatClampNeg) := inb_of Sz20 ⟨by decide, by decide⟩
    have hat20 : cl20.slots[((1 : Int32)).toNatClampNeg]? = some (.double q1) := Hs20 _ (Nat.lt_of_not_le fun q => hin20 (Or.inr q))
    have k21 : ∀ t_, Steps p.tables e below (T19.setTop (mkF m 50 #[.val (.ref a1), .val (.int (1 : Int32)), .val (.double (FP.dadd q2 q1)), .second, .val (.double (0 : UInt64)), .second, .val (.double q2), .second, .val (.double q1), .second] [])) t_ → Steps p.tables e below A t_ := by
      intro t_ ht_
      refine k0 t_ ?_
      refine own_f_aloadN X0.here hx (hb hby d_prog_8_4_0) rfl rfl (rfl : _ = 1) ?_
      refine st15 _ ?_
      show Steps p.tables e below (T15.setTop (mkF m 4 #[.val (.ref a1), .unset, .unset, .unset, .unset, .unset, .unset, .unset, .unset, .unset] [(.int (3 : Int32))])) t_
      refine own_f_ifYes X15.here hx (hb hby d_prog_8_4_4) ((if0 _ _).trans (feq (by decide)).2) (by decide) (by decide : _ = 9) ?_
      refine own_f_aloadN X15.here hx (hb hby d_prog_8_4_9) rfl rfl (rfl : _ = 10) ?_
      refine st16 _ ?_
      show Steps p.tables e below (T16.setTop (mkF m 13 #[.val (.ref a1), .unset, .unset, .unset, .unset, .unset, .unset, .unset, .unset, .unset] [(.int (3 : Int32))])) t_
      refine own_f_iconst X16.here hx (hb hby d_prog_8_4_13) (rfl : _ = (1 : Int32)) (rfl : _ = 14) ?_
      refine own_f_isub X16.here hx (hb hby d_prog_8_4_14) (rfl : _ = (2 : Int32)) (rfl : _ = 15) ?_
      refine own_f_istoreN X16.here hx (hb hby d_prog_8_4_15) (rfl : storeLocals _ _ _ = some #[.val (.ref a1), .val (.int (2 : Int32)), .unset, .unset, .unset, .unset, .unset, .unset, .unset, .unset]) (rfl : _ = 16) ?_
      refine own_f_aloadN X16.here hx (hb hby d_prog_8_4_16) rfl rfl (rfl : _ = 17) ?_
      refine st17 _ ?_
      show Steps p.tables e below (T17.setTop (mkF m 20 #[.val (.ref a1), .val (.int (2 : Int32)), .unset, .unset, .unset, .unset, .unset, .unset, .unset, .unset] [(.ref ar)])) t_
      refine own_f_iloadN X17.here hx (hb hby d_prog_8_4_20) rfl (rfl : _ = 21) ?_
      refine X17.daload hx (j := (2 : Int32)) (v := (.double q2)) (by rw [e17]; exact Ar18.1) (State.isArrayOf_alike hZ.alike Ar18.2.1) Ar18.2.2 hin18 hat18 (g := (mkF m 21 #[.val (.ref a1), .val (.int (2 : Int32)), .unset, .unset, .unset, .unset, .unset, .unset, .unset, .unset] [(.int (2 : Int32)), (.ref ar)])) rfl rfl (hb hby d_prog_8_4_21) _ ?_
      show Steps p.tables e below (T17.setTop (mkF m 22 #[.val (.ref a1), .val (.int (2 : Int32)), .unset, .unset, .unset, .unset, .unset, .unset, .unset, .unset] [(.double q2)])) t_
      refine own_f_dstoreN X17.here hx (hb hby d_prog_8_4_22) (rfl : storeLocals _ _ _ = some #[.val (.ref a1), .val (.int (2 : Int32)), .val (.double q2), .second, .unset, .unset, .unset, .unset, .unset, .unset]) (rfl : _ = 23) ?_
      refine own_f_dconst0 X17.here hx (hb hby d_prog_8_4_23) (rfl : _ = (0 : UInt64)) (rfl : _ = 24) ?_
      refine own_f_dstore X17.here hx (hb hby d_prog_8_4_24) (rfl : storeLocals _ _ _ = some #[.val (.ref a1), .val (.int (2 : Int32)), .val (.double q2), .second, .val (.double (0 : UInt64)), .second, .unset, .unset, .unset, .unset]) (rfl : _ = 26) ?_
      refine own_f_iloadN X17.here hx (hb hby d_prog_8_4_26) rfl (rfl : _ = 27) ?_
      refine own_f_ifNo X17.here hx (hb hby d_prog_8_4_27) ((if0 _ _).trans (tlt (by decide)).2.2.2) (rfl : _ = 30) ?_
      refine own_f_dloadN X17.here hx (hb hby d_prog_8_4_30) rfl (rfl : _ = 31) ?_
      refine own_f_dstore X17.here hx (hb hby d_prog_8_4_31) (rfl : storeLocals _ _ _ = some #[.val (.ref a1), .val (.int (2 : Int32)), .val (.double q2), .second, .val (.double (0 : UInt64)), .second, .val (.double q2), .second, .unset, .unset]) (rfl : _ = 33) ?_
      refine own_f_iinc X17.here hx (hb hby d_prog_8_4_33) rfl (rfl : storeLocals _ _ _ = some #[.val (.ref a1), .val (.int (1 : Int32)), .val (.double q2), .second, .val (.double (0 : UInt64)), .second, .val (.double q2), .second, .unset, .unset]) (rfl : _ = 36) ?_
      refine own_f_aloadN X17.here hx (hb hby d_prog_8_4_36) rfl rfl (rfl : _ = 37) ?_
      refine st19 _ ?_
      show Steps p.tables e below (T19.setTop (mkF m 40 #[.val (.ref a1), .val (.int (1 : Int32)), .val (.double q2), .second, .val (.double (0 : UInt64)), .second, .val (.double q2), .second, .unset, .unset] [(.ref ar)])) t_
      refine own_f_iloadN X19.here hx (hb hby d_prog_8_4_40) rfl (rfl : _ = 41) ?_
      refine X19.daload hx (j := (1 : Int32)) (v := (.double q1)) (by rw [e19]; exact Ar20.1) (State.isArrayOf_alike hZ.alike Ar20.2.1) Ar20.2.2 hin20 hat20 (g := (mkF m 41 #[.val (.ref a1), .val (.int (1 : Int32)), .val (.double q2), .second, .val (.double (0 : UInt64)), .second, .val (.double q2), .second, .unset, .unset] [(.int (1 : Int32)), (.ref ar)])) rfl rfl (hb hby d_prog_8_4_41) _ ?_
      show Steps p.tables e below (T19.setTop (mkF m 42 #[.val (.ref a1), .val (.int (1 : Int32)), .val (.double q2), .second, .val (.double (0 : UInt64)), .second, .val (.double q2), .second, .unset, .unset] [(.double q1)])) t_
      refine own_f_dstore X19.here hx (hb hby d_prog_8_4_42) (rfl : storeLocals _ _ _ = some #[.val (.ref a1), .val (.int (1 : Int32)), .val (.double q2), .second, .val (.double (0 : UInt64)), .second, .val (.double q2), .second, .val (.double q1), .second]) (rfl : _ = 44) ?_
      refine own_f_dload X19.here hx (hb hby d_prog_8_4_44) rfl (rfl : _ = 46) ?_
      refine own_f_dload X19.here hx (hb hby d_prog_8_4_46) rfl (rfl : _ = 48) ?_
      refine own_f_dadd X19.here hx (hb hby d_prog_8_4_48) (hvn.1) rfl (rfl : _ = 49) ?_
      refine own_f_dstoreN X19.here hx (hb hby d_prog_8_4_49) (rfl : storeLocals _ _ _ = some #[.val (.ref a1), .val (.int (1 : Int32)), .val (.double (FP.dadd q2 q1)), .second, .val (.double (0 : UInt64)), .second, .val (.double q2), .second, .val (.double q1), .second]) (rfl : _ = 50) ?_
      exact ht_
    obtain ⟨hi2, hhi2⟩ : ∃ z : UInt64, z = (FP.dadd q2 q1) := ⟨_, rfl⟩
    rw [← hhi2] at k21
    obtain ⟨nb2, nc2⟩ := own_vn hhi2 hvn
    have k22 : ∀ t_, Steps p.tables e below (T19.setTop (mkF m 59 #[.val (.ref a1), .val (.int (1 : Int32)), .val (.double hi2), .second, .val (.double (FP.dsub q1 (FP.dsub hi2 q2))), .second, .val (.double q2), .second, .val (.double q1), .second] [])) t_ → Steps p.tables e below A t_ := by
      intro t_ ht_
      refine k21 t_ ?_
      refine own_f_dload X19.here hx (hb hby d_prog_8_4_50) rfl (rfl : _ = 52) ?_
      refine own_f_dloadN X19.here hx (hb hby d_prog_8_4_52) rfl (rfl : _ = 53) ?_
      refine own_f_dload X19.here hx (hb hby d_prog_8_4_53) rfl (rfl : _ = 55) ?_
      refine own_f_dsub X19.here hx (hb hby d_prog_8_4_55) (nb2) rfl (rfl : _ = 56) ?_
      refine own_f_dsub X19.here hx (hb hby d_prog_8_4_56) (nc2) rfl (rfl : _ = 57) ?_
      refine own_f_dstore X19.here hx (hb hby d_prog_8_4_57) (rfl : storeLocals _ _ _ = some #[.val (.ref a1), .val (.int (1 : Int32)), .val (.double hi2), .second, .val (.double (FP.dsub q1 (FP.dsub hi2 q2))), .second, .val (.double q2), .second, .val (.double q1), .second]) (rfl : _ = 59) ?_
      exact ht_
    obtain ⟨lo2, hlo2⟩ : ∃ z : UInt64, z = (FP.dsub q1 (FP.dsub hi2 q2)) := ⟨_, rfl⟩
    rw [← hlo2] at k22
    have k23 : ∀ t_, Steps p.tables e below (T19.setTop (mkF m 63 #[.val (.ref a1), .val (.int (1 : Int32)), .val (.double hi2), .second, .val (.double lo2), .second, .val (.double q2), .second, .val (.double q1), .second] [(.int (cmpValue (FP.dcmp lo2 (0 : UInt64)) .l))])) t_ → Steps p.tables e below A t_ := by
      intro t_ ht_
      refine k22 t_ ?_
      refine own_f_dload X19.here hx (hb hby d_prog_8_4_59) rfl (rfl : _ = 61) ?_
      refine own_f_dconst0 X19.here hx (hb hby d_prog_8_4_61) (rfl : _ = (0 : UInt64)) (rfl : _ = 62) ?_
      refine own_f_dcmp X19.here hx (hb hby d_prog_8_4_62) rfl (rfl : _ = 63) ?_
      exact ht_
    by_cases hz2 : (cmpValue (FP.dcmp lo2 (0 : UInt64)) .l) = (0 : Int32)
    · replace hvn := own_vnN hhi2 hlo2 hvn hz2
      obtain ⟨T24, X24, e24, st24⟩ := getF X19 hx hZ hown (host := "") (Or.inl (hw _ (List.mem_of_getElem? (i := 10) rfl))) Via.refl e19 Fp (g := (mkF m 37 #[.val (.ref a1), .val (.int (0 : Int32)), .val (.double hi2), .second, .val (.double lo2), .second, .val (.double hi2), .second, .val (.double q1), .second] [(.ref a1)])) rfl rfl (hb hby d_prog_8_4_37)
      obtain ⟨cl25, Ar25, -, Sz25, Ng25, Hs25, -⟩ := id Va
      have hin25 : ¬ ((0 : Int32) < 0 ∨ cl25.slots.size ≤ ((0 : Int32)).toNatClampNeg) := inb_of Sz25 ⟨by decide, by decide⟩
      have hat25 : cl25.slots[((0 : Int32)).toNatClampNeg]? = some (.double q0) := Hs25 _ (Nat.lt_of_not_le fun q => hin25 (Or.inr q))
      have k26 : ∀ t_, Steps p.tables e below (T24.setTop (mkF m 50 #[.val (.ref a1), .val (.int (0 : Int32)), .val (.double (FP.dadd hi2 q0)), .second, .val (.double lo2), .second, .val (.double hi2), .second, .val (.double q0), .second] [])) t_ → Steps p.tables e below A t_ := by
        intro t_ ht_
        refine k23 t_ ?_
        refine own_f_ifYes X19.here hx (hb hby d_prog_8_4_63) ((if0 _ _).trans (teq (hz2)).1) (by decide) (by decide : _ = 69) ?_
        refine own_f_goto X19.here hx (hb hby d_prog_8_4_69) (by decide) (by decide : _ = 26) ?_
        refine own_f_iloadN X19.here hx (hb hby d_prog_8_4_26) rfl (rfl : _ = 27) ?_
        refine own_f_ifNo X19.here hx (hb hby d_prog_8_4_27) ((if0 _ _).trans (tlt (by decide)).2.2.2) (rfl : _ = 30) ?_
        refine own_f_dloadN X19.here hx (hb hby d_prog_8_4_30) rfl (rfl : _ = 31) ?_
        refine own_f_dstore X19.here hx (hb hby d_prog_8_4_31) (rfl : storeLocals _ _ _ = some #[.val (.ref a1), .val (.int (1 : Int32)), .val (.double hi2), .second, .val (.double lo2), .second, .val (.double hi2), .second, .val (.double q1), .second]) (rfl : _ = 33) ?_
        refine own_f_iinc X19.here hx (hb hby d_prog_8_4_33) rfl (rfl : storeLocals _ _ _ = some #[.val (.ref a1), .val (.int (0 : Int32)), .val (.double hi2), .second, .val (.double lo2), .second, .val (.double hi2), .second, .val (.double q1), .second]) (rfl : _ = 36) ?_
        refine own_f_aloadN X19.here hx (hb hby d_prog_8_4_36) rfl rfl (rfl : _ = 37) ?_
        refine st24 _ ?_
        show Steps p.tables e below (T24.setTop (mkF m 40 #[.val (.ref a1), .val (.int (0 : Int32)), .val (.double hi2), .second, .val (.double lo2), .second, .val (.double hi2), .second, .val (.double q1), .second] [(.ref ar)])) t_
        refine own_f_iloadN X24.here hx (hb hby d_prog_8_4_40) rfl (rfl : _ = 41) ?_
        refine X24.daload hx (j := (0 : Int32)) (v := (.double q0)) (by rw [e24]; exact Ar25.1) (State.isArrayOf_alike hZ.alike Ar25.2.1) Ar25.2.2 hin25 hat25 (g := (mkF m 41 #[.val (.ref a1), .val (.int (0 : Int32)), .val (.double hi2), .second, .val (.double lo2), .second, .val (.double hi2), .second, .val (.double q1), .second] [(.int (0 : Int32)), (.ref ar)])) rfl rfl (hb hby d_prog_8_4_41) _ ?_
        show Steps p.tables e below (T24.setTop (mkF m 42 #[.val (.ref a1), .val (.int (0 : Int32)), .val (.double hi2), .second, .val (.double lo2), .second, .val (.double hi2), .second, .val (.double q1), .second] [(.double q0)])) t_
        refine own_f_dstore X24.here hx (hb hby d_prog_8_4_42) (rfl : storeLocals _ _ _ = some #[.val (.ref a1), .val (.int (0 : Int32)), .val (.double hi2), .second, .val (.double lo2), .second, .val (.double hi2), .second, .val (.double q0), .second]) (rfl : _ = 44) ?_
        refine own_f_dload X24.here hx (hb hby d_prog_8_4_44) rfl (rfl : _ = 46) ?_
        refine own_f_dload X24.here hx (hb hby d_prog_8_4_46) rfl (rfl : _ = 48) ?_
        refine own_f_dadd X24.here hx (hb hby d_prog_8_4_48) (hvn.1) rfl (rfl : _ = 49) ?_
        refine own_f_dstoreN X24.here hx (hb hby d_prog_8_4_49) (rfl : storeLocals _ _ _ = some #[.val (.ref a1), .val (.int (0 : Int32)), .val (.double (FP.dadd hi2 q0)), .second, .val (.double lo2), .second, .val (.double hi2), .second, .val (.double q0), .second]) (rfl : _ = 50) ?_
        exact ht_
      obtain ⟨hi1, hhi1⟩ : ∃ z : UInt64, z = (FP.dadd hi2 q0) := ⟨_, rfl⟩
      rw [← hhi1] at k26
      obtain ⟨nb1, nc1⟩ := own_vn hhi1 hvn
      have k27 : ∀ t_, Steps p.tables e below (T24.setTop (mkF m 59 #[.val (.ref a1), .val (.int (0 : Int32)), .val (.double hi1), .second, .val (.double (FP.dsub q0 (FP.dsub hi1 hi2))), .second, .val (.double hi2), .second, .val (.double q0), .second] [])) t_ → Steps p.tables e below A t_ := by
        intro t_ ht_
        refine k26 t_ ?_
        refine own_f_dload X24.here hx (hb hby d_prog_8_4_50) rfl (rfl : _ = 52) ?_
        refine own_f_dloadN X24.here hx (hb hby d_prog_8_4_52) rfl (rfl : _ = 53) ?_
        refine own_f_dload X24.here hx (hb hby d_prog_8_4_53) rfl (rfl : _ = 55) ?_
        refine own_f_dsub X24.here hx (hb hby d_prog_8_4_55) (nb1) rfl (rfl : _ = 56) ?_
        refine own_f_dsub X24.here hx (hb hby d_prog_8_4_56) (nc1) rfl (rfl : _ = 57) ?_
        refine own_f_dstore X24.here hx (hb hby d_prog_8_4_57) (rfl : storeLocals _ _ _ = some #[.val (.ref a1), .val (.int (0 : Int32)), .val (.double hi1), .second, .val (.double (FP.dsub q0 (FP.dsub hi1 hi2))), .second, .val (.double hi2), .second, .val (.double q0), .second]) (rfl : _ = 59) ?_
        exact ht_
      obtain ⟨lo1, hlo1⟩ : ∃ z : UInt64, z = (FP.dsub q0 (FP.dsub hi1 hi2)) := ⟨_, rfl⟩
      rw [← hlo1] at k27
      have k28 : ∀ t_, Steps p.tables e below (T24.setTop (mkF m 63 #[.val (.ref a1), .val (.int (0 : Int32)), .val (.double hi1), .second, .val (.double lo1), .second, .val (.double hi2), .second, .val (.double q0), .second] [(.int (cmpValue (FP.dcmp lo1 (0 : UInt64)) .l))])) t_ → Steps p.tables e below A t_ := by
        intro t_ ht_
        refine k27 t_ ?_
        refine own_f_dload X24.here hx (hb hby d_prog_8_4_59) rfl (rfl : _ = 61) ?_
        refine own_f_dconst0 X24.here hx (hb hby d_prog_8_4_61) (rfl : _ = (0 : UInt64)) (rfl : _ = 62) ?_
        refine own_f_dcmp X24.here hx (hb hby d_prog_8_4_62) rfl (rfl : _ = 63) ?_
        exact ht_
      by_cases hz1 : (cmpValue (FP.dcmp lo1 (0 : UInt64)) .l) = (0 : Int32)
      · replace hvn := own_vnN hhi1 hlo1 hvn hz1
        obtain ⟨fs, hr, hrun, hended, hW, hsame⟩ := X24.leave (v := some (.double hi1)) (fun h => by rw [Bd.returns] at h; cases h) hlk
        refine ⟨_, _, ?_, hrun, hended, _, _, rfl, ?_, ⟨_, rfl⟩, hW, hsame.mono (by decide) (by decide)⟩
        · refine hA0 _ ?_
          refine k28 _ ?_
          refine own_f_ifYes X24.here hx (hb hby d_prog_8_4_63) ((if0 _ _).trans (teq (hz1)).1) (by decide) (by decide : _ = 69) ?_
          refine own_f_goto X24.here hx (hb hby d_prog_8_4_69) (by decide) (by decide : _ = 26) ?_
          refine own_f_iloadN X24.here hx (hb hby d_prog_8_4_26) rfl (rfl : _ = 27) ?_
          refine own_f_ifYes X24.here hx (hb hby d_prog_8_4_27) ((if0 _ _).trans (flt (by decide)).2.2.2) (by decide) (by decide : _ = 72) ?_
          refine own_f_iloadN X24.here hx (hb hby d_prog_8_4_72) rfl (rfl : _ = 73) ?_
          refine own_f_ifYes X24.here hx (hb hby d_prog_8_4_73) ((if0 _ _).trans (flt (by decide)).2.2.2) (by decide) (by decide : _ = 143) ?_
          refine own_f_dloadN X24.here hx (hb hby d_prog_8_4_143) rfl (rfl : _ = 144) ?_
          exact retD X24 hx Bd.returns (hb hby d_prog_8_4_144) hr
        · show Q3 Z a1 _ ar kc q0 q1 q2 q3 _ h0 n0 _ T24.heap _
          rw [e24]
          exact ⟨congrArg (fun z => some (Value.double z)) (Eq.symm ((show own_value [q0, q1, q2] = own_val [q1, q0] q2 from rfl).trans ((own_val_z hhi2 hlo2 hz2).trans ((own_val_z hhi1 hlo1 hz1).trans (rfl))))), N0, rfl⟩
      · obtain ⟨fs, hr, hrun, hended, hW, hsame⟩ := X24.leave (v := some (.double hi1)) (fun h => by rw [Bd.returns] at h; cases h) hlk
        refine ⟨_, _, ?_, hrun, hended, _, _, rfl, ?_, ⟨_, rfl⟩, hW, hsame.mono (by decide) (by decide)⟩
        · refine hA0 _ ?_
          refine k28 _ ?_
          refine own_f_ifNo X24.here hx (hb hby d_prog_8_4_63) ((if0 _ _).trans (feq (hz1)).1) (rfl : _ = 66) ?_
          refine own_f_goto X24.here hx (hb hby d_prog_8_4_66) (by decide) (by decide : _ = 72) ?_
          refine own_f_iloadN X24.here hx (hb hby d_prog_8_4_72) rfl (rfl : _ = 73) ?_
          refine own_f_ifYes X24.here hx (hb hby d_prog_8_4_73) ((if0 _ _).trans (flt (by decide)).2.2.2) (by decide) (by decide : _ = 143) ?_
          refine own_f_dloadN X24.here hx (hb hby d_prog_8_4_143) rfl (rfl : _ = 144) ?_
          exact retD X24 hx Bd.returns (hb hby d_prog_8_4_144) hr
        · show Q3 Z a1 _ ar kc q0 q1 q2 q3 _ h0 n0 _ T24.heap _
          rw [e24]
          exact ⟨congrArg (fun z => some (Value.double z)) (Eq.symm ((show own_value [q0, q1, q2] = own_val [q1, q0] q2 from rfl).trans ((own_val_z hhi2 hlo2 hz2).trans (own_val_1 hhi1 hlo1 hz1)))), N0, rfl⟩
    · obtain ⟨fn1, fn2, fn3⟩ := own_vnF hhi2 hlo2 hvn hz2 (by simp)
      have k29 : ∀ t_, Steps p.tables e below (T19.setTop (mkF m 80 #[.val (.ref a1), .val (.int (1 : Int32)), .val (.double hi2), .second, .val (.double lo2), .second, .val (.double q2), .second, .val (.double q1), .second] [(.int (cmpValue (FP.dcmp lo2 (0 : UInt64)) .g))])) t_ → Steps p.tables e below A t_ := by
        intro t_ ht_
        refine k23 t_ ?_
        refine own_f_ifNo X19.here hx (hb hby d_prog_8_4_63) ((if0 _ _).trans (feq (hz2)).1) (rfl : _ = 66) ?_
        refine own_f_goto X19.here hx (hb hby d_prog_8_4_66) (by decide) (by decide : _ = 72) ?_
        refine own_f_iloadN X19.here hx (hb hby d_prog_8_4_72) rfl (rfl : _ = 73) ?_
        refine own_f_ifNo X19.here hx (hb hby d_prog_8_4_73) ((if0 _ _).trans (tlt (by decide)).2.2.2) (rfl : _ = 76) ?_
        refine own_f_dload X19.here hx (hb hby d_prog_8_4_76) rfl (rfl : _ = 78) ?_
        refine own_f_dconst0 X19.here hx (hb hby d_prog_8_4_78) (rfl : _ = (0 : UInt64)) (rfl : _ = 79) ?_
        refine own_f_dcmp X19.here hx (hb hby d_prog_8_4_79) rfl (rfl : _ = 80) ?_
        exact ht_
      by_cases hng : (cmpValue (FP.dcmp lo2 (0 : UInt64)) .g) < (0 : Int32)
      · obtain ⟨T35, X35, e35, st35⟩ := getF X19 hx hZ hown (host := "") (Or.inl (hw _ (List.mem_of_getElem? (i := 10) rfl))) Via.refl e19 Fp (g := (mkF m 84 #[.val (.ref a1), .val (.int (1 : Int32)), .val (.double hi2), .second, .val (.double lo2), .second, .val (.double q2), .second, .val (.double q1), .second] [(.ref a1)])) rfl rfl (hb hby d_prog_8_4_84)
        obtain ⟨cl36, Ar36, -, Sz36, Ng36, Hs36, -⟩ := id Va
        have hin36 : ¬ ((0 : Int32) < 0 ∨ cl36.slots.size ≤ ((0 : Int32)).toNatClampNeg) := inb_of Sz36 ⟨by decide, by decide⟩
        have hat36 : cl36.slots[((0 : Int32)).toNatClampNeg]? = some (.double q0) := Hs36 _ (Nat.lt_of_not_le fun q => hin36 (Or.inr q))
        have k37 : ∀ t_, Steps p.tables e below (T35.setTop (mkF m 93 #[.val (.ref a1), .val (.int (1 : Int32)), .val (.double hi2), .second, .val (.double lo2), .second, .val (.double q2), .second, .val (.double q1), .second] [(.int (cmpValue (FP.dcmp q0 (0 : UInt64)) .g))])) t_ → Steps p.tables e below A t_ := by
          intro t_ ht_
          refine k29 t_ ?_
          refine own_f_ifNo X19.here hx (hb hby d_prog_8_4_80) ((if0 _ _).trans (tlt (hng)).2.1) (rfl : _ = 83) ?_
          refine own_f_aloadN X19.here hx (hb hby d_prog_8_4_83) rfl rfl (rfl : _ = 84) ?_
          refine st35 _ ?_
          show Steps p.tables e below (T35.setTop (mkF m 87 #[.val (.ref a1), .val (.int (1 : Int32)), .val (.double hi2), .second, .val (.double lo2), .second, .val (.double q2), .second, .val (.double q1), .second] [(.ref ar)])) t_
          refine own_f_iloadN X35.here hx (hb hby d_prog_8_4_87) rfl (rfl : _ = 88) ?_
          refine own_f_iconst X35.here hx (hb hby d_prog_8_4_88) (rfl : _ = (1 : Int32)) (rfl : _ = 89) ?_
          refine own_f_isub X35.here hx (hb hby d_prog_8_4_89) (rfl : _ = (0 : Int32)) (rfl : _ = 90) ?_
          refine X35.daload hx (j := (0 : Int32)) (v := (.double q0)) (by rw [e35]; exact Ar36.1) (State.isArrayOf_alike hZ.alike Ar36.2.1) Ar36.2.2 hin36 hat36 (g := (mkF m 90 #[.val (.ref a1), .val (.int (1 : Int32)), .val (.double hi2), .second, .val (.double lo2), .second, .val (.double q2), .second, .val (.double q1), .second] [(.int (0 : Int32)), (.ref ar)])) rfl rfl (hb hby d_prog_8_4_90) _ ?_
          show Steps p.tables e below (T35.setTop (mkF m 91 #[.val (.ref a1), .val (.int (1 : Int32)), .val (.double hi2), .second, .val (.double lo2), .second, .val (.double q2), .second, .val (.double q1), .second] [(.double q0)])) t_
          refine own_f_dconst0 X35.here hx (hb hby d_prog_8_4_91) (rfl : _ = (0 : UInt64)) (rfl : _ = 92) ?_
          refine own_f_dcmp X35.here hx (hb hby d_prog_8_4_92) rfl (rfl : _ = 93) ?_
          exact ht_
        by_cases hnp : (cmpValue (FP.dcmp q0 (0 : UInt64)) .g) < (0 : Int32)
        · have k38 : ∀ t_, Steps p.tables e below (T35.setTop (mkF m 137 #[.val (.ref a1), .val (.int (1 : Int32)), .val (.double hi2), .second, .val (.double lo2), .second, .val (.double (FP.dmul lo2 (4611686018427387904 : UInt64))), .second, .val (.double (FP.dadd hi2 (FP.dmul lo2 (4611686018427387904 : UInt64)))), .second] [(.int (cmpValue (FP.dcmp (FP.dmul lo2 (4611686018427387904 : UInt64)) (FP.dsub (FP.dadd hi2 (FP.dmul lo2 (4611686018427387904 : UInt64))) hi2)) .l))])) t_ → Steps p.tables e below A t_ := by
            intro t_ ht_
            refine k37 t_ ?_
            refine own_f_ifYes X35.here hx (hb hby d_prog_8_4_93) ((if0 _ _).trans (tlt (hnp)).1) (by decide) (by decide : _ = 116) ?_
            refine own_f_dload X35.here hx (hb hby d_prog_8_4_116) rfl (rfl : _ = 118) ?_
            refine own_f_ldc2DoubleC X35 hx hown (mvT hZ (hw _ (List.mem_of_getElem? (i := 44) rfl))) (hb hby d_prog_8_4_118) (rfl : _ = 121) ?_
            refine own_f_dmul X35.here hx (hb hby d_prog_8_4_121) (fn1) rfl (rfl : _ = 122) ?_
            refine own_f_dstore X35.here hx (hb hby d_prog_8_4_122) (rfl : storeLocals _ _ _ = some #[.val (.ref a1), .val (.int (1 : Int32)), .val (.double hi2), .second, .val (.double lo2), .second, .val (.double (FP.dmul lo2 (4611686018427387904 : UInt64))), .second, .val (.double q1), .second]) (rfl : _ = 124) ?_
            refine own_f_dloadN X35.here hx (hb hby d_prog_8_4_124) rfl (rfl : _ = 125) ?_
            refine own_f_dload X35.here hx (hb hby d_prog_8_4_125) rfl (rfl : _ = 127) ?_
            refine own_f_dadd X35.here hx (hb hby d_prog_8_4_127) (fn2) rfl (rfl : _ = 128) ?_
            refine own_f_dstore X35.here hx (hb hby d_prog_8_4_128) (rfl : storeLocals _ _ _ = some #[.val (.ref a1), .val (.int (1 : Int32)), .val (.double hi2), .second, .val (.double lo2), .second, .val (.double (FP.dmul lo2 (4611686018427387904 : UInt64))), .second, .val (.double (FP.dadd hi2 (FP.dmul lo2 (4611686018427387904 : UInt64)))), .second]) (rfl : _ = 130) ?_
            refine own_f_dload X35.here hx (hb hby d_prog_8_4_130) rfl (rfl : _ = 132) ?_
            refine own_f_dload X35.here hx (hb hby d_prog_8_4_132) rfl (rfl : _ = 134) ?_
            refine own_f_dloadN X35.here hx (hb hby d_prog_8_4_134) rfl (rfl : _ = 135) ?_
            refine own_f_dsub X35.here hx (hb hby d_prog_8_4_135) (fn3) rfl (rfl : _ = 136) ?_
            refine own_f_dcmp X35.here hx (hb hby d_prog_8_4_136) rfl (rfl : _ = 137) ?_
            exact ht_
          by_cases hte : (cmpValue (FP.dcmp (FP.dmul lo2 (4611686018427387904 : UInt64)) (FP.dsub (FP.dadd hi2 (FP.dmul lo2 (4611686018427387904 : UInt64))) hi2)) .l) = (0 : Int32)
          · obtain ⟨fs, hr, hrun, hended, hW, hsame⟩ := X35.leave (v := some (.double (FP.dadd hi2 (FP.dmul lo2 (4611686018427387904 : UInt64))))) (fun h => by rw [Bd.returns] at h; cases h) hlk
            refine ⟨_, _, ?_, hrun, hended, _, _, rfl, ?_, ⟨_, rfl⟩, hW, hsame.mono (by decide) (by decide)⟩
            · refine hA0 _ ?_
              refine k38 _ ?_
              refine own_f_ifNo X35.here hx (hb hby d_prog_8_4_137) ((if0 _ _).trans (teq (hte)).2) (rfl : _ = 140) ?_
              refine own_f_dload X35.here hx (hb hby d_prog_8_4_140) rfl (rfl : _ = 142) ?_
              refine own_f_dstoreN X35.here hx (hb hby d_prog_8_4_142) (rfl : storeLocals _ _ _ = some #[.val (.ref a1), .val (.int (1 : Int32)), .val (.double (FP.dadd hi2 (FP.dmul lo2 (4611686018427387904 : UInt64)))), .second, .val (.double lo2), .second, .val (.double (FP.dmul lo2 (4611686018427387904 : UInt64))), .second, .val (.double (FP.dadd hi2 (FP.dmul lo2 (4611686018427387904 : UInt64)))), .second]) (rfl : _ = 143) ?_
              refine own_f_dloadN X35.here hx (hb hby d_prog_8_4_143) rfl (rfl : _ = 144) ?_
              exact retD X35 hx Bd.returns (hb hby d_prog_8_4_144) hr
            · show Q3 Z a1 _ ar kc q0 q1 q2 q3 _ h0 n0 _ T35.heap _
              rw [e35]
              exact ⟨congrArg (fun z => some (Value.double z)) (Eq.symm ((show own_value [q0, q1, q2] = own_val [q1, q0] q2 from rfl).trans ((own_val_f hhi2 hlo2 hz2).trans (own_vf_yy (Or.inl ⟨hng, hnp⟩) hte)))), N0, rfl⟩
          · obtain ⟨fs, hr, hrun, hended, hW, hsame⟩ := X35.leave (v := some (.double hi2)) (fun h => by rw [Bd.returns] at h; cases h) hlk
            refine ⟨_, _, ?_, hrun, hended, _, _, rfl, ?_, ⟨_, rfl⟩, hW, hsame.mono (by decide) (by decide)⟩
            · refine hA0 _ ?_
              refine k38 _ ?_
              refine own_f_ifYes X35.here hx (hb hby d_prog_8_4_137) ((if0 _ _).trans (feq (hte)).2) (by decide) (by decide : _ = 143) ?_
              refine own_f_dloadN X35.here hx (hb hby d_prog_8_4_143) rfl (rfl : _ = 144) ?_
              exact retD X35 hx Bd.returns (hb hby d_prog_8_4_144) hr
            · show Q3 Z a1 _ ar kc q0 q1 q2 q3 _ h0 n0 _ T35.heap _
              rw [e35]
              exact ⟨congrArg (fun z => some (Value.double z)) (Eq.symm ((show own_value [q0, q1, q2] = own_val [q1, q0] q2 from rfl).trans ((own_val_f hhi2 hlo2 hz2).trans (own_vf_yn (Or.inl ⟨hng, hnp⟩) hte)))), N0, rfl⟩
        · have k39 : ∀ t_, Steps p.tables e below (T35.setTop (mkF m 100 #[.val (.ref a1), .val (.int (1 : Int32)), .val (.double hi2), .second, .val (.double lo2), .second, .val (.double q2), .second, .val (.double q1), .second] [(.int (cmpValue (FP.dcmp lo2 (0 : UInt64)) .l))])) t_ → Steps p.tables e below A t_ := by
            intro t_ ht_
            refine k37 t_ ?_
            refine own_f_ifNo X35.here hx (hb hby d_prog_8_4_93) ((if0 _ _).trans (flt (hnp)).1) (rfl : _ = 96) ?_
            refine own_f_dload X35.here hx (hb hby d_prog_8_4_96) rfl (rfl : _ = 98) ?_
            refine own_f_dconst0 X35.here hx (hb hby d_prog_8_4_98) (rfl : _ = (0 : UInt64)) (rfl : _ = 99) ?_
            refine own_f_dcmp X35.here hx (hb hby d_prog_8_4_99) rfl (rfl : _ = 100) ?_
            exact ht_
          by_cases hps : (0 : Int32) < (cmpValue (FP.dcmp lo2 (0 : UInt64)) .l)
          · obtain ⟨T40, X40, e40, st40⟩ := getF X35 hx hZ hown (host := "") (Or.inl (hw _ (List.mem_of_getElem? (i := 10) rfl))) Via.refl e35 Fp (g := (mkF m 104 #[.val (.ref a1), .val (.int (1 : Int32)), .val (.double hi2), .second, .val (.double lo2), .second, .val (.double q2), .second, .val (.double q1), .second] [(.ref a1)])) rfl rfl (hb hby d_prog_8_4_104)
            obtain ⟨cl41, Ar41, -, Sz41, Ng41, Hs41, -⟩ := id Va
            have hin41 : ¬ ((0 : Int32) < 0 ∨ cl41.slots.size ≤ ((0 : Int32)).toNatClampNeg) := inb_of Sz41 ⟨by decide, by decide⟩
            have hat41 : cl41.slots[((0 : Int32)).toNatClampNeg]? = some (.double q0) := Hs41 _ (Nat.lt_of_not_le fun q => hin41 (Or.inr q))
            have k42 : ∀ t_, Steps p.tables e below (T40.setTop (mkF m 113 #[.val (.ref a1), .val (.int (1 : Int32)), .val (.double hi2), .second, .val (.double lo2), .second, .val (.double q2), .second, .val (.double q1), .second] [(.int (cmpValue (FP.dcmp q0 (0 : UInt64)) .l))])) t_ → Steps p.tables e below A t_ := by
              intro t_ ht_
              refine k39 t_ ?_
              refine own_f_ifNo X35.here hx (hb hby d_prog_8_4_100) ((if0 _ _).trans (tlt (hps)).2.2.2) (rfl : _ = 103) ?_
              refine own_f_aloadN X35.here hx (hb hby d_prog_8_4_103) rfl rfl (rfl : _ = 104) ?_
              refine st40 _ ?_
              show Steps p.tables e below (T40.setTop (mkF m 107 #[.val (.ref a1), .val (.int (1 : Int32)), .val (.double hi2), .second, .val (.double lo2), .second, .val (.double q2), .second, .val (.double q1), .second] [(.ref ar)])) t_
              refine own_f_iloadN X40.here hx (hb hby d_prog_8_4_107) rfl (rfl : _ = 108) ?_
              refine own_f_iconst X40.here hx (hb hby d_prog_8_4_108) (rfl : _ = (1 : Int32)) (rfl : _ = 109) ?_
              refine own_f_isub X40.here hx (hb hby d_prog_8_4_109) (rfl : _ = (0 : Int32)) (rfl : _ = 110) ?_
              refine X40.daload hx (j := (0 : Int32)) (v := (.double q0)) (by rw [e40]; exact Ar41.1) (State.isArrayOf_alike hZ.alike Ar41.2.1) Ar41.2.2 hin41 hat41 (g := (mkF m 110 #[.val (.ref a1), .val (.int (1 : Int32)), .val (.double hi2), .second, .val (.double lo2), .second, .val (.double q2), .second, .val (.double q1), .second] [(.int (0 : Int32)), (.ref ar)])) rfl rfl (hb hby d_prog_8_4_110) _ ?_
              show Steps p.tables e below (T40.setTop (mkF m 111 #[.val (.ref a1), .val (.int (1 : Int32)), .val (.double hi2), .second, .val (.double lo2), .second, .val (.double q2), .second, .val (.double q1), .second] [(.double q0)])) t_
              refine own_f_dconst0 X40.here hx (hb hby d_prog_8_4_111) (rfl : _ = (0 : UInt64)) (rfl : _ = 112) ?_
              refine own_f_dcmp X40.here hx (hb hby d_prog_8_4_112) rfl (rfl : _ = 113) ?_
              exact ht_
            by_cases hpp : (0 : Int32) < (cmpValue (FP.dcmp q0 (0 : UInt64)) .l)
            · have k43 : ∀ t_, Steps p.tables e below (T40.setTop (mkF m 137 #[.val (.ref a1), .val (.int (1 : Int32)), .val (.double hi2), .second, .val (.double lo2), .second, .val (.double (FP.dmul lo2 (4611686018427387904 : UInt64))), .second, .val (.double (FP.dadd hi2 (FP.dmul lo2 (4611686018427387904 : UInt64)))), .second] [(.int (cmpValue (FP.dcmp (FP.dmul lo2 (4611686018427387904 : UInt64)) (FP.dsub (FP.dadd hi2 (FP.dmul lo2 (4611686018427387904 : UInt64))) hi2)) .l))])) t_ → Steps p.tables e below A t_ := by
                intro t_ ht_
                refine k42 t_ ?_
                refine own_f_ifNo X40.here hx (hb hby d_prog_8_4_113) ((if0 _ _).trans (tlt (hpp)).2.2.2) (rfl : _ = 116) ?_
                refine own_f_dload X40.here hx (hb hby d_prog_8_4_116) rfl (rfl : _ = 118) ?_
                refine own_f_ldc2DoubleC X40 hx hown (mvT hZ (hw _ (List.mem_of_getElem? (i := 44) rfl))) (hb hby d_prog_8_4_118) (rfl : _ = 121) ?_
                refine own_f_dmul X40.here hx (hb hby d_prog_8_4_121) (fn1) rfl (rfl : _ = 122) ?_
                refine own_f_dstore X40.here hx (hb hby d_prog_8_4_122) (rfl : storeLocals _ _ _ = some #[.val (.ref a1), .val (.int (1 : Int32)), .val (.double hi2), .second, .val (.double lo2), .second, .val (.double (FP.dmul lo2 (4611686018427387904 : UInt64))), .second, .val (.double q1), .second]) (rfl : _ = 124) ?_
                refine own_f_dloadN X40.here hx (hb hby d_prog_8_4_124) rfl (rfl : _ = 125) ?_
                refine own_f_dload X40.here hx (hb hby d_prog_8_4_125) rfl (rfl : _ = 127) ?_
                refine own_f_dadd X40.here hx (hb hby d_prog_8_4_127) (fn2) rfl (rfl : _ = 128) ?_
                refine own_f_dstore X40.here hx (hb hby d_prog_8_4_128) (rfl : storeLocals _ _ _ = some #[.val (.ref a1), .val (.int (1 : Int32)), .val (.double hi2), .second, .val (.double lo2), .second, .val (.double (FP.dmul lo2 (4611686018427387904 : UInt64))), .second, .val (.double (FP.dadd hi2 (FP.dmul lo2 (4611686018427387904 : UInt64)))), .second]) (rfl : _ = 130) ?_
                refine own_f_dload X40.here hx (hb hby d_prog_8_4_130) rfl (rfl : _ = 132) ?_
                refine own_f_dload X40.here hx (hb hby d_prog_8_4_132) rfl (rfl : _ = 134) ?_
                refine own_f_dloadN X40.here hx (hb hby d_prog_8_4_134) rfl (rfl : _ = 135) ?_
                refine own_f_dsub X40.here hx (hb hby d_prog_8_4_135) (fn3) rfl (rfl : _ = 136) ?_
                refine own_f_dcmp X40.here hx (hb hby d_prog_8_4_136) rfl (rfl : _ = 137) ?_
                exact ht_
              by_cases hte : (cmpValue (FP.dcmp (FP.dmul lo2 (4611686018427387904 : UInt64)) (FP.dsub (FP.dadd hi2 (FP.dmul lo2 (4611686018427387904 : UInt64))) hi2)) .l) = (0 : Int32)
              · obtain ⟨fs, hr, hrun, hended, hW, hsame⟩ := X40.leave (v := some (.double (FP.dadd hi2 (FP.dmul lo2 (4611686018427387904 : UInt64))))) (fun h => by rw [Bd.returns] at h; cases h) hlk
                refine ⟨_, _, ?_, hrun, hended, _, _, rfl, ?_, ⟨_, rfl⟩, hW, hsame.mono (by decide) (by decide)⟩
                · refine hA0 _ ?_
                  refine k43 _ ?_
                  refine own_f_ifNo X40.here hx (hb hby d_prog_8_4_137) ((if0 _ _).trans (teq (hte)).2) (rfl : _ = 140) ?_
                  refine own_f_dload X40.here hx (hb hby d_prog_8_4_140) rfl (rfl : _ = 142) ?_
                  refine own_f_dstoreN X40.here hx (hb hby d_prog_8_4_142) (rfl : storeLocals _ _ _ = some #[.val (.ref a1), .val (.int (1 : Int32)), .val (.double (FP.dadd hi2 (FP.dmul lo2 (4611686018427387904 : UInt64)))), .second, .val (.double lo2), .second, .val (.double (FP.dmul lo2 (4611686018427387904 : UInt64))), .second, .val (.double (FP.dadd hi2 (FP.dmul lo2 (4611686018427387904 : UInt64)))), .second]) (rfl : _ = 143) ?_
                  refine own_f_dloadN X40.here hx (hb hby d_prog_8_4_143) rfl (rfl : _ = 144) ?_
                  exact retD X40 hx Bd.returns (hb hby d_prog_8_4_144) hr
                · show Q3 Z a1 _ ar kc q0 q1 q2 q3 _ h0 n0 _ T40.heap _
                  rw [e40]
                  exact ⟨congrArg (fun z => some (Value.double z)) (Eq.symm ((show own_value [q0, q1, q2] = own_val [q1, q0] q2 from rfl).trans ((own_val_f hhi2 hlo2 hz2).trans (own_vf_yy (Or.inr ⟨hps, hpp⟩) hte)))), N0, rfl⟩
              · obtain ⟨fs, hr, hrun, hended, hW, hsame⟩ := X40.leave (v := some (.double hi2)) (fun h => by rw [Bd.returns] at h; cases h) hlk
                refine ⟨_, _, ?_, hrun, hended, _, _, rfl, ?_, ⟨_, rfl⟩, hW, hsame.mono (by decide) (by decide)⟩
                · refine hA0 _ ?_
                  refine k43 _ ?_
                  refine own_f_ifYes X40.here hx (hb hby d_prog_8_4_137) ((if0 _ _).trans (feq (hte)).2) (by decide) (by decide : _ = 143) ?_
                  refine own_f_dloadN X40.here hx (hb hby d_prog_8_4_143) rfl (rfl : _ = 144) ?_
                  exact retD X40 hx Bd.returns (hb hby d_prog_8_4_144) hr
                · show Q3 Z a1 _ ar kc q0 q1 q2 q3 _ h0 n0 _ T40.heap _
                  rw [e40]
                  exact ⟨congrArg (fun z => some (Value.double z)) (Eq.symm ((show own_value [q0, q1, q2] = own_val [q1, q0] q2 from rfl).trans ((own_val_f hhi2 hlo2 hz2).trans (own_vf_yn (Or.inr ⟨hps, hpp⟩) hte)))), N0, rfl⟩
            · obtain ⟨fs, hr, hrun, hended, hW, hsame⟩ := X40.leave (v := some (.double hi2)) (fun h => by rw [Bd.returns] at h; cases h) hlk
              refine ⟨_, _, ?_, hrun, hended, _, _, rfl, ?_, ⟨_, rfl⟩, hW, hsame.mono (by decide) (by decide)⟩
              · refine hA0 _ ?_
                refine k42 _ ?_
                refine own_f_ifYes X40.here hx (hb hby d_prog_8_4_113) ((if0 _ _).trans (flt (hpp)).2.2.2) (by decide) (by decide : _ = 143) ?_
                refine own_f_dloadN X40.here hx (hb hby d_prog_8_4_143) rfl (rfl : _ = 144) ?_
                exact retD X40 hx Bd.returns (hb hby d_prog_8_4_144) hr
              · show Q3 Z a1 _ ar kc q0 q1 q2 q3 _ h0 n0 _ T40.heap _
                rw [e40]
                exact ⟨congrArg (fun z => some (Value.double z)) (Eq.symm ((show own_value [q0, q1, q2] = own_val [q1, q0] q2 from rfl).trans ((own_val_f hhi2 hlo2 hz2).trans (own_vf_no (fun q => q.elim (fun r => (fun r => hnp r.2) r) (fun r => hpp r.2)))))), N0, rfl⟩
          · obtain ⟨fs, hr, hrun, hended, hW, hsame⟩ := X35.leave (v := some (.double hi2)) (fun h => by rw [Bd.returns] at h; cases h) hlk
            refine ⟨_, _, ?_, hrun, hended, _, _, rfl, ?_, ⟨_, rfl⟩, hW, hsame.mono (by decide) (by decide)⟩
            · refine hA0 _ ?_
              refine k39 _ ?_
              refine own_f_ifYes X35.here hx (hb hby d_prog_8_4_100) ((if0 _ _).trans (flt (hps)).2.2.2) (by decide) (by decide : _ = 143) ?_
              refine own_f_dloadN X35.here hx (hb hby d_prog_8_4_143) rfl (rfl : _ = 144) ?_
              exact retD X35 hx Bd.returns (hb hby d_prog_8_4_144) hr
            · show Q3 Z a1 _ ar kc q0 q1 q2 q3 _ h0 n0 _ T35.heap _
              rw [e35]
              exact ⟨congrArg (fun z => some (Value.double z)) (Eq.symm ((show own_value [q0, q1, q2] = own_val [q1, q0] q2 from rfl).trans ((own_val_f hhi2 hlo2 hz2).trans (own_vf_no (fun q => q.elim (fun r => (fun r => hnp r.2) r) (fun r => hps r.1)))))), N0, rfl⟩
      · have k30 : ∀ t_, Steps p.tables e below (T19.setTop (mkF m 100 #[.val (.ref a1), .val (.int (1 : Int32)), .val (.double hi2), .second, .val (.double lo2), .second, .val (.double q2), .second, .val (.double q1), .second] [(.int (cmpValue (FP.dcmp lo2 (0 : UInt64)) .l))])) t_ → Steps p.tables e below A t_ := by
          intro t_ ht_
          refine k29 t_ ?_
          refine own_f_ifYes X19.here hx (hb hby d_prog_8_4_80) ((if0 _ _).trans (flt (hng)).2.1) (by decide) (by decide : _ = 96) ?_
          refine own_f_dload X19.here hx (hb hby d_prog_8_4_96) rfl (rfl : _ = 98) ?_
          refine own_f_dconst0 X19.here hx (hb hby d_prog_8_4_98) (rfl : _ = (0 : UInt64)) (rfl : _ = 99) ?_
          refine own_f_dcmp X19.here hx (hb hby d_prog_8_4_99) rfl (rfl : _ = 100) ?_
          exact ht_
        by_cases hps : (0 : Int32) < (cmpValue (FP.dcmp lo2 (0 : UInt64)) .l)
        · obtain ⟨T31, X31, e31, st31⟩ := getF X19 hx hZ hown (host := "") (Or.inl (hw _ (List.mem_of_getElem? (i := 10) rfl))) Via.refl e19 Fp (g := (mkF m 104 #[.val (.ref a1), .val (.int (1 : Int32)), .val (.double hi2), .second, .val (.double lo2), .second, .val (.double q2), .second, .val (.double q1), .second] [(.ref a1)])) rfl rfl (hb hby d_prog_8_4_104)
          obtain ⟨cl32, Ar32, -, Sz32, Ng32, Hs32, -⟩ := id Va
          have hin32 : ¬ ((0 : Int32) < 0 ∨ cl32.slots.size ≤ ((0 : Int32)).toNatClampNeg) := inb_of Sz32 ⟨by decide, by decide⟩
          have hat32 : cl32.slots[((0 : Int32)).toNatClampNeg]? = some (.double q0) := Hs32 _ (Nat.lt_of_not_le fun q => hin32 (Or.inr q))
          have k33 : ∀ t_, Steps p.tables e below (T31.setTop (mkF m 113 #[.val (.ref a1), .val (.int (1 : Int32)), .val (.double hi2), .second, .val (.double lo2), .second, .val (.double q2), .second, .val (.double q1), .second] [(.int (cmpValue (FP.dcmp q0 (0 : UInt64)) .l))])) t_ → Steps p.tables e below A t_ := by
            intro t_ ht_
            refine k30 t_ ?_
            refine own_f_ifNo X19.here hx (hb hby d_prog_8_4_100) ((if0 _ _).trans (tlt (hps)).2.2.2) (rfl : _ = 103) ?_
            refine own_f_aloadN X19.here hx (hb hby d_prog_8_4_103) rfl rfl (rfl : _ = 104) ?_
            refine st31 _ ?_
            show Steps p.tables e below (T31.setTop (mkF m 107 #[.val (.ref a1), .val (.int (1 : Int32)), .val (.double hi2), .second, .val (.double lo2), .second, .val (.double q2), .second, .val (.double q1), .second] [(.ref ar)])) t_
            refine own_f_iloadN X31.here hx (hb hby d_prog_8_4_107) rfl (rfl : _ = 108) ?_
            refine own_f_iconst X31.here hx (hb hby d_prog_8_4_108) (rfl : _ = (1 : Int32)) (rfl : _ = 109) ?_
            refine own_f_isub X31.here hx (hb hby d_prog_8_4_109) (rfl : _ = (0 : Int32)) (rfl : _ = 110) ?_
            refine X31.daload hx (j := (0 : Int32)) (v := (.double q0)) (by rw [e31]; exact Ar32.1) (State.isArrayOf_alike hZ.alike Ar32.2.1) Ar32.2.2 hin32 hat32 (g := (mkF m 110 #[.val (.ref a1), .val (.int (1 : Int32)), .val (.double hi2), .second, .val (.double lo2), .second, .val (.double q2), .second, .val (.double q1), .second] [(.int (0 : Int32)), (.ref ar)])) rfl rfl (hb hby d_prog_8_4_110) _ ?_
            show Steps p.tables e below (T31.setTop (mkF m 111 #[.val (.ref a1), .val (.int (1 : Int32)), .val (.double hi2), .second, .val (.double lo2), .second, .val (.double q2), .second, .val (.double q1), .second] [(.double q0)])) t_
            refine own_f_dconst0 X31.here hx (hb hby d_prog_8_4_111) (rfl : _ = (0 : UInt64)) (rfl : _ = 112) ?_
            refine own_f_dcmp X31.here hx (hb hby d_prog_8_4_112) rfl (rfl : _ = 113) ?_
            exact ht_
          by_cases hpp : (0 : Int32) < (cmpValue (FP.dcmp q0 (0 : UInt64)) .l)
          · have k34 : ∀ t_, Steps p.tables e below (T31.setTop (mkF m 137 #[.val (.ref a1), .val (.int (1 : Int32)), .val (.double hi2), .second, .val (.double lo2), .second, .val (.double (FP.dmul lo2 (4611686018427387904 : UInt64))), .second, .val (.double (FP.dadd hi2 (FP.dmul lo2 (4611686018427387904 : UInt64)))), .second] [(.int (cmpValue (FP.dcmp (FP.dmul lo2 (4611686018427387904 : UInt64)) (FP.dsub (FP.dadd hi2 (FP.dmul lo2 (4611686018427387904 : UInt64))) hi2)) .l))])) t_ → Steps p.tables e below A t_ := by
              intro t_ ht_
              refine k33 t_ ?_
              refine own_f_ifNo X31.here hx (hb hby d_prog_8_4_113) ((if0 _ _).trans (tlt (hpp)).2.2.2) (rfl : _ = 116) ?_
              refine own_f_dload X31.here hx (hb hby d_prog_8_4_116) rfl (rfl : _ = 118) ?_
              refine own_f_ldc2DoubleC X31 hx hown (mvT hZ (hw _ (List.mem_of_getElem? (i := 44) rfl))) (hb hby d_prog_8_4_118) (rfl : _ = 121) ?_
              refine own_f_dmul X31.here hx (hb hby d_prog_8_4_121) (fn1) rfl (rfl : _ = 122) ?_
              refine own_f_dstore X31.here hx (hb hby d_prog_8_4_122) (rfl : storeLocals _ _ _ = some #[.val (.ref a1), .val (.int (1 : Int32)), .val (.double hi2), .second, .val (.double lo2), .second, .val (.double (FP.dmul lo2 (4611686018427387904 : UInt64))), .second, .val (.double q1), .second]) (rfl : _ = 124) ?_
              refine own_f_dloadN X31.here hx (hb hby d_prog_8_4_124) rfl (rfl : _ = 125) ?_
              refine own_f_dload X31.here hx (hb hby d_prog_8_4_125) rfl (rfl : _ = 127) ?_
              refine own_f_dadd X31.here hx (hb hby d_prog_8_4_127) (fn2) rfl (rfl : _ = 128) ?_
              refine own_f_dstore X31.here hx (hb hby d_prog_8_4_128) (rfl : storeLocals _ _ _ = some #[.val (.ref a1), .val (.int (1 : Int32)), .val (.double hi2), .second, .val (.double lo2), .second, .val (.double (FP.dmul lo2 (4611686018427387904 : UInt64))), .second, .val (.double (FP.dadd hi2 (FP.dmul lo2 (4611686018427387904 : UInt64)))), .second]) (rfl : _ = 130) ?_
              refine own_f_dload X31.here hx (hb hby d_prog_8_4_130) rfl (rfl : _ = 132) ?_
              refine own_f_dload X31.here hx (hb hby d_prog_8_4_132) rfl (rfl : _ = 134) ?_
              refine own_f_dloadN X31.here hx (hb hby d_prog_8_4_134) rfl (rfl : _ = 135) ?_
              refine own_f_dsub X31.here hx (hb hby d_prog_8_4_135) (fn3) rfl (rfl : _ = 136) ?_
              refine own_f_dcmp X31.here hx (hb hby d_prog_8_4_136) rfl (rfl : _ = 137) ?_
              exact ht_
            by_cases hte : (cmpValue (FP.dcmp (FP.dmul lo2 (4611686018427387904 : UInt64)) (FP.dsub (FP.dadd hi2 (FP.dmul lo2 (4611686018427387904 : UInt64))) hi2)) .l) = (0 : Int32)
            · obtain ⟨fs, hr, hrun, hended, hW, hsame⟩ := X31.leave (v := some (.double (FP.dadd hi2 (FP.dmul lo2 (4611686018427387904 : UInt64))))) (fun h => by rw [Bd.returns] at h; cases h) hlk
              refine ⟨_, _, ?_, hrun, hended, _, _, rfl, ?_, ⟨_, rfl⟩, hW, hsame.mono (by decide) (by decide)⟩
              · refine hA0 _ ?_
                refine k34 _ ?_
                refine own_f_ifNo X31.here hx (hb hby d_prog_8_4_137) ((if0 _ _).trans (teq (hte)).2) (rfl : _ = 140) ?_
                refine own_f_dload X31.here hx (hb hby d_prog_8_4_140) rfl (rfl : _ = 142) ?_
                refine own_f_dstoreN X31.here hx (hb hby d_prog_8_4_142) (rfl : storeLocals _ _ _ = some #[.val (.ref a1), .val (.int (1 : Int32)), .val (.double (FP.dadd hi2 (FP.dmul lo2 (4611686018427387904 : UInt64)))), .second, .val (.double lo2), .second, .val (.double (FP.dmul lo2 (4611686018427387904 : UInt64))), .second, .val (.double (FP.dadd hi2 (FP.dmul lo2 (4611686018427387904 : UInt64)))), .second]) (rfl : _ = 143) ?_
                refine own_f_dloadN X31.here hx (hb hby d_prog_8_4_143) rfl (rfl : _ = 144) ?_
                exact retD X31 hx Bd.returns (hb hby d_prog_8_4_144) hr
              · show Q3 Z a1 _ ar kc q0 q1 q2 q3 _ h0 n0 _ T31.heap _
                rw [e31]
                exact ⟨congrArg (fun z => some (Value.double z)) (Eq.symm ((show own_value [q0, q1, q2] = own_val [q1, q0] q2 from rfl).trans ((own_val_f hhi2 hlo2 hz2).trans (own_vf_yy (Or.inr ⟨hps, hpp⟩) hte)))), N0, rfl⟩
            · obtain ⟨fs, hr, hrun, hended, hW, hsame⟩ := X31.leave (v := some (.double hi2)) (fun h => by rw [Bd.returns] at h; cases h) hlk
              refine ⟨_, _, ?_, hrun, hended, _, _, rfl, ?_, ⟨_, rfl⟩, hW, hsame.mono (by decide) (by decide)⟩
              · refine hA0 _ ?_
                refine k34 _ ?_
                refine own_f_ifYes X31.here hx (hb hby d_prog_8_4_137) ((if0 _ _).trans (feq (hte)).2) (by decide) (by decide : _ = 143) ?_
                refine own_f_dloadN X31.here hx (hb hby d_prog_8_4_143) rfl (rfl : _ = 144) ?_
                exact retD X31 hx Bd.returns (hb hby d_prog_8_4_144) hr
              · show Q3 Z a1 _ ar kc q0 q1 q2 q3 _ h0 n0 _ T31.heap _
                rw [e31]
                exact ⟨congrArg (fun z => some (Value.double z)) (Eq.symm ((show own_value [q0, q1, q2] = own_val [q1, q0] q2 from rfl).trans ((own_val_f hhi2 hlo2 hz2).trans (own_vf_yn (Or.inr ⟨hps, hpp⟩) hte)))), N0, rfl⟩
          · obtain ⟨fs, hr, hrun, hended, hW, hsame⟩ := X31.leave (v := some (.double hi2)) (fun h => by rw [Bd.returns] at h; cases h) hlk
            refine ⟨_, _, ?_, hrun, hended, _, _, rfl, ?_, ⟨_, rfl⟩, hW, hsame.mono (by decide) (by decide)⟩
            · refine hA0 _ ?_
              refine k33 _ ?_
              refine own_f_ifYes X31.here hx (hb hby d_prog_8_4_113) ((if0 _ _).trans (flt (hpp)).2.2.2) (by decide) (by decide : _ = 143) ?_
              refine own_f_dloadN X31.here hx (hb hby d_prog_8_4_143) rfl (rfl : _ = 144) ?_
              exact retD X31 hx Bd.returns (hb hby d_prog_8_4_144) hr
            · show Q3 Z a1 _ ar kc q0 q1 q2 q3 _ h0 n0 _ T31.heap _
              rw [e31]
              exact ⟨congrArg (fun z => some (Value.double z)) (Eq.symm ((show own_value [q0, q1, q2] = own_val [q1, q0] q2 from rfl).trans ((own_val_f hhi2 hlo2 hz2).trans (own_vf_no (fun q => q.elim (fun r => (fun r => hng r.1) r) (fun r => hpp r.2)))))), N0, rfl⟩
        · obtain ⟨fs, hr, hrun, hended, hW, hsame⟩ := X19.leave (v := some (.double hi2)) (fun h => by rw [Bd.returns] at h; cases h) hlk
          refine ⟨_, _, ?_, hrun, hended, _, _, rfl, ?_, ⟨_, rfl⟩, hW, hsame.mono (by decide) (by decide)⟩
          · refine hA0 _ ?_
            refine k30 _ ?_
            refine own_f_ifYes X19.here hx (hb hby d_prog_8_4_100) ((if0 _ _).trans (flt (hps)).2.2.2) (by decide) (by decide : _ = 143) ?_
            refine own_f_dloadN X19.here hx (hb hby d_prog_8_4_143) rfl (rfl : _ = 144) ?_
            exact retD X19 hx Bd.returns (hb hby d_prog_8_4_144) hr
          · show Q3 Z a1 _ ar kc q0 q1 q2 q3 _ h0 n0 _ T19.heap _
            rw [e19]
            exact ⟨congrArg (fun z => some (Value.double z)) (Eq.symm ((show own_value [q0, q1, q2] = own_val [q1, q0] q2 from rfl).trans ((own_val_f hhi2 hlo2 hz2).trans (own_vf_no (fun q => q.elim (fun r => (fun r => hng r.1) r) (fun r => hps r.1)))))), N0, rfl⟩
  · obtain rfl : qs = [q0, q1, q2, q3] := own_qs hq 4 (by decide)
    obtain ⟨T44, X44, e44, st44⟩ := getF X0 hx hZ hown (host := "") (Or.inl (hw _ (List.mem_of_getElem? (i := 17) rfl))) Via.refl e0 Fs (g := (mkF m 1 #[.val (.ref a1), .unset, .unset, .unset, .unset, .unset, .unset, .unset, .unset, .unset] [(.ref a1)])) rfl rfl (hb hby d_prog_8_4_1)
    replace hvn : own_VN [q2, q1, q0] q3 := hvn
    obtain ⟨T45, X45, e45, st45⟩ := getF X44 hx hZ hown (host := "") (Or.inl (hw _ (List.mem_of_getElem? (i := 17) rfl))) Via.refl e44 Fs (g := (mkF m 10 #[.val (.ref a1), .unset, .unset, .unset, .unset, .unset, .unset, .unset, .unset, .unset] [(.ref a1)])) rfl rfl (hb hby d_prog_8_4_10)
    obtain ⟨T46, X46, e46, st46⟩ := getF X45 hx hZ hown (host := "") (Or.inl (hw _ (List.mem_of_getElem? (i := 10) rfl))) Via.refl e45 Fp (g := (mkF m 17 #[.val (.ref a1), .val (.int (3 : Int32)), .unset, .unset, .unset, .unset, .unset, .unset, .unset, .unset] [(.ref a1)])) rfl rfl (hb hby d_prog_8_4_17)
    obtain ⟨cl47, Ar47, -, Sz47, Ng47, Hs47, -⟩ := id Va
    have hin47 : ¬ ((3 : Int32) < 0 ∨ cl47.slots.size ≤ ((3 : Int32)).toNatClampNeg) := inb_of Sz47 ⟨by decide, by decide⟩
    have hat47 : cl47.slots[((3 : Int32)).toNatClampNeg]? = some (.double q3) := Hs47 _ (Nat.lt_of_not_le fun q => hin47 (Or.inr q))
    obtain ⟨T48, X48, e48, st48⟩ := getF X46 hx hZ hown (host := "") (Or.inl (hw _ (List.mem_of_getElem? (i := 10) rfl))) Via.refl e46 Fp (g := (mkF m 37 #[.val (.ref a1), .val (.int (2 : Int32)), .val (.double q3), .second, .val (.double (0 : UInt64)), .second, .val (.double q3), .second, .unset, .unset] [(.ref a1)])) rfl rfl (hb hby d_prog_8_4_37)
    obtain ⟨cl49, Ar49, -, Sz49, Ng49, Hs49, -⟩ := id Va
    have hin49 : ¬ ((2 : Int32) < 0 ∨ cl49.slots.size ≤ ((2 : Int32)).toNatClampNeg) := inb_of Sz49 ⟨by decide, by decide⟩
    have hat49 : cl49.slots[((2 : Int32)).toNatClampNeg]? = some (.double q2) := Hs49 _ (Nat.lt_of_not_le fun q => hin49 (Or.inr q))
    have k50 : ∀ t_, Steps p.tables e below (T48.setTop (mkF m 50 #[.val (.ref a1), .val (.int (2 : Int32)), .val (.double (FP.dadd q3 q2)), .second, .val (.double (0 : UInt64)), .second, .val (.double q3), .second, .val (.double q2), .second] [])) t_ → Steps p.tables e below A t_ := by
      intro t_ ht_
      refine k0 t_ ?_
      refine own_f_aloadN X0.here hx (hb hby d_prog_8_4_0) rfl rfl (rfl : _ = 1) ?_
      refine st44 _ ?_
      show Steps p.tables e below (T44.setTop (mkF m 4 #[.val (.ref a1), .unset, .unset, .unset, .unset, .unset, .unset, .unset, .unset, .unset] [(.int (4 : Int32))])) t_
      refine own_f_ifYes X44.here hx (hb hby d_prog_8_4_4) ((if0 _ _).trans (feq (by decide)).2) (by decide) (by decide : _ = 9) ?_
      refine own_f_aloadN X44.here hx (hb hby d_prog_8_4_9) rfl rfl (rfl : _ = 10) ?_
      refine st45 _ ?_
      show Steps p.tables e below (T45.setTop (mkF m 13 #[.val (.ref a1), .unset, .unset, .unset, .unset, .unset, .unset, .unset, .unset, .unset] [(.int (4 : Int32))])) t_
      refine own_f_iconst X45.here hx (hb hby d_prog_8_4_13) (rfl : _ = (1 : Int32)) (rfl : _ = 14) ?_
      refine own_f_isub X45.here hx (hb hby d_prog_8_4_14) (rfl : _ = (3 : Int32)) (rfl : _ = 15) ?_
      refine own_f_istoreN X45.here hx (hb hby d_prog_8_4_15) (rfl : storeLocals _ _ _ = some #[.val (.ref a1), .val (.int (3 : Int32)), .unset, .unset, .unset, .unset, .unset, .unset, .unset, .unset]) (rfl : _ = 16) ?_
      refine own_f_aloadN X45.here hx (hb hby d_prog_8_4_16) rfl rfl (rfl : _ = 17) ?_
      refine st46 _ ?_
      show Steps p.tables e below (T46.setTop (mkF m 20 #[.val (.ref a1), .val (.int (3 : Int32)), .unset, .unset, .unset, .unset, .unset, .unset, .unset, .unset] [(.ref ar)])) t_
      refine own_f_iloadN X46.here hx (hb hby d_prog_8_4_20) rfl (rfl : _ = 21) ?_
      refine X46.daload hx (j := (3 : Int32)) (v := (.double q3)) (by rw [e46]; exact Ar47.1) (State.isArrayOf_alike hZ.alike Ar47.2.1) Ar47.2.2 hin47 hat47 (g := (mkF m 21 #[.val (.ref a1), .val (.int (3 : Int32)), .unset, .unset, .unset, .unset, .unset, .unset, .unset, .unset] [(.int (3 : Int32)), (.ref ar)])) rfl rfl (hb hby d_prog_8_4_21) _ ?_
      show Steps p.tables e below (T46.setTop (mkF m 22 #[.val (.ref a1), .val (.int (3 : Int32)), .unset, .unset, .unset, .unset, .unset, .unset, .unset, .unset] [(.double q3)])) t_
      refine own_f_dstoreN X46.here hx (hb hby d_prog_8_4_22) (rfl : storeLocals _ _ _ = some #[.val (.ref a1), .val (.int (3 : Int32)), .val (.double q3), .second, .unset, .unset, .unset, .unset, .unset, .unset]) (rfl : _ = 23) ?_
      refine own_f_dconst0 X46.here hx (hb hby d_prog_8_4_23) (rfl : _ = (0 : UInt64)) (rfl : _ = 24) ?_
      refine own_f_dstore X46.here hx (hb hby d_prog_8_4_24) (rfl : storeLocals _ _ _ = some #[.val (.ref a1), .val (.int (3 : Int32)), .val (.double q3), .second, .val (.double (0 : UInt64)), .second, .unset, .unset, .unset, .unset]) (rfl : _ = 26) ?_
      refine own_f_iloadN X46.here hx (hb hby d_prog_8_4_26) rfl (rfl : _ = 27) ?_
      refine own_f_ifNo X46.here hx (hb hby d_prog_8_4_27) ((if0 _ _).trans (tlt (by decide)).2.2.2) (rfl : _ = 30) ?_
      refine own_f_dloadN X46.here hx (hb hby d_prog_8_4_30) rfl (rfl : _ = 31) ?_
      refine own_f_dstore X46.here hx (hb hby d_prog_8_4_31) (rfl : storeLocals _ _ _ = some #[.val (.ref a1), .val (.int (3 : Int32)), .val (.double q3), .second, .val (.double (0 : UInt64)), .second, .val (.double q3), .second, .unset, .unset]) (rfl : _ = 33) ?_
      refine own_f_iinc X46.here hx (hb hby d_prog_8_4_33) rfl (rfl : storeLocals _ _ _ = some #[.val (.ref a1), .val (.int (2 : Int32)), .val (.double q3), .second, .val (.double (0 : UInt64)), .second, .val (.double q3), .second, .unset, .unset]) (rfl : _ = 36) ?_
      refine own_f_aloadN X46.here hx (hb hby d_prog_8_4_36) rfl rfl (rfl : _ = 37) ?_
      refine st48 _ ?_
      show Steps p.tables e below (T48.setTop (mkF m 40 #[.val (.ref a1), .val (.int (2 : Int32)), .val (.double q3), .second, .val (.double (0 : UInt64)), .second, .val (.double q3), .second, .unset, .unset] [(.ref ar)])) t_
      refine own_f_iloadN X48.here hx (hb hby d_prog_8_4_40) rfl (rfl : _ = 41) ?_
      refine X48.daload hx (j := (2 : Int32)) (v := (.double q2)) (by rw [e48]; exact Ar49.1) (State.isArrayOf_alike hZ.alike Ar49.2.1) Ar49.2.2 hin49 hat49 (g := (mkF m 41 #[.val (.ref a1), .val (.int (2 : Int32)), .val (.double q3), .second, .val (.double (0 : UInt64)), .second, .val (.double q3), .second, .unset, .unset] [(.int (2 : Int32)), (.ref ar)])) rfl rfl (hb hby d_prog_8_4_41) _ ?_
      show Steps p.tables e below (T48.setTop (mkF m 42 #[.val (.ref a1), .val (.int (2 : Int32)), .val (.double q3), .second, .val (.double (0 : UInt64)), .second, .val (.double q3), .second, .unset, .unset] [(.double q2)])) t_
      refine own_f_dstore X48.here hx (hb hby d_prog_8_4_42) (rfl : storeLocals _ _ _ = some #[.val (.ref a1), .val (.int (2 : Int32)), .val (.double q3), .second, .val (.double (0 : UInt64)), .second, .val (.double q3), .second, .val (.double q2), .second]) (rfl : _ = 44) ?_
      refine own_f_dload X48.here hx (hb hby d_prog_8_4_44) rfl (rfl : _ = 46) ?_
      refine own_f_dload X48.here hx (hb hby d_prog_8_4_46) rfl (rfl : _ = 48) ?_
      refine own_f_dadd X48.here hx (hb hby d_prog_8_4_48) (hvn.1) rfl (rfl : _ = 49) ?_
      refine own_f_dstoreN X48.here hx (hb hby d_prog_8_4_49) (rfl : storeLocals _ _ _ = some #[.val (.ref a1), .val (.int (2 : Int32)), .val (.double (FP.dadd q3 q2)), .second, .val (.double (0 : UInt64)), .second, .val (.double q3), .second, .val (.double q2), .second]) (rfl : _ = 50) ?_
      exact ht_
    obtain ⟨hi3, hhi3⟩ : ∃ z : UInt64, z = (FP.dadd q3 q2) := ⟨_, rfl⟩
    rw [← hhi3] at k50
    obtain ⟨nb3, nc3⟩ := own_vn hhi3 hvn
    have k51 : ∀ t_, Steps p.tables e below (T48.setTop (mkF m 59 #[.val (.ref a1), .val (.int (2 : Int32)), .val (.double hi3), .second, .val (.double (FP.dsub q2 (FP.dsub hi3 q3))), .second, .val (.double q3), .second, .val (.double q2), .second] [])) t_ → Steps p.tables e below A t_ := by
      intro t_ ht_
      refine k50 t_ ?_
      refine own_f_dload X48.here hx (hb hby d_prog_8_4_50) rfl (rfl : _ = 52) ?_
      refine own_f_dloadN X48.here hx (hb hby d_prog_8_4_52) rfl (rfl : _ = 53) ?_
      refine own_f_dload X48.here hx (hb hby d_prog_8_4_53) rfl (rfl : _ = 55) ?_
      refine own_f_dsub X48.here hx (hb hby d_prog_8_4_55) (nb3) rfl (rfl : _ = 56) ?_
      refine own_f_dsub X48.here hx (hb hby d_prog_8_4_56) (nc3) rfl (rfl : _ = 57) ?_
      refine own_f_dstore X48.here hx (hb hby d_prog_8_4_57) (rfl : storeLocals _ _ _ = some #[.val (.ref a1), .val (.int (2 : Int32)), .val (.double hi3), .second, .val (.double (FP.dsub q2 (FP.dsub hi3 q3))), .second, .val (.double q3), .second, .val (.double q2), .second]) (rfl : _ = 59) ?_
      exact ht_
    obtain ⟨lo3, hlo3⟩ : ∃ z : UInt64, z = (FP.dsub q2 (FP.dsub hi3 q3)) := ⟨_, rfl⟩
    rw [← hlo3] at k51
    have k52 : ∀ t_, Steps p.tables e below (T48.setTop (mkF m 63 #[.val (.ref a1), .val (.int (2 : Int32)), .val (.double hi3), .second, .val (.double lo3), .second, .val (.double q3), .second, .val (.double q2), .second] [(.int (cmpValue (FP.dcmp lo3 (0 : UInt64)) .l))])) t_ → Steps p.tables e below A t_ := by
      intro t_ ht_
      refine k51 t_ ?_
      refine own_f_dload X48.here hx (hb hby d_prog_8_4_59) rfl (rfl : _ = 61) ?_
      refine own_f_dconst0 X48.here hx (hb hby d_prog_8_4_61) (rfl : _ = (0 : UInt64)) (rfl : _ = 62) ?_
      refine own_f_dcmp X48.here hx (hb hby d_prog_8_4_62) rfl (rfl : _ = 63) ?_
      exact ht_
    by_cases hz3 : (cmpValue (FP.dcmp lo3 (0 : UInt64)) .l) = (0 : Int32)
    · replace hvn := own_vnN hhi3 hlo3 hvn hz3
      obtain ⟨T53, X53, e53, st53⟩ := getF X48 hx hZ hown (host := "") (Or.inl (hw _ (List.mem_of_getElem? (i := 10) rfl))) Via.refl e48 Fp (g := (mkF m 37 #[.val (.ref a1), .val (.int (1 : Int32)), .val (.double hi3), .second, .val (.double lo3), .second, .val (.double hi3), .second, .val (.double q2), .second] [(.ref a1)])) rfl rfl (hb hby d_prog_8_4_37)
      obtain ⟨cl54, Ar54, -, Sz54, Ng54, Hs54, -⟩ := id Va
      have hin54 : ¬ ((1 : Int32) < 0 ∨ cl54.slots.size ≤ ((1 : Int32)).toNatClampNeg) := inb_of Sz54 ⟨by decide, by decide⟩
      have hat54 : cl54.slots[((1 : Int32)).toNatClampNeg]? = some (.double q1) := Hs54 _ (Nat.lt_of_not_le fun q => hin54 (Or.inr q))
      have k55 : ∀ t_, Steps p.tables e below (T53.setTop (mkF m 50 #[.val (.ref a1), .val (.int (1 : Int32)), .val (.double (FP.dadd hi3 q1)), .second, .val (.double lo3), .second, .val (.double hi3), .second, .val (.double q1), .second] [])) t_ → Steps p.tables e below A t_ := by
        intro t_ ht_
        refine k52 t_ ?_
        refine own_f_ifYes X48.here hx (hb hby d_prog_8_4_63) ((if0 _ _).trans (teq (hz3)).1) (by decide) (by decide : _ = 69) ?_
        refine own_f_goto X48.here hx (hb hby d_prog_8_4_69) (by decide) (by decide : _ = 26) ?_
        refine own_f_iloadN X48.here hx (hb hby d_prog_8_4_26) rfl (rfl : _ = 27) ?_
        refine own_f_ifNo X48.here hx (hb hby d_prog_8_4_27) ((if0 _ _).trans (tlt (by decide)).2.2.2) (rfl : _ = 30) ?_
        refine own_f_dloadN X48.here hx (hb hby d_prog_8_4_30) rfl (rfl : _ = 31) ?_
        refine own_f_dstore X48.here hx (hb hby d_prog_8_4_31) (rfl : storeLocals _ _ _ = some #[.val (.ref a1), .val (.int (2 : Int32)), .val (.double hi3), .second, .val (.double lo3), .second, .val (.double hi3), .second, .val (.double q2), .second]) (rfl : _ = 33) ?_
        refine own_f_iinc X48.here hx (hb hby d_prog_8_4_33) rfl (rfl : storeLocals _ _ _ = some #[.val (.ref a1), .val (.int (1 : Int32)), .val (.double hi3), .second, .val (.double lo3), .second, .val (.double hi3), .second, .val (.double q2), .second]) (rfl : _ = 36) ?_
        refine own_f_aloadN X48.here hx (hb hby d_prog_8_4_36) rfl rfl (rfl : _ = 37) ?_
        refine st53 _ ?_
        show Steps p.tables e below (T53.setTop (mkF m 40 #[.val (.ref a1), .val (.int (1 : Int32)), .val (.double hi3), .second, .val (.double lo3), .second, .val (.double hi3), .second, .val (.double q2), .second] [(.ref ar)])) t_
        refine own_f_iloadN X53.here hx (hb hby d_prog_8_4_40) rfl (rfl : _ = 41) ?_
        refine X53.daload hx (j := (1 : Int32)) (v := (.double q1)) (by rw [e53]; exact Ar54.1) (State.isArrayOf_alike hZ.alike Ar54.2.1) Ar54.2.2 hin54 hat54 (g := (mkF m 41 #[.val (.ref a1), .val (.int (1 : Int32)), .val (.double hi3), .second, .val (.double lo3), .second, .val (.double hi3), .second, .val (.double q2), .second] [(.int (1 : Int32)), (.ref ar)])) rfl rfl (hb hby d_prog_8_4_41) _ ?_
        show Steps p.tables e below (T53.setTop (mkF m 42 #[.val (.ref a1), .val (.int (1 : Int32)), .val (.double hi3), .second, .val (.double lo3), .second, .val (.double hi3), .second, .val (.double q2), .second] [(.double q1)])) t_
        refine own_f_dstore X53.here hx (hb hby d_prog_8_4_42) (rfl : storeLocals _ _ _ = some #[.val (.ref a1), .val (.int (1 : Int32)), .val (.double hi3), .second, .val (.double lo3), .second, .val (.double hi3), .second, .val (.double q1), .second]) (rfl : _ = 44) ?_
        refine own_f_dload X53.here hx (hb hby d_prog_8_4_44) rfl (rfl : _ = 46) ?_
        refine own_f_dload X53.here hx (hb hby d_prog_8_4_46) rfl (rfl : _ = 48) ?_
        refine own_f_dadd X53.here hx (hb hby d_prog_8_4_48) (hvn.1) rfl (rfl : _ = 49) ?_
        refine own_f_dstoreN X53.here hx (hb hby d_prog_8_4_49) (rfl : storeLocals _ _ _ = some #[.val (.ref a1), .val (.int (1 : Int32)), .val (.double (FP.dadd hi3 q1)), .second, .val (.double lo3), .second, .val (.double hi3), .second, .val (.double q1), .second]) (rfl : _ = 50) ?_
        exact ht_
      obtain ⟨hi2, hhi2⟩ : ∃ z : UInt64, z = (FP.dadd hi3 q1) := ⟨_, rfl⟩
      rw [← hhi2] at k55
      obtain ⟨nb2, nc2⟩ := own_vn hhi2 hvn
      have k56 : ∀ t_, Steps p.tables e below (T53.setTop (mkF m 59 #[.val (.ref a1), .val (.int (1 : Int32)), .val (.double hi2), .second, .val (.double (FP.dsub q1 (FP.dsub hi2 hi3))), .second, .val (.double hi3), .second, .val (.double q1), .second] [])) t_ → Steps p.tables e below A t_ := by
        intro t_ ht_
        refine k55 t_ ?_
        refine own_f_dload X53.here hx (hb hby d_prog_8_4_50) rfl (rfl : _ = 52) ?_
        refine own_f_dloadN X53.here hx (hb hby d_prog_8_4_52) rfl (rfl : _ = 53) ?_
        refine own_f_dload X53.here hx (hb hby d_prog_8_4_53) rfl (rfl : _ = 55) ?_
        refine own_f_dsub X53.here hx (hb hby d_prog_8_4_55) (nb2) rfl (rfl : _ = 56) ?_
        refine own_f_dsub X53.here hx (hb hby d_prog_8_4_56) (nc2) rfl (rfl : _ = 57) ?_
        refine own_f_dstore X53.here hx (hb hby d_prog_8_4_57) (rfl : storeLocals _ _ _ = some #[.val (.ref a1), .val (.int (1 : Int32)), .val (.double hi2), .second, .val (.double (FP.dsub q1 (FP.dsub hi2 hi3))), .second, .val (.double hi3), .second, .val (.double q1), .second]) (rfl : _ = 59) ?_
        exact ht_
      obtain ⟨lo2, hlo2⟩ : ∃ z : UInt64, z = (FP.dsub q1 (FP.dsub hi2 hi3)) := ⟨_, rfl⟩
      rw [← hlo2] at k56
      have k57 : ∀ t_, Steps p.tables e below (T53.setTop (mkF m 63 #[.val (.ref a1), .val (.int (1 : Int32)), .val (.double hi2), .second, .val (.double lo2), .second, .val (.double hi3), .second, .val (.double q1), .second] [(.int (cmpValue (FP.dcmp lo2 (0 : UInt64)) .l))])) t_ → Steps p.tables e below A t_ := by
        intro t_ ht_
        refine k56 t_ ?_
        refine own_f_dload X53.here hx (hb hby d_prog_8_4_59) rfl (rfl : _ = 61) ?_
        refine own_f_dconst0 X53.here hx (hb hby d_prog_8_4_61) (rfl : _ = (0 : UInt64)) (rfl : _ = 62) ?_
        refine own_f_dcmp X53.here hx (hb hby d_prog_8_4_62) rfl (rfl : _ = 63) ?_
        exact ht_
      by_cases hz2 : (cmpValue (FP.dcmp lo2 (0 : UInt64)) .l) = (0 : Int32)
      · replace hvn := own_vnN hhi2 hlo2 hvn hz2
        obtain ⟨T58, X58, e58, st58⟩ := getF X53 hx hZ hown (host := "") (Or.inl (hw _ (List.mem_of_getElem? (i := 10) rfl))) Via.refl e53 Fp (g := (mkF m 37 #[.val (.ref a1), .val (.int (0 : Int32)), .val (.double hi2), .second, .val (.double lo2), .second, .val (.double hi2), .second, .val (.double q1), .second] [(.ref a1)])) rfl rfl (hb hby d_prog_8_4_37)
        obtain ⟨cl59, Ar59, -, Sz59, Ng59, Hs59, -⟩ := id Va
        have hin59 : ¬ ((0 : Int32) < 0 ∨ cl59.slots.size ≤ ((0 : Int32)).toNatClampNeg) := inb_of Sz59 ⟨by decide, by decide⟩
        have hat59 : cl59.slots[((0 : Int32)).toNatClampNeg]? = some (.double q0) := Hs59 _ (Nat.lt_of_not_le fun q => hin59 (Or.inr q))
        have k60 : ∀ t_, Steps p.tables e below (T58.setTop (mkF m 50 #[.val (.ref a1), .val (.int (0 : Int32)), .val (.double (FP.dadd hi2 q0)), .second, .val (.double lo2), .second, .val (.double hi2), .second, .val (.double q0), .second] [])) t_ → Steps p.tables e below A t_ := by
          intro t_ ht_
          refine k57 t_ ?_
          refine own_f_ifYes X53.here hx (hb hby d_prog_8_4_63) ((if0 _ _).trans (teq (hz2)).1) (by decide) (by decide : _ = 69) ?_
          refine own_f_goto X53.here hx (hb hby d_prog_8_4_69) (by decide) (by decide : _ = 26) ?_
          refine own_f_iloadN X53.here hx (hb hby d_prog_8_4_26) rfl (rfl : _ = 27) ?_
          refine own_f_ifNo X53.here hx (hb hby d_prog_8_4_27) ((if0 _ _).trans (tlt (by decide)).2.2.2) (rfl : _ = 30) ?_
          refine own_f_dloadN X53.here hx (hb hby d_prog_8_4_30) rfl (rfl : _ = 31) ?_
          refine own_f_dstore X53.here hx (hb hby d_prog_8_4_31) (rfl : storeLocals _ _ _ = some #[.val (.ref a1), .val (.int (1 : Int32)), .val (.double hi2), .second, .val (.double lo2), .second, .val (.double hi2), .second, .val (.double q1), .second]) (rfl : _ = 33) ?_
          refine own_f_iinc X53.here hx (hb hby d_prog_8_4_33) rfl (rfl : storeLocals _ _ _ = some #[.val (.ref a1), .val (.int (0 : Int32)), .val (.double hi2), .second, .val (.double lo2), .second, .val (.double hi2), .second, .val (.double q1), .second]) (rfl : _ = 36) ?_
          refine own_f_aloadN X53.here hx (hb hby d_prog_8_4_36) rfl rfl (rfl : _ = 37) ?_
          refine st58 _ ?_
          show Steps p.tables e below (T58.setTop (mkF m 40 #[.val (.ref a1), .val (.int (0 : Int32)), .val (.double hi2), .second, .val (.double lo2), .second, .val (.double hi2), .second, .val (.double q1), .second] [(.ref ar)])) t_
          refine own_f_iloadN X58.here hx (hb hby d_prog_8_4_40) rfl (rfl : _ = 41) ?_
          refine X58.daload hx (j := (0 : Int32)) (v := (.double q0)) (by rw [e58]; exact Ar59.1) (State.isArrayOf_alike hZ.alike Ar59.2.1) Ar59.2.2 hin59 hat59 (g := (mkF m 41 #[.val (.ref a1), .val (.int (0 : Int32)), .val (.double hi2), .second, .val (.double lo2), .second, .val (.double hi2), .second, .val (.double q1), .second] [(.int (0 : Int32)), (.ref ar)])) rfl rfl (hb hby d_prog_8_4_41) _ ?_
          show Steps p.tables e below (T58.setTop (mkF m 42 #[.val (.ref a1), .val (.int (0 : Int32)), .val (.double hi2), .second, .val (.double lo2), .second, .val (.double hi2), .second, .val (.double q1), .second] [(.double q0)])) t_
          refine own_f_dstore X58.here hx (hb hby d_prog_8_4_42) (rfl : storeLocals _ _ _ = some #[.val (.ref a1), .val (.int (0 : Int32)), .val (.double hi2), .second, .val (.double lo2), .second, .val (.double hi2), .second, .val (.double q0), .second]) (rfl : _ = 44) ?_
          refine own_f_dload X58.here hx (hb hby d_prog_8_4_44) rfl (rfl : _ = 46) ?_
          refine own_f_dload X58.here hx (hb hby d_prog_8_4_46) rfl (rfl : _ = 48) ?_
          refine own_f_dadd X58.here hx (hb hby d_prog_8_4_48) (hvn.1) rfl (rfl : _ = 49) ?_
          refine own_f_dstoreN X58.here hx (hb hby d_prog_8_4_49) (rfl : storeLocals _ _ _ = some #[.val (.ref a1), .val (.int (0 : Int32)), .val (.double (FP.dadd hi2 q0)), .second, .val (.double lo2), .second, .val (.double hi2), .second, .val (.double q0), .second]) (rfl : _ = 50) ?_
          exact ht_
        obtain ⟨hi1, hhi1⟩ : ∃ z : UInt64, z = (FP.dadd hi2 q0) := ⟨_, rfl⟩
        rw [← hhi1] at k60
        obtain ⟨nb1, nc1⟩ := own_vn hhi1 hvn
        have k61 : ∀ t_, Steps p.tables e below (T58.setTop (mkF m 59 #[.val (.ref a1), .val (.int (0 : Int32)), .val (.double hi1), .second, .val (.double (FP.dsub q0 (FP.dsub hi1 hi2))), .second, .val (.double hi2), .second, .val (.double q0), .second] [])) t_ → Steps p.tables e below A t_ := by
          intro t_ ht_
          refine k60 t_ ?_
          refine own_f_dload X58.here hx (hb hby d_prog_8_4_50) rfl (rfl : _ = 52) ?_
          refine own_f_dloadN X58.here hx (hb hby d_prog_8_4_52) rfl (rfl : _ = 53) ?_
          refine own_f_dload X58.here hx (hb hby d_prog_8_4_53) rfl (rfl : _ = 55) ?_
          refine own_f_dsub X58.here hx (hb hby d_prog_8_4_55) (nb1) rfl (rfl : _ = 56) ?_
          refine own_f_dsub X58.here hx (hb hby d_prog_8_4_56) (nc1) rfl (rfl : _ = 57) ?_
          refine own_f_dstore X58.here hx (hb hby d_prog_8_4_57) (rfl : storeLocals _ _ _ = some #[.val (.ref a1), .val (.int (0 : Int32)), .val (.double hi1), .second, .val (.double (FP.dsub q0 (FP.dsub hi1 hi2))), .second, .val (.double hi2), .second, .val (.double q0), .second]) (rfl : _ = 59) ?_
          exact ht_
        obtain ⟨lo1, hlo1⟩ : ∃ z : UInt64, z = (FP.dsub q0 (FP.dsub hi1 hi2)) := ⟨_, rfl⟩
        rw [← hlo1] at k61
        have k62 : ∀ t_, Steps p.tables e below (T58.setTop (mkF m 63 #[.val (.ref a1), .val (.int (0 : Int32)), .val (.double hi1), .second, .val (.double lo1), .second, .val (.double hi2), .second, .val (.double q0), .second] [(.int (cmpValue (FP.dcmp lo1 (0 : UInt64)) .l))])) t_ → Steps p.tables e below A t_ := by
          intro t_ ht_
          refine k61 t_ ?_
          refine own_f_dload X58.here hx (hb hby d_prog_8_4_59) rfl (rfl : _ = 61) ?_
          refine own_f_dconst0 X58.here hx (hb hby d_prog_8_4_61) (rfl : _ = (0 : UInt64)) (rfl : _ = 62) ?_
          refine own_f_dcmp X58.here hx (hb hby d_prog_8_4_62) rfl (rfl : _ = 63) ?_
          exact ht_
        by_cases hz1 : (cmpValue (FP.dcmp lo1 (0 : UInt64)) .l) = (0 : Int32)
        · replace hvn := own_vnN hhi1 hlo1 hvn hz1
          obtain ⟨fs, hr, hrun, hended, hW, hsame⟩ := X58.leave (v := some (.double hi1)) (fun h => by rw [Bd.returns] at h; cases h) hlk
          refine ⟨_, _, ?_, hrun, hended, _, _, rfl, ?_, ⟨_, rfl⟩, hW, hsame.mono (by decide) (by decide)⟩
          · refine hA0 _ ?_
            refine k62 _ ?_
            refine own_f_ifYes X58.here hx (hb hby d_prog_8_4_63) ((if0 _ _).trans (teq (hz1)).1) (by decide) (by decide : _ = 69) ?_
            refine own_f_goto X58.here hx (hb hby d_prog_8_4_69) (by decide) (by decide : _ = 26) ?_
            refine own_f_iloadN X58.here hx (hb hby d_prog_8_4_26) rfl (rfl : _ = 27) ?_
            refine own_f_ifYes X58.here hx (hb hby d_prog_8_4_27) ((if0 _ _).trans (flt (by decide)).2.2.2) (by decide) (by decide : _ = 72) ?_
            refine own_f_iloadN X58.here hx (hb hby d_prog_8_4_72) rfl (rfl : _ = 73) ?_
            refine own_f_ifYes X58.here hx (hb hby d_prog_8_4_73) ((if0 _ _).trans (flt (by decide)).2.2.2) (by decide) (by decide : _ = 143) ?_
            refine own_f_dloadN X58.here hx (hb hby d_prog_8_4_143) rfl (rfl : _ = 144) ?_
            exact retD X58 hx Bd.returns (hb hby d_prog_8_4_144) hr
          · show Q3 Z a1 _ ar kc q0 q1 q2 q3 _ h0 n0 _ T58.heap _
            rw [e58]
            exact ⟨congrArg (fun z => some (Value.double z)) (Eq.symm ((show own_value [q0, q1, q2, q3] = own_val [q2, q1, q0] q3 from rfl).trans ((own_val_z hhi3 hlo3 hz3).trans ((own_val_z hhi2 hlo2 hz2).trans ((own_val_z hhi1 hlo1 hz1).trans (rfl)))))), N0, rfl⟩
        · obtain ⟨fs, hr, hrun, hended, hW, hsame⟩ := X58.leave (v := some (.double hi1)) (fun h => by rw [Bd.returns] at h; cases h) hlk
          refine ⟨_, _, ?_, hrun, hended, _, _, rfl, ?_, ⟨_, rfl⟩, hW, hsame.mono (by decide) (by decide)⟩
          · refine hA0 _ ?_
            refine k62 _ ?_
            refine own_f_ifNo X58.here hx (hb hby d_prog_8_4_63) ((if0 _ _).trans (feq (hz1)).1) (rfl : _ = 66) ?_
            refine own_f_goto X58.here hx (hb hby d_prog_8_4_66) (by decide) (by decide : _ = 72) ?_
            refine own_f_iloadN X58.here hx (hb hby d_prog_8_4_72) rfl (rfl : _ = 73) ?_
            refine own_f_ifYes X58.here hx (hb hby d_prog_8_4_73) ((if0 _ _).trans (flt (by decide)).2.2.2) (by decide) (by decide : _ = 143) ?_
            refine own_f_dloadN X58.here hx (hb hby d_prog_8_4_143) rfl (rfl : _ = 144) ?_
            exact retD X58 hx Bd.returns (hb hby d_prog_8_4_144) hr
          · show Q3 Z a1 _ ar kc q0 q1 q2 q3 _ h0 n0 _ T58.heap _
            rw [e58]
            exact ⟨congrArg (fun z => some (Value.double z)) (Eq.symm ((show own_value [q0, q1, q2, q3] = own_val [q2, q1, q0] q3 from rfl).trans ((own_val_z hhi3 hlo3 hz3).trans ((own_val_z hhi2 hlo2 hz2).trans (own_val_1 hhi1 hlo1 hz1))))), N0, rfl⟩
      · obtain ⟨fn1, fn2, fn3⟩ := own_vnF hhi2 hlo2 hvn hz2 (by simp)
        have k63 : ∀ t_, Steps p.tables e below (T53.setTop (mkF m 80 #[.val (.ref a1), .val (.int (1 : Int32)), .val (.double hi2), .second, .val (.double lo2), .second, .val (.double hi3), .second, .val (.double q1), .second] [(.int (cmpValue (FP.dcmp lo2 (0 : UInt64)) .g))])) t_ → Steps p.tables e below A t_ := by
          intro t_ ht_
          refine k57 t_ ?_
          refine own_f_ifNo X53.here hx (hb hby d_prog_8_4_63) ((if0 _ _).trans (feq (hz2)).1) (rfl : _ = 66) ?_
          refine own_f_goto X53.here hx (hb hby d_prog_8_4_66) (by decide) (by decide : _ = 72) ?_
          refine own_f_iloadN X53.here hx (hb hby d_prog_8_4_72) rfl (rfl : _ = 73) ?_
          refine own_f_ifNo X53.here hx (hb hby d_prog_8_4_73) ((if0 _ _).trans (tlt (by decide)).2.2.2) (rfl : _ = 76) ?_
          refine own_f_dload X53.here hx (hb hby d_prog_8_4_76) rfl (rfl : _ = 78) ?_
          refine own_f_dconst0 X53.here hx (hb hby d_prog_8_4_78) (rfl : _ = (0 : UInt64)) (rfl : _ = 79) ?_
          refine own_f_dcmp X53.here hx (hb hby d_prog_8_4_79) rfl (rfl : _ = 80) ?_
          exact ht_
        by_cases hng : (cmpValue (FP.dcmp lo2 (0 : UInt64)) .g) < (0 : Int32)
        · obtain ⟨T69, X69, e69, st69⟩ := getF X53 hx hZ hown (host := "") (Or.inl (hw _ (List.mem_of_getElem? (i := 10) rfl))) Via.refl e53 Fp (g := (mkF m 84 #[.val (.ref a1), .val (.int (1 : Int32)), .val (.double hi2), .second, .val (.double lo2), .second, .val (.double hi3), .second, .val (.double q1), .second] [(.ref a1)])) rfl rfl (hb hby d_prog_8_4_84)
          obtain ⟨cl70, Ar70, -, Sz70, Ng70, Hs70, -⟩ := id Va
          have hin70 : ¬ ((0 : Int32) < 0 ∨ cl70.slots.size ≤ ((0 : Int32)).toNatClampNeg) := inb_of Sz70 ⟨by decide, by decide⟩
          have hat70 : cl70.slots[((0 : Int32)).toNatClampNeg]? = some (.double q0) := Hs70 _ (Nat.lt_of_not_le fun q => hin70 (Or.inr q))
          have k71 : ∀ t_, Steps p.tables e below (T69.setTop (mkF m 93 #[.val (.ref a1), .val (.int (1 : Int32)), .val (.double hi2), .second, .val (.double lo2), .second, .val (.double hi3), .second, .val (.double q1), .second] [(.int (cmpValue (FP.dcmp q0 (0 : UInt64)) .g))])) t_ → Steps p.tables e below A t_ := by
            intro t_ ht_
            refine k63 t_ ?_
            refine own_f_ifNo X53.here hx (hb hby d_prog_8_4_80) ((if0 _ _).trans (tlt (hng)).2.1) (rfl : _ = 83) ?_
            refine own_f_aloadN X53.here hx (hb hby d_prog_8_4_83) rfl rfl (rfl : _ = 84) ?_
            refine st69 _ ?_
            show Steps p.tables e below (T69.setTop (mkF m 87 #[.val (.ref a1), .val (.int (1 : Int32)), .val (.double hi2), .second, .val (.double lo2), .second, .val (.double hi3), .second, .val (.double q1), .second] [(.ref ar)])) t_
            refine own_f_iloadN X69.here hx (hb hby d_prog_8_4_87) rfl (rfl : _ = 88) ?_
            refine own_f_iconst X69.here hx (hb hby d_prog_8_4_88) (rfl : _ = (1 : Int32)) (rfl : _ = 89) ?_
            refine own_f_isub X69.here hx (hb hby d_prog_8_4_89) (rfl : _ = (0 : Int32)) (rfl : _ = 90) ?_
            refine X69.daload hx (j := (0 : Int32)) (v := (.double q0)) (by rw [e69]; exact Ar70.1) (State.isArrayOf_alike hZ.alike Ar70.2.1) Ar70.2.2 hin70 hat70 (g := (mkF m 90 #[.val (.ref a1), .val (.int (1 : Int32)), .val (.double hi2), .second, .val (.double lo2), .second, .val (.double hi3), .second, .val (.double q1), .second] [(.int (0 : Int32)), (.ref ar)])) rfl rfl (hb hby d_prog_8_4_90) _ ?_
            show Steps p.tables e below (T69.setTop (mkF m 91 #[.val (.ref a1), .val (.int (1 : Int32)), .val (.double hi2), .second, .val (.double lo2), .second, .val (.double hi3), .second, .val (.double q1), .second] [(.double q0)])) t_
            refine own_f_dconst0 X69.here hx (hb hby d_prog_8_4_91) (rfl : _ = (0 : UInt64)) (rfl : _ = 92) ?_
            refine own_f_dcmp X69.here hx (hb hby d_prog_8_4_92) rfl (rfl : _ = 93) ?_
            exact ht_
          by_cases hnp : (cmpValue (FP.dcmp q0 (0 : UInt64)) .g) < (0 : Int32)
          · have k72 : ∀ t_, Steps p.tables e below (T69.setTop (mkF m 137 #[.val (.ref a1), .val (.int (1 : Int32)), .val (.double hi2), .second, .val (.double lo2), .second, .val (.double (FP.dmul lo2 (4611686018427387904 : UInt64))), .second, .val (.double (FP.dadd hi2 (FP.dmul lo2 (4611686018427387904 : UInt64)))), .second] [(.int (cmpValue (FP.dcmp (FP.dmul lo2 (4611686018427387904 : UInt64)) (FP.dsub (FP.dadd hi2 (FP.dmul lo2 (4611686018427387904 : UInt64))) hi2)) .l))])) t_ → Steps p.tables e below A t_ := by
              intro t_ ht_
              refine k71 t_ ?_
              refine own_f_ifYes X69.here hx (hb hby d_prog_8_4_93) ((if0 _ _).trans (tlt (hnp)).1) (by decide) (by decide : _ = 116) ?_
              refine own_f_dload X69.here hx (hb hby d_prog_8_4_116) rfl (rfl : _ = 118) ?_
              refine own_f_ldc2DoubleC X69 hx hown (mvT hZ (hw _ (List.mem_of_getElem? (i := 44) rfl))) (hb hby d_prog_8_4_118) (rfl : _ = 121) ?_
              refine own_f_dmul X69.here hx (hb hby d_prog_8_4_121) (fn1) rfl (rfl : _ = 122) ?_
              refine own_f_dstore X69.here hx (hb hby d_prog_8_4_122) (rfl : storeLocals _ _ _ = some #[.val (.ref a1), .val (.int (1 : Int32)), .val (.double hi2), .second, .val (.double lo2), .second, .val (.double (FP.dmul lo2 (4611686018427387904 : UInt64))), .second, .val (.double q1), .second]) (rfl : _ = 124) ?_
              refine own_f_dloadN X69.here hx (hb hby d_prog_8_4_124) rfl (rfl : _ = 125) ?_
              refine own_f_dload X69.here hx (hb hby d_prog_8_4_125) rfl (rfl : _ = 127) ?_
              refine own_f_dadd X69.here hx (hb hby d_prog_8_4_127) (fn2) rfl (rfl : _ = 128) ?_
              refine own_f_dstore X69.here hx (hb hby d_prog_8_4_128) (rfl : storeLocals _ _ _ = some #[.val (.ref a1), .val (.int (1 : Int32)), .val (.double hi2), .second, .val (.double lo2), .second, .val (.double (FP.dmul lo2 (4611686018427387904 : UInt64))), .second, .val (.double (FP.dadd hi2 (FP.dmul lo2 (4611686018427387904 : UInt64)))), .second]) (rfl : _ = 130) ?_
              refine own_f_dload X69.here hx (hb hby d_prog_8_4_130) rfl (rfl : _ = 132) ?_
              refine own_f_dload X69.here hx (hb hby d_prog_8_4_132) rfl (rfl : _ = 134) ?_
              refine own_f_dloadN X69.here hx (hb hby d_prog_8_4_134) rfl (rfl : _ = 135) ?_
              refine own_f_dsub X69.here hx (hb hby d_prog_8_4_135) (fn3) rfl (rfl : _ = 136) ?_
              refine own_f_dcmp X69.here hx (hb hby d_prog_8_4_136) rfl (rfl : _ = 137) ?_
              exact ht_
            by_cases hte : (cmpValue (FP.dcmp (FP.dmul lo2 (4611686018427387904 : UInt64)) (FP.dsub (FP.dadd hi2 (FP.dmul lo2 (4611686018427387904 : UInt64))) hi2)) .l) = (0 : Int32)
            · obtain ⟨fs, hr, hrun, hended, hW, hsame⟩ := X69.leave (v := some (.double (FP.dadd hi2 (FP.dmul lo2 (4611686018427387904 : UInt64))))) (fun h => by rw [Bd.returns] at h; cases h) hlk
              refine ⟨_, _, ?_, hrun, hended, _, _, rfl, ?_, ⟨_, rfl⟩, hW, hsame.mono (by decide) (by decide)⟩
              · refine hA0 _ ?_
                refine k72 _ ?_
                refine own_f_ifNo X69.here hx (hb hby d_prog_8_4_137) ((if0 _ _).trans (teq (hte)).2) (rfl : _ = 140) ?_
                refine own_f_dload X69.here hx (hb hby d_prog_8_4_140) rfl (rfl : _ = 142) ?_
                refine own_f_dstoreN X69.here hx (hb hby d_prog_8_4_142) (rfl : storeLocals _ _ _ = some #[.val (.ref a1), .val (.int (1 : Int32)), .val (.double (FP.dadd hi2 (FP.dmul lo2 (4611686018427387904 : UInt64)))), .second, .val (.double lo2), .second, .val (.double (FP.dmul lo2 (4611686018427387904 : UInt64))), .second, .val (.double (FP.dadd hi2 (FP.dmul lo2 (4611686018427387904 : UInt64)))), .second]) (rfl : _ = 143) ?_
                refine own_f_dloadN X69.here hx (hb hby d_prog_8_4_143) rfl (rfl : _ = 144) ?_
                exact retD X69 hx Bd.returns (hb hby d_prog_8_4_144) hr
              · show Q3 Z a1 _ ar kc q0 q1 q2 q3 _ h0 n0 _ T69.heap _
                rw [e69]
                exact ⟨congrArg (fun z => some (Value.double z)) (Eq.symm ((show own_value [q0, q1, q2, q3] = own_val [q2, q1, q0] q3 from rfl).trans ((own_val_z hhi3 hlo3 hz3).trans ((own_val_f hhi2 hlo2 hz2).trans (own_vf_yy (Or.inl ⟨hng, hnp⟩) hte))))), N0, rfl⟩
            · obtain ⟨fs, hr, hrun, hended, hW, hsame⟩ := X69.leave (v := some (.double hi2)) (fun h => by rw [Bd.returns] at h; cases h) hlk
              refine ⟨_, _, ?_, hrun, hended, _, _, rfl, ?_, ⟨_, rfl⟩, hW, hsame.mono (by decide) (by decide)⟩
              · refine hA0 _ ?_
                refine k72 _ ?_
                refine own_f_ifYes X69.here hx (hb hby d_prog_8_4_137) ((if0 _ _).trans (feq (hte)).2) (by decide) (by decide : _ = 143) ?_
                refine own_f_dloadN X69.here hx (hb hby d_prog_8_4_143) rfl (rfl : _ = 144) ?_
                exact retD X69 hx Bd.returns (hb hby d_prog_8_4_144) hr
              · show Q3 Z a1 _ ar kc q0 q1 q2 q3 _ h0 n0 _ T69.heap _
                rw [e69]
                exact ⟨congrArg (fun z => some (Value.double z)) (Eq.symm ((show own_value [q0, q1, q2, q3] = own_val [q2, q1, q0] q3 from rfl).trans ((own_val_z hhi3 hlo3 hz3).trans ((own_val_f hhi2 hlo2 hz2).trans (own_vf_yn (Or.inl ⟨hng, hnp⟩) hte))))), N0, rfl⟩
          · have k73 : ∀ t_, Steps p.tables e below (T69.setTop (mkF m 100 #[.val (.ref a1), .val (.int (1 : Int32)), .val (.double hi2), .second, .val (.double lo2), .second, .val (.double hi3), .second, .val (.double q1), .second] [(.int (cmpValue (FP.dcmp lo2 (0 : UInt64)) .l))])) t_ → Steps p.tables e below A t_ := by
              intro t_ ht_
              refine k71 t_ ?_
              refine own_f_ifNo X69.here hx (hb hby d_prog_8_4_93) ((if0 _ _).trans (flt (hnp)).1) (rfl : _ = 96) ?_
              refine own_f_dload X69.here hx (hb hby d_prog_8_4_96) rfl (rfl : _ = 98) ?_
              refine own_f_dconst0 X69.here hx (hb hby d_prog_8_4_98) (rfl : _ = (0 : UInt64)) (rfl : _ = 99) ?_
              refine own_f_dcmp X69.here hx (hb hby d_prog_8_4_99) rfl (rfl : _ = 100) ?_
              exact ht_
            by_cases hps : (0 : Int32) < (cmpValue (FP.dcmp lo2 (0 : UInt64)) .l)
            · obtain ⟨T74, X74, e74, st74⟩ := getF X69 hx hZ hown (host := "") (Or.inl (hw _ (List.mem_of_getElem? (i := 10) rfl))) Via.refl e69 Fp (g := (mkF m 104 #[.val (.ref a1), .val (.int (1 : Int32)), .val (.double hi2), .second, .val (.double lo2), .second, .val (.double hi3), .second, .val (.double q1), .second] [(.ref a1)])) rfl rfl (hb hby d_prog_8_4_104)
              obtain ⟨cl75, Ar75, -, Sz75, Ng75, Hs75, -⟩ := id Va
              have hin75 : ¬ ((0 : Int32) < 0 ∨ cl75.slots.size ≤ ((0 : Int32)).toNatClampNeg) := inb_of Sz75 ⟨by decide, by decide⟩
              have hat75 : cl75.slots[((0 : Int32)).toNatClampNeg]? = some (.double q0) := Hs75 _ (Nat.lt_of_not_le fun q => hin75 (Or.inr q))
              have k76 : ∀ t_, Steps p.tables e below (T74.setTop (mkF m 113 #[.val (.ref a1), .val (.int (1 : Int32)), .val (.double hi2), .second, .val (.double lo2), .second, .val (.double hi3), .second, .val (.double q1), .second] [(.int (cmpValue (FP.dcmp q0 (0 : UInt64)) .l))])) t_ → Steps p.tables e below A t_ := by
                intro t_ ht_
                refine k73 t_ ?_
                refine own_f_ifNo X69.here hx (hb hby d_prog_8_4_100) ((if0 _ _).trans (tlt (hps)).2.2.2) (rfl : _ = 103) ?_
                refine own_f_aloadN X69.here hx (hb hby d_prog_8_4_103) rfl rfl (rfl : _ = 104) ?_
                refine st74 _ ?_
                show Steps p.tables e below (T74.setTop (mkF m 107 #[.val (.ref a1), .val (.int (1 : Int32)), .val (.double hi2), .second, .val (.double lo2), .second, .val (.double hi3), .second, .val (.double q1), .second] [(.ref ar)])) t_
                refine own_f_iloadN X74.here hx (hb hby d_prog_8_4_107) rfl (rfl : _ = 108) ?_
                refine own_f_iconst X74.here hx (hb hby d_prog_8_4_108) (rfl : _ = (1 : Int32)) (rfl : _ = 109) ?_
                refine own_f_isub X74.here hx (hb hby d_prog_8_4_109) (rfl : _ = (0 : Int32)) (rfl : _ = 110) ?_
                refine X74.daload hx (j := (0 : Int32)) (v := (.double q0)) (by rw [e74]; exact Ar75.1) (State.isArrayOf_alike hZ.alike Ar75.2.1) Ar75.2.2 hin75 hat75 (g := (mkF m 110 #[.val (.ref a1), .val (.int (1 : Int32)), .val (.double hi2), .second, .val (.double lo2), .second, .val (.double hi3), .second, .val (.double q1), .second] [(.int (0 : Int32)), (.ref ar)])) rfl rfl (hb hby d_prog_8_4_110) _ ?_
                show Steps p.tables e below (T74.setTop (mkF m 111 #[.val (.ref a1), .val (.int (1 : Int32)), .val (.double hi2), .second, .val (.double lo2), .second, .val (.double hi3), .second, .val (.double q1), .second] [(.double q0)])) t_
                refine own_f_dconst0 X74.here hx (hb hby d_prog_8_4_111) (rfl : _ = (0 : UInt64)) (rfl : _ = 112) ?_
                refine own_f_dcmp X74.here hx (hb hby d_prog_8_4_112) rfl (rfl : _ = 113) ?_
                exact ht_
              by_cases hpp : (0 : Int32) < (cmpValue (FP.dcmp q0 (0 : UInt64)) .l)
              · have k77 : ∀ t_, Steps p.tables e below (T74.setTop (mkF m 137 #[.val (.ref a1), .val (.int (1 : Int32)), .val (.double hi2), .second, .val (.double lo2), .second, .val (.double (FP.dmul lo2 (4611686018427387904 : UInt64))), .second, .val (.double (FP.dadd hi2 (FP.dmul lo2 (4611686018427387904 : UInt64)))), .second] [(.int (cmpValue (FP.dcmp (FP.dmul lo2 (4611686018427387904 : UInt64)) (FP.dsub (FP.dadd hi2 (FP.dmul lo2 (4611686018427387904 : UInt64))) hi2)) .l))])) t_ → Steps p.tables e below A t_ := by
                  intro t_ ht_
                  refine k76 t_ ?_
                  refine own_f_ifNo X74.here hx (hb hby d_prog_8_4_113) ((if0 _ _).trans (tlt (hpp)).2.2.2) (rfl : _ = 116) ?_
                  refine own_f_dload X74.here hx (hb hby d_prog_8_4_116) rfl (rfl : _ = 118) ?_
                  refine own_f_ldc2DoubleC X74 hx hown (mvT hZ (hw _ (List.mem_of_getElem? (i := 44) rfl))) (hb hby d_prog_8_4_118) (rfl : _ = 121) ?_
                  refine own_f_dmul X74.here hx (hb hby d_prog_8_4_121) (fn1) rfl (rfl : _ = 122) ?_
                  refine own_f_dstore X74.here hx (hb hby d_prog_8_4_122) (rfl : storeLocals _ _ _ = some #[.val (.ref a1), .val (.int (1 : Int32)), .val (.double hi2), .second, .val (.double lo2), .second, .val (.double (FP.dmul lo2 (4611686018427387904 : UInt64))), .second, .val (.double q1), .second]) (rfl : _ = 124) ?_
                  refine own_f_dloadN X74.here hx (hb hby d_prog_8_4_124) rfl (rfl : _ = 125) ?_
                  refine own_f_dload X74.here hx (hb hby d_prog_8_4_125) rfl (rfl : _ = 127) ?_
                  refine own_f_dadd X74.here hx (hb hby d_prog_8_4_127) (fn2) rfl (rfl : _ = 128) ?_
                  refine own_f_dstore X74.here hx (hb hby d_prog_8_4_128) (rfl : storeLocals _ _ _ = some #[.val (.ref a1), .val (.int (1 : Int32)), .val (.double hi2), .second, .val (.double lo2), .second, .val (.double (FP.dmul lo2 (4611686018427387904 : UInt64))), .second, .val (.double (FP.dadd hi2 (FP.dmul lo2 (4611686018427387904 : UInt64)))), .second]) (rfl : _ = 130) ?_
                  refine own_f_dload X74.here hx (hb hby d_prog_8_4_130) rfl (rfl : _ = 132) ?_
                  refine own_f_dload X74.here hx (hb hby d_prog_8_4_132) rfl (rfl : _ = 134) ?_
                  refine own_f_dloadN X74.here hx (hb hby d_prog_8_4_134) rfl (rfl : _ = 135) ?_
                  refine own_f_dsub X74.here hx (hb hby d_prog_8_4_135) (fn3) rfl (rfl : _ = 136) ?_
                  refine own_f_dcmp X74.here hx (hb hby d_prog_8_4_136) rfl (rfl : _ = 137) ?_
                  exact ht_
                by_cases hte : (cmpValue (FP.dcmp (FP.dmul lo2 (4611686018427387904 : UInt64)) (FP.dsub (FP.dadd hi2 (FP.dmul lo2 (4611686018427387904 : UInt64))) hi2)) .l) = (0 : Int32)
                · obtain ⟨fs, hr, hrun, hended, hW, hsame⟩ := X74.leave (v := some (.double (FP.dadd hi2 (FP.dmul lo2 (4611686018427387904 : UInt64))))) (fun h => by rw [Bd.returns] at h; cases h) hlk
                  refine ⟨_, _, ?_, hrun, hended, _, _, rfl, ?_, ⟨_, rfl⟩, hW, hsame.mono (by decide) (by decide)⟩
                  · refine hA0 _ ?_
                    refine k77 _ ?_
                    refine own_f_ifNo X74.here hx (hb hby d_prog_8_4_137) ((if0 _ _).trans (teq (hte)).2) (rfl : _ = 140) ?_
                    refine own_f_dload X74.here hx (hb hby d_prog_8_4_140) rfl (rfl : _ = 142) ?_
                    refine own_f_dstoreN X74.here hx (hb hby d_prog_8_4_142) (rfl : storeLocals _ _ _ = some #[.val (.ref a1), .val (.int (1 : Int32)), .val (.double (FP.dadd hi2 (FP.dmul lo2 (4611686018427387904 : UInt64)))), .second, .val (.double lo2), .second, .val (.double (FP.dmul lo2 (4611686018427387904 : UInt64))), .second, .val (.double (FP.dadd hi2 (FP.dmul lo2 (4611686018427387904 : UInt64)))), .second]) (rfl : _ = 143) ?_
                    refine own_f_dloadN X74.here hx (hb hby d_prog_8_4_143) rfl (rfl : _ = 144) ?_
                    exact retD X74 hx Bd.returns (hb hby d_prog_8_4_144) hr
                  · show Q3 Z a1 _ ar kc q0 q1 q2 q3 _ h0 n0 _ T74.heap _
                    rw [e74]
                    exact ⟨congrArg (fun z => some (Value.double z)) (Eq.symm ((show own_value [q0, q1, q2, q3] = own_val [q2, q1, q0] q3 from rfl).trans ((own_val_z hhi3 hlo3 hz3).trans ((own_val_f hhi2 hlo2 hz2).trans (own_vf_yy (Or.inr ⟨hps, hpp⟩) hte))))), N0, rfl⟩
                · obtain ⟨fs, hr, hrun, hended, hW, hsame⟩ := X74.leave (v := some (.double hi2)) (fun h => by rw [Bd.returns] at h; cases h) hlk
                  refine ⟨_, _, ?_, hrun, hended, _, _, rfl, ?_, ⟨_, rfl⟩, hW, hsame.mono (by decide) (by decide)⟩
                  · refine hA0 _ ?_
                    refine k77 _ ?_
                    refine own_f_ifYes X74.here hx (hb hby d_prog_8_4_137) ((if0 _ _).trans (feq (hte)).2) (by decide) (by decide : _ = 143) ?_
                    refine own_f_dloadN X74.here hx (hb hby d_prog_8_4_143) rfl (rfl : _ = 144) ?_
                    exact retD X74 hx Bd.returns (hb hby d_prog_8_4_144) hr
                  · show Q3 Z a1 _ ar kc q0 q1 q2 q3 _ h0 n0 _ T74.heap _
                    rw [e74]
                    exact ⟨congrArg (fun z => some (Value.double z)) (Eq.symm ((show own_value [q0, q1, q2, q3] = own_val [q2, q1, q0] q3 from rfl).trans ((own_val_z hhi3 hlo3 hz3).trans ((own_val_f hhi2 hlo2 hz2).trans (own_vf_yn (Or.inr ⟨hps, hpp⟩) hte))))), N0, rfl⟩
              · obtain ⟨fs, hr, hrun, hended, hW, hsame⟩ := X74.leave (v := some (.double hi2)) (fun h => by rw [Bd.returns] at h; cases h) hlk
                refine ⟨_, _, ?_, hrun, hended, _, _, rfl, ?_, ⟨_, rfl⟩, hW, hsame.mono (by decide) (by decide)⟩
                · refine hA0 _ ?_
                  refine k76 _ ?_
                  refine own_f_ifYes X74.here hx (hb hby d_prog_8_4_113) ((if0 _ _).trans (flt (hpp)).2.2.2) (by decide) (by decide : _ = 143) ?_
                  refine own_f_dloadN X74.here hx (hb hby d_prog_8_4_143) rfl (rfl : _ = 144) ?_
                  exact retD X74 hx Bd.returns (hb hby d_prog_8_4_144) hr
                · show Q3 Z a1 _ ar kc q0 q1 q2 q3 _ h0 n0 _ T74.heap _
                  rw [e74]
                  exact ⟨congrArg (fun z => some (Value.double z)) (Eq.symm ((show own_value [q0, q1, q2, q3] = own_val [q2, q1, q0] q3 from rfl).trans ((own_val_z hhi3 hlo3 hz3).trans ((own_val_f hhi2 hlo2 hz2).trans (own_vf_no (fun q => q.elim (fun r => (fun r => hnp r.2) r) (fun r => hpp r.2))))))), N0, rfl⟩
            · obtain ⟨fs, hr, hrun, hended, hW, hsame⟩ := X69.leave (v := some (.double hi2)) (fun h => by rw [Bd.returns] at h; cases h) hlk
              refine ⟨_, _, ?_, hrun, hended, _, _, rfl, ?_, ⟨_, rfl⟩, hW, hsame.mono (by decide) (by decide)⟩
              · refine hA0 _ ?_
                refine k73 _ ?_
                refine own_f_ifYes X69.here hx (hb hby d_prog_8_4_100) ((if0 _ _).trans (flt (hps)).2.2.2) (by decide) (by decide : _ = 143) ?_
                refine own_f_dloadN X69.here hx (hb hby d_prog_8_4_143) rfl (rfl : _ = 144) ?_
                exact retD X69 hx Bd.returns (hb hby d_prog_8_4_144) hr
              · show Q3 Z a1 _ ar kc q0 q1 q2 q3 _ h0 n0 _ T69.heap _
                rw [e69]
                exact ⟨congrArg (fun z => some (Value.double z)) (Eq.symm ((show own_value [q0, q1, q2, q3] = own_val [q2, q1, q0] q3 from rfl).trans ((own_val_z hhi3 hlo3 hz3).trans ((own_val_f hhi2 hlo2 hz2).trans (own_vf_no (fun q => q.elim (fun r => (fun r => hnp r.2) r) (fun r => hps r.1))))))), N0, rfl⟩
        · have k64 : ∀ t_, Steps p.tables e below (T53.setTop (mkF m 100 #[.val (.ref a1), .val (.int (1 : Int32)), .val (.double hi2), .second, .val (.double lo2), .second, .val (.double hi3), .second, .val (.double q1), .second] [(.int (cmpValue (FP.dcmp lo2 (0 : UInt64)) .l))])) t_ → Steps p.tables e below A t_ := by
            intro t_ ht_
            refine k63 t_ ?_
            refine own_f_ifYes X53.here hx (hb hby d_prog_8_4_80) ((if0 _ _).trans (flt (hng)).2.1) (by decide) (by decide : _ = 96) ?_
            refine own_f_dload X53.here hx (hb hby d_prog_8_4_96) rfl (rfl : _ = 98) ?_
            refine own_f_dconst0 X53.here hx (hb hby d_prog_8_4_98) (rfl : _ = (0 : UInt64)) (rfl : _ = 99) ?_
            refine own_f_dcmp X53.here hx (hb hby d_prog_8_4_99) rfl (rfl : _ = 100) ?_
            exact ht_
          by_cases hps : (0 : Int32) < (cmpValue (FP.dcmp lo2 (0 : UInt64)) .l)
          · obtain ⟨T65, X65, e65, st65⟩ := getF X53 hx hZ hown (host := "") (Or.inl (hw _ (List.mem_of_getElem? (i := 10) rfl))) Via.refl e53 Fp (g := (mkF m 104 #[.val (.ref a1), .val (.int (1 : Int32)), .val (.double hi2), .second, .val (.double lo2), .second, .val (.double hi3), .second, .val (.double q1), .second] [(.ref a1)])) rfl rfl (hb hby d_prog_8_4_104)
            obtain ⟨cl66, Ar66, -, Sz66, Ng66, Hs66, -⟩ := id Va
            have hin66 : ¬ ((0 : Int32) < 0 ∨ cl66.slots.size ≤ ((0 : Int32)).toNatClampNeg) := inb_of Sz66 ⟨by decide, by decide⟩
            have hat66 : cl66.slots[((0 : Int32)).toNatClampNeg]? = some (.double q0) := Hs66 _ (Nat.lt_of_not_le fun q => hin66 (Or.inr q))
            have k67 : ∀ t_, Steps p.tables e below (T65.setTop (mkF m 113 #[.val (.ref a1), .val (.int (1 : Int32)), .val (.double hi2), .second, .val (.double lo2), .second, .val (.double hi3), .second, .val (.double q1), .second] [(.int (cmpValue (FP.dcmp q0 (0 : UInt64)) .l))])) t_ → Steps p.tables e below A t_ := by
              intro t_ ht_
              refine k64 t_ ?_
              refine own_f_ifNo X53.here hx (hb hby d_prog_8_4_100) ((if0 _ _).trans (tlt (hps)).2.2.2) (rfl : _ = 103) ?_
              refine own_f_aloadN X53.here hx (hb hby d_prog_8_4_103) rfl rfl (rfl : _ = 104) ?_
              refine st65 _ ?_
              show Steps p.tables e below (T65.setTop (mkF m 107 #[.val (.ref a1), .val (.int (1 : Int32)), .val (.double hi2), .second, .val (.double lo2), .second, .val (.double hi3), .second, .val (.double q1), .second] [(.ref ar)])) t_
              refine own_f_iloadN X65.here hx (hb hby d_prog_8_4_107) rfl (rfl : _ = 108) ?_
              refine own_f_iconst X65.here hx (hb hby d_prog_8_4_108) (rfl : _ = (1 : Int32)) (rfl : _ = 109) ?_
              refine own_f_isub X65.here hx (hb hby d_prog_8_4_109) (rfl : _ = (0 : Int32)) (rfl : _ = 110) ?_
              refine X65.daload hx (j := (0 : Int32)) (v := (.double q0)) (by rw [e65]; exact Ar66.1) (State.isArrayOf_alike hZ.alike Ar66.2.1) Ar66.2.2 hin66 hat66 (g := (mkF m 110 #[.val (.ref a1), .val (.int (1 : Int32)), .val (.double hi2), .second, .val (.double lo2), .second, .val (.double hi3), .second, .val (.double q1), .second] [(.int (0 : Int32)), (.ref ar)])) rfl rfl (hb hby d_prog_8_4_110) _ ?_
              show Steps p.tables e below (T65.setTop (mkF m 111 #[.val (.ref a1), .val (.int (1 : Int32)), .val (.double hi2), .second, .val (.double lo2), .second, .val (.double hi3), .second, .val (.double q1), .second] [(.double q0)])) t_
              refine own_f_dconst0 X65.here hx (hb hby d_prog_8_4_111) (rfl : _ = (0 : UInt64)) (rfl : _ = 112) ?_
              refine own_f_dcmp X65.here hx (hb hby d_prog_8_4_112) rfl (rfl : _ = 113) ?_
              exact ht_
            by_cases hpp : (0 : Int32) < (cmpValue (FP.dcmp q0 (0 : UInt64)) .l)
            · have k68 : ∀ t_, Steps p.tables e below (T65.setTop (mkF m 137 #[.val (.ref a1), .val (.int (1 : Int32)), .val (.double hi2), .second, .val (.double lo2), .second, .val (.double (FP.dmul lo2 (4611686018427387904 : UInt64))), .second, .val (.double (FP.dadd hi2 (FP.dmul lo2 (4611686018427387904 : UInt64)))), .second] [(.int (cmpValue (FP.dcmp (FP.dmul lo2 (4611686018427387904 : UInt64)) (FP.dsub (FP.dadd hi2 (FP.dmul lo2 (4611686018427387904 : UInt64))) hi2)) .l))])) t_ → Steps p.tables e below A t_ := by
                intro t_ ht_
                refine k67 t_ ?_
                refine own_f_ifNo X65.here hx (hb hby d_prog_8_4_113) ((if0 _ _).trans (tlt (hpp)).2.2.2) (rfl : _ = 116) ?_
                refine own_f_dload X65.here hx (hb hby d_prog_8_4_116) rfl (rfl : _ = 118) ?_
                refine own_f_ldc2DoubleC X65 hx hown (mvT hZ (hw _ (List.mem_of_getElem? (i := 44) rfl))) (hb hby d_prog_8_4_118) (rfl : _ = 121) ?_
                refine own_f_dmul X65.here hx (hb hby d_prog_8_4_121) (fn1) rfl (rfl : _ = 122) ?_
                refine own_f_dstore X65.here hx (hb hby d_prog_8_4_122) (rfl : storeLocals _ _ _ = some #[.val (.ref a1), .val (.int (1 : Int32)), .val (.double hi2), .second, .val (.double lo2), .second, .val (.double (FP.dmul lo2 (4611686018427387904 : UInt64))), .second, .val (.double q1), .second]) (rfl : _ = 124) ?_
                refine own_f_dloadN X65.here hx (hb hby d_prog_8_4_124) rfl (rfl : _ = 125) ?_
                refine own_f_dload X65.here hx (hb hby d_prog_8_4_125) rfl (rfl : _ = 127) ?_
                refine own_f_dadd X65.here hx (hb hby d_prog_8_4_127) (fn2) rfl (rfl : _ = 128) ?_
                refine own_f_dstore X65.here hx (hb hby d_prog_8_4_128) (rfl : storeLocals _ _ _ = some #[.val (.ref a1), .val (.int (1 : Int32)), .val (.double hi2), .second, .val (.double lo2), .second, .val (.double (FP.dmul lo2 (4611686018427387904 : UInt64))), .second, .val (.double (FP.dadd hi2 (FP.dmul lo2 (4611686018427387904 : UInt64)))), .second]) (rfl : _ = 130) ?_
                refine own_f_dload X65.here hx (hb hby d_prog_8_4_130) rfl (rfl : _ = 132) ?_
                refine own_f_dload X65.here hx (hb hby d_prog_8_4_132) rfl (rfl : _ = 134) ?_
                refine own_f_dloadN X65.here hx (hb hby d_prog_8_4_134) rfl (rfl : _ = 135) ?_
                refine own_f_dsub X65.here hx (hb hby d_prog_8_4_135) (fn3) rfl (rfl : _ = 136) ?_
                refine own_f_dcmp X65.here hx (hb hby d_prog_8_4_136) rfl (rfl : _ = 137) ?_
                exact ht_
              by_cases hte : (cmpValue (FP.dcmp (FP.dmul lo2 (4611686018427387904 : UInt64)) (FP.dsub (FP.dadd hi2 (FP.dmul lo2 (4611686018427387904 : UInt64))) hi2)) .l) = (0 : Int32)
              · obtain ⟨fs, hr, hrun, hended, hW, hsame⟩ := X65.leave (v := some (.double (FP.dadd hi2 (FP.dmul lo2 (4611686018427387904 : UInt64))))) (fun h => by rw [Bd.returns] at h; cases h) hlk
                refine ⟨_, _, ?_, hrun, hended, _, _, rfl, ?_, ⟨_, rfl⟩, hW, hsame.mono (by decide) (by decide)⟩
                · refine hA0 _ ?_
                  refine k68 _ ?_
                  refine own_f_ifNo X65.here hx (hb hby d_prog_8_4_137) ((if0 _ _).trans (teq (hte)).2) (rfl : _ = 140) ?_
                  refine own_f_dload X65.here hx (hb hby d_prog_8_4_140) rfl (rfl : _ = 142) ?_
                  refine own_f_dstoreN X65.here hx (hb hby d_prog_8_4_142) (rfl : storeLocals _ _ _ = some #[.val (.ref a1), .val (.int (1 : Int32)), .val (.double (FP.dadd hi2 (FP.dmul lo2 (4611686018427387904 : UInt64)))), .second, .val (.double lo2), .second, .val (.double (FP.dmul lo2 (4611686018427387904 : UInt64))), .second, .val (.double (FP.dadd hi2 (FP.dmul lo2 (4611686018427387904 : UInt64)))), .second]) (rfl : _ = 143) ?_
                  refine own_f_dloadN X65.here hx (hb hby d_prog_8_4_143) rfl (rfl : _ = 144) ?_
                  exact retD X65 hx Bd.returns (hb hby d_prog_8_4_144) hr
                · show Q3 Z a1 _ ar kc q0 q1 q2 q3 _ h0 n0 _ T65.heap _
                  rw [e65]
                  exact ⟨congrArg (fun z => some (Value.double z)) (Eq.symm ((show own_value [q0, q1, q2, q3] = own_val [q2, q1, q0] q3 from rfl).trans ((own_val_z hhi3 hlo3 hz3).trans ((own_val_f hhi2 hlo2 hz2).trans (own_vf_yy (Or.inr ⟨hps, hpp⟩) hte))))), N0, rfl⟩
              · obtain ⟨fs, hr, hrun, hended, hW, hsame⟩ := X65.leave (v := some (.double hi2)) (fun h => by rw [Bd.returns] at h; cases h) hlk
                refine ⟨_, _, ?_, hrun, hended, _, _, rfl, ?_, ⟨_, rfl⟩, hW, hsame.mono (by decide) (by decide)⟩
                · refine hA0 _ ?_
                  refine k68 _ ?_
                  refine own_f_ifYes X65.here hx (hb hby d_prog_8_4_137) ((if0 _ _).trans (feq (hte)).2) (by decide) (by decide : _ = 143) ?_
                  refine own_f_dloadN X65.here hx (hb hby d_prog_8_4_143) rfl (rfl : _ = 144) ?_
                  exact retD X65 hx Bd.returns (hb hby d_prog_8_4_144) hr
                · show Q3 Z a1 _ ar kc q0 q1 q2 q3 _ h0 n0 _ T65.heap _
                  rw [e65]
                  exact ⟨congrArg (fun z => some (Value.double z)) (Eq.symm ((show own_value [q0, q1, q2, q3] = own_val [q2, q1, q0] q3 from rfl).trans ((own_val_z hhi3 hlo3 hz3).trans ((own_val_f hhi2 hlo2 hz2).trans (own_vf_yn (Or.inr ⟨hps, hpp⟩) hte))))), N0, rfl⟩
            · obtain ⟨fs, hr, hrun, hended, hW, hsame⟩ := X65.leave (v := some (.double hi2)) (fun h => by rw [Bd.returns] at h; cases h) hlk
              refine ⟨_, _, ?_, hrun, hended, _, _, rfl, ?_, ⟨_, rfl⟩, hW, hsame.mono (by decide) (by decide)⟩
              · refine hA0 _ ?_
                refine k67 _ ?_
                refine own_f_ifYes X65.here hx (hb hby d_prog_8_4_113) ((if0 _ _).trans (flt (hpp)).2.2.2) (by decide) (by decide : _ = 143) ?_
                refine own_f_dloadN X65.here hx (hb hby d_prog_8_4_143) rfl (rfl : _ = 144) ?_
                exact retD X65 hx Bd.returns (hb hby d_prog_8_4_144) hr
              · show Q3 Z a1 _ ar kc q0 q1 q2 q3 _ h0 n0 _ T65.heap _
                rw [e65]
                exact ⟨congrArg (fun z => some (Value.double z)) (Eq.symm ((show own_value [q0, q1, q2, q3] = own_val [q2, q1, q0] q3 from rfl).trans ((own_val_z hhi3 hlo3 hz3).trans ((own_val_f hhi2 hlo2 hz2).trans (own_vf_no (fun q => q.elim (fun r => (fun r => hng r.1) r) (fun r => hpp r.2))))))), N0, rfl⟩
          · obtain ⟨fs, hr, hrun, hended, hW, hsame⟩ := X53.leave (v := some (.double hi2)) (fun h => by rw [Bd.returns] at h; cases h) hlk
            refine ⟨_, _, ?_, hrun, hended, _, _, rfl, ?_, ⟨_, rfl⟩, hW, hsame.mono (by decide) (by decide)⟩
            · refine hA0 _ ?_
              refine k64 _ ?_
              refine own_f_ifYes X53.here hx (hb hby d_prog_8_4_100) ((if0 _ _).trans (flt (hps)).2.2.2) (by decide) (by decide : _ = 143) ?_
              refine own_f_dloadN X53.here hx (hb hby d_prog_8_4_143) rfl (rfl : _ = 144) ?_
              exact retD X53 hx Bd.returns (hb hby d_prog_8_4_144) hr
            · show Q3 Z a1 _ ar kc q0 q1 q2 q3 _ h0 n0 _ T53.heap _
              rw [e53]
              exact ⟨congrArg (fun z => some (Value.double z)) (Eq.symm ((show own_value [q0, q1, q2, q3] = own_val [q2, q1, q0] q3 from rfl).trans ((own_val_z hhi3 hlo3 hz3).trans ((own_val_f hhi2 hlo2 hz2).trans (own_vf_no (fun q => q.elim (fun r => (fun r => hng r.1) r) (fun r => hps r.1))))))), N0, rfl⟩
    · obtain ⟨fn1, fn2, fn3⟩ := own_vnF hhi3 hlo3 hvn hz3 (by simp)
      have k78 : ∀ t_, Steps p.tables e below (T48.setTop (mkF m 80 #[.val (.ref a1), .val (.int (2 : Int32)), .val (.double hi3), .second, .val (.double lo3), .second, .val (.double q3), .second, .val (.double q2), .second] [(.int (cmpValue (FP.dcmp lo3 (0 : UInt64)) .g))])) t_ → Steps p.tables e below A t_ := by
        intro t_ ht_
        refine k52 t_ ?_
        refine own_f_ifNo X48.here hx (hb hby d_prog_8_4_63) ((if0 _ _).trans (feq (hz3)).1) (rfl : _ = 66) ?_
        refine own_f_goto X48.here hx (hb hby d_prog_8_4_66) (by decide) (by decide : _ = 72) ?_
        refine own_f_iloadN X48.here hx (hb hby d_prog_8_4_72) rfl (rfl : _ = 73) ?_
        refine own_f_ifNo X48.here hx (hb hby d_prog_8_4_73) ((if0 _ _).trans (tlt (by decide)).2.2.2) (rfl : _ = 76) ?_
        refine own_f_dload X48.here hx (hb hby d_prog_8_4_76) rfl (rfl : _ = 78) ?_
        refine own_f_dconst0 X48.here hx (hb hby d_prog_8_4_78) (rfl : _ = (0 : UInt64)) (rfl : _ = 79) ?_
        refine own_f_dcmp X48.here hx (hb hby d_prog_8_4_79) rfl (rfl : _ = 80) ?_
        exact ht_
      by_cases hng : (cmpValue (FP.dcmp lo3 (0 : UInt64)) .g) < (0 : Int32)
      · obtain ⟨T84, X84, e84, st84⟩ := getF X48 hx hZ hown (host := "") (Or.inl (hw _ (List.mem_of_getElem? (i := 10) rfl))) Via.refl e48 Fp (g := (mkF m 84 #[.val (.ref a1), .val (.int (2 : Int32)), .val (.double hi3), .second, .val (.double lo3), .second, .val (.double q3), .second, .val (.double q2), .second] [(.ref a1)])) rfl rfl (hb hby d_prog_8_4_84)
        obtain ⟨cl85, Ar85, -, Sz85, Ng85, Hs85, -⟩ := id Va
        have hin85 : ¬ ((1 : Int32) < 0 ∨ cl85.slots.size ≤ ((1 : Int32)).toNatClampNeg) := inb_of Sz85 ⟨by decide, by decide⟩
        have hat85 : cl85.slots[((1 : Int32)).toNatClampNeg]? = some (.double q1) := Hs85 _ (Nat.lt_of_not_le fun q => hin85 (Or.inr q))
        have k86 : ∀ t_, Steps p.tables e below (T84.setTop (mkF m 93 #[.val (.ref a1), .val (.int (2 : Int32)), .val (.double hi3), .second, .val (.double lo3), .second, .val (.double q3), .second, .val (.double q2), .second] [(.int (cmpValue (FP.dcmp q1 (0 : UInt64)) .g))])) t_ → Steps p.tables e below A t_ := by
          intro t_ ht_
          refine k78 t_ ?_
          refine own_f_ifNo X48.here hx (hb hby d_prog_8_4_80) ((if0 _ _).trans (tlt (hng)).2.1) (rfl : _ = 83) ?_
          refine own_f_aloadN X48.here hx (hb hby d_prog_8_4_83) rfl rfl (rfl : _ = 84) ?_
          refine st84 _ ?_
          show Steps p.tables e below (T84.setTop (mkF m 87 #[.val (.ref a1), .val (.int (2 : Int32)), .val (.double hi3), .second, .val (.double lo3), .second, .val (.double q3), .second, .val (.double q2), .second] [(.ref ar)])) t_
          refine own_f_iloadN X84.here hx (hb hby d_prog_8_4_87) rfl (rfl : _ = 88) ?_
          refine own_f_iconst X84.here hx (hb hby d_prog_8_4_88) (rfl : _ = (1 : Int32)) (rfl : _ = 89) ?_
          refine own_f_isub X84.here hx (hb hby d_prog_8_4_89) (rfl : _ = (1 : Int32)) (rfl : _ = 90) ?_
          refine X84.daload hx (j := (1 : Int32)) (v := (.double q1)) (by rw [e84]; exact Ar85.1) (State.isArrayOf_alike hZ.alike Ar85.2.1) Ar85.2.2 hin85 hat85 (g := (mkF m 90 #[.val (.ref a1), .val (.int (2 : Int32)), .val (.double hi3), .second, .val (.double lo3), .second, .val (.double q3), .second, .val (.double q2), .second] [(.int (1 : Int32)), (.ref ar)])) rfl rfl (hb hby d_prog_8_4_90) _ ?_
          show Steps p.tables e below (T84.setTop (mkF m 91 #[.val (.ref a1), .val (.int (2 : Int32)), .val (.double hi3), .second, .val (.double lo3), .second, .val (.double q3), .second, .val (.double q2), .second] [(.double q1)])) t_
          refine own_f_dconst0 X84.here hx (hb hby d_prog_8_4_91) (rfl : _ = (0 : UInt64)) (rfl : _ = 92) ?_
          refine own_f_dcmp X84.here hx (hb hby d_prog_8_4_92) rfl (rfl : _ = 93) ?_
          exact ht_
        by_cases hnp : (cmpValue (FP.dcmp q1 (0 : UInt64)) .g) < (0 : Int32)
        · have k87 : ∀ t_, Steps p.tables e below (T84.setTop (mkF m 137 #[.val (.ref a1), .val (.int (2 : Int32)), .val (.double hi3), .second, .val (.double lo3), .second, .val (.double (FP.dmul lo3 (4611686018427387904 : UInt64))), .second, .val (.double (FP.dadd hi3 (FP.dmul lo3 (4611686018427387904 : UInt64)))), .second] [(.int (cmpValue (FP.dcmp (FP.dmul lo3 (4611686018427387904 : UInt64)) (FP.dsub (FP.dadd hi3 (FP.dmul lo3 (4611686018427387904 : UInt64))) hi3)) .l))])) t_ → Steps p.tables e below A t_ := by
            intro t_ ht_
            refine k86 t_ ?_
            refine own_f_ifYes X84.here hx (hb hby d_prog_8_4_93) ((if0 _ _).trans (tlt (hnp)).1) (by decide) (by decide : _ = 116) ?_
            refine own_f_dload X84.here hx (hb hby d_prog_8_4_116) rfl (rfl : _ = 118) ?_
            refine own_f_ldc2DoubleC X84 hx hown (mvT hZ (hw _ (List.mem_of_getElem? (i := 44) rfl))) (hb hby d_prog_8_4_118) (rfl : _ = 121) ?_
            refine own_f_dmul X84.here hx (hb hby d_prog_8_4_121) (fn1) rfl (rfl : _ = 122) ?_
            refine own_f_dstore X84.here hx (hb hby d_prog_8_4_122) (rfl : storeLocals _ _ _ = some #[.val (.ref a1), .val (.int (2 : Int32)), .val (.double hi3), .second, .val (.double lo3), .second, .val (.double (FP.dmul lo3 (4611686018427387904 : UInt64))), .second, .val (.double q2), .second]) (rfl : _ = 124) ?_
            refine own_f_dloadN X84.here hx (hb hby d_prog_8_4_124) rfl (rfl : _ = 125) ?_
            refine own_f_dload X84.here hx (hb hby d_prog_8_4_125) rfl (rfl : _ = 127) ?_
            refine own_f_dadd X84.here hx (hb hby d_prog_8_4_127) (fn2) rfl (rfl : _ = 128) ?_
            refine own_f_dstore X84.here hx (hb hby d_prog_8_4_128) (rfl : storeLocals _ _ _ = some #[.val (.ref a1), .val (.int (2 : Int32)), .val (.double hi3), .second, .val (.double lo3), .second, .val (.double (FP.dmul lo3 (4611686018427387904 : UInt64))), .second, .val (.double (FP.dadd hi3 (FP.dmul lo3 (4611686018427387904 : UInt64)))), .second]) (rfl : _ = 130) ?_
            refine own_f_dload X84.here hx (hb hby d_prog_8_4_130) rfl (rfl : _ = 132) ?_
            refine own_f_dload X84.here hx (hb hby d_prog_8_4_132) rfl (rfl : _ = 134) ?_
            refine own_f_dloadN X84.here hx (hb hby d_prog_8_4_134) rfl (rfl : _ = 135) ?_
            refine own_f_dsub X84.here hx (hb hby d_prog_8_4_135) (fn3) rfl (rfl : _ = 136) ?_
            refine own_f_dcmp X84.here hx (hb hby d_prog_8_4_136) rfl (rfl : _ = 137) ?_
            exact ht_
          by_cases hte : (cmpValue (FP.dcmp (FP.dmul lo3 (4611686018427387904 : UInt64)) (FP.dsub (FP.dadd hi3 (FP.dmul lo3 (4611686018427387904 : UInt64))) hi3)) .l) = (0 : Int32)
          · obtain ⟨fs, hr, hrun, hended, hW, hsame⟩ := X84.leave (v := some (.double (FP.dadd hi3 (FP.dmul lo3 (4611686018427387904 : UInt64))))) (fun h => by rw [Bd.returns] at h; cases h) hlk
            refine ⟨_, _, ?_, hrun, hended, _, _, rfl, ?_, ⟨_, rfl⟩, hW, hsame.mono (by decide) (by decide)⟩
            · refine hA0 _ ?_
              refine k87 _ ?_
              refine own_f_ifNo X84.here hx (hb hby d_prog_8_4_137) ((if0 _ _).trans (teq (hte)).2) (rfl : _ = 140) ?_
              refine own_f_dload X84.here hx (hb hby d_prog_8_4_140) rfl (rfl : _ = 142) ?_
              refine own_f_dstoreN X84.here hx (hb hby d_prog_8_4_142) (rfl : storeLocals _ _ _ = some #[.val (.ref a1), .val (.int (2 : Int32)), .val (.double (FP.dadd hi3 (FP.dmul lo3 (4611686018427387904 : UInt64)))), .second, .val (.double lo3), .second, .val (.double (FP.dmul lo3 (4611686018427387904 : UInt64))), .second, .val (.double (FP.dadd hi3 (FP.dmul lo3 (4611686018427387904 : UInt64)))), .second]) (rfl : _ = 143) ?_
              refine own_f_dloadN X84.here hx (hb hby d_prog_8_4_143) rfl (rfl : _ = 144) ?_
              exact retD X84 hx Bd.returns (hb hby d_prog_8_4_144) hr
            · show Q3 Z a1 _ ar kc q0 q1 q2 q3 _ h0 n0 _ T84.heap _
              rw [e84]
              exact ⟨congrArg (fun z => some (Value.double z)) (Eq.symm ((show own_value [q0, q1, q2, q3] = own_val [q2, q1, q0] q3 from rfl).trans ((own_val_f hhi3 hlo3 hz3).trans (own_vf_yy (Or.inl ⟨hng, hnp⟩) hte)))), N0, rfl⟩
          · obtain ⟨fs, hr, hrun, hended, hW, hsame⟩ := X84.leave (v := some (.double hi3)) (fun h => by rw [Bd.returns] at h; cases h) hlk
            refine ⟨_, _, ?_, hrun, hended, _, _, rfl, ?_, ⟨_, rfl⟩, hW, hsame.mono (by decide) (by decide)⟩
            · refine hA0 _ ?_
              refine k87 _ ?_
              refine own_f_ifYes X84.here hx (hb hby d_prog_8_4_137) ((if0 _ _).trans (feq (hte)).2) (by decide) (by decide : _ = 143) ?_
              refine own_f_dloadN X84.here hx (hb hby d_prog_8_4_143) rfl (rfl : _ = 144) ?_
              exact retD X84 hx Bd.returns (hb hby d_prog_8_4_144) hr
            · show Q3 Z a1 _ ar kc q0 q1 q2 q3 _ h0 n0 _ T84.heap _
              rw [e84]
              exact ⟨congrArg (fun z => some (Value.double z)) (Eq.symm ((show own_value [q0, q1, q2, q3] = own_val [q2, q1, q0] q3 from rfl).trans ((own_val_f hhi3 hlo3 hz3).trans (own_vf_yn (Or.inl ⟨hng, hnp⟩) hte)))), N0, rfl⟩
        · have k88 : ∀ t_, Steps p.tables e below (T84.setTop (mkF m 100 #[.val (.ref a1), .val (.int (2 : Int32)), .val (.double hi3), .second, .val (.double lo3), .second, .val (.double q3), .second, .val (.double q2), .second] [(.int (cmpValue (FP.dcmp lo3 (0 : UInt64)) .l))])) t_ → Steps p.tables e below A t_ := by
            intro t_ ht_
            refine k86 t_ ?_
            refine own_f_ifNo X84.here hx (hb hby d_prog_8_4_93) ((if0 _ _).trans (flt (hnp)).1) (rfl : _ = 96) ?_
            refine own_f_dload X84.here hx (hb hby d_prog_8_4_96) rfl (rfl : _ = 98) ?_
            refine own_f_dconst0 X84.here hx (hb hby d_prog_8_4_98) (rfl : _ = (0 : UInt64)) (rfl : _ = 99) ?_
            refine own_f_dcmp X84.here hx (hb hby d_prog_8_4_99) rfl (rfl : _ = 100) ?_
            exact ht_
          by_cases hps : (0 : Int32) < (cmpValue (FP.dcmp lo3 (0 : UInt64)) .l)
          · obtain ⟨T89, X89, e89, st89⟩ := getF X84 hx hZ hown (host := "") (Or.inl (hw _ (List.mem_of_getElem? (i := 10) rfl))) Via.refl e84 Fp (g := (mkF m 104 #[.val (.ref a1), .val (.int (2 : Int32)), .val (.double hi3), .second, .val (.double lo3), .second, .val (.double q3), .second, .val (.double q2), .second] [(.ref a1)])) rfl rfl (hb hby d_prog_8_4_104)
            obtain ⟨cl90, Ar90, -, Sz90, Ng90, Hs90, -⟩ := id Va
            have hin90 : ¬ ((1 : Int32) < 0 ∨ cl90.slots.size ≤ ((1 : Int32)).toNatClampNeg) := inb_of Sz90 ⟨by decide, by decide⟩
            have hat90 : cl90.slots[((1 : Int32)).toNatClampNeg]? = some (.double q1) := Hs90 _ (Nat.lt_of_not_le fun q => hin90 (Or.inr q))
            have k91 : ∀ t_, Steps p.tables e below (T89.setTop (mkF m 113 #[.val (.ref a1), .val (.int (2 : Int32)), .val (.double hi3), .second, .val (.double lo3), .second, .val (.double q3), .second, .val (.double q2), .second] [(.int (cmpValue (FP.dcmp q1 (0 : UInt64)) .l))])) t_ → Steps p.tables e below A t_ := by
              intro t_ ht_
              refine k88 t_ ?_
              refine own_f_ifNo X84.here hx (hb hby d_prog_8_4_100) ((if0 _ _).trans (tlt (hps)).2.2.2) (rfl : _ = 103) ?_
              refine own_f_aloadN X84.here hx (hb hby d_prog_8_4_103) rfl rfl (rfl : _ = 104) ?_
              refine st89 _ ?_
              show Steps p.tables e below (T89.setTop (mkF m 107 #[.val (.ref a1), .val (.int (2 : Int32)), .val (.double hi3), .second, .val (.double lo3), .second, .val (.double q3), .second, .val (.double q2), .second] [(.ref ar)])) t_
              refine own_f_iloadN X89.here hx (hb hby d_prog_8_4_107) rfl (rfl : _ = 108) ?_
              refine own_f_iconst X89.here hx (hb hby d_prog_8_4_108) (rfl : _ = (1 : Int32)) (rfl : _ = 109) ?_
              refine own_f_isub X89.here hx (hb hby d_prog_8_4_109) (rfl : _ = (1 : Int32)) (rfl : _ = 110) ?_
              refine X89.daload hx (j := (1 : Int32)) (v := (.double q1)) (by rw [e89]; exact Ar90.1) (State.isArrayOf_alike hZ.alike Ar90.2.1) Ar90.2.2 hin90 hat90 (g := (mkF m 110 #[.val (.ref a1), .val (.int (2 : Int32)), .val (.double hi3), .second, .val (.double lo3), .second, .val (.double q3), .second, .val (.double q2), .second] [(.int (1 : Int32)), (.ref ar)])) rfl rfl (hb hby d_prog_8_4_110) _ ?_
              show Steps p.tables e below (T89.setTop (mkF m 111 #[.val (.ref a1), .val (.int (2 : Int32)), .val (.double hi3), .second, .val (.double lo3), .second, .val (.double q3), .second, .val (.double q2), .second] [(.double q1)])) t_
              refine own_f_dconst0 X89.here hx (hb hby d_prog_8_4_111) (rfl : _ = (0 : UInt64)) (rfl : _ = 112) ?_
              refine own_f_dcmp X89.here hx (hb hby d_prog_8_4_112) rfl (rfl : _ = 113) ?_
              exact ht_
            by_cases hpp : (0 : Int32) < (cmpValue (FP.dcmp q1 (0 : UInt64)) .l)
            · have k92 : ∀ t_, Steps p.tables e below (T89.setTop (mkF m 137 #[.val (.ref a1), .val (.int (2 : Int32)), .val (.double hi3), .second, .val (.double lo3), .second, .val (.double (FP.dmul lo3 (4611686018427387904 : UInt64))), .second, .val (.double (FP.dadd hi3 (FP.dmul lo3 (4611686018427387904 : UInt64)))), .second] [(.int (cmpValue (FP.dcmp (FP.dmul lo3 (4611686018427387904 : UInt64)) (FP.dsub (FP.dadd hi3 (FP.dmul lo3 (4611686018427387904 : UInt64))) hi3)) .l))])) t_ → Steps p.tables e below A t_ := by
                intro t_ ht_
                refine k91 t_ ?_
                refine own_f_ifNo X89.here hx (hb hby d_prog_8_4_113) ((if0 _ _).trans (tlt (hpp)).2.2.2) (rfl : _ = 116) ?_
                refine own_f_dload X89.here hx (hb hby d_prog_8_4_116) rfl (rfl : _ = 118) ?_
                refine own_f_ldc2DoubleC X89 hx hown (mvT hZ (hw _ (List.mem_of_getElem? (i := 44) rfl))) (hb hby d_prog_8_4_118) (rfl : _ = 121) ?_
                refine own_f_dmul X89.here hx (hb hby d_prog_8_4_121) (fn1) rfl (rfl : _ = 122) ?_
                refine own_f_dstore X89.here hx (hb hby d_prog_8_4_122) (rfl : storeLocals _ _ _ = some #[.val (.ref a1), .val (.int (2 : Int32)), .val (.double hi3), .second, .val (.double lo3), .second, .val (.double (FP.dmul lo3 (4611686018427387904 : UInt64))), .second, .val (.double q2), .second]) (rfl : _ = 124) ?_
                refine own_f_dloadN X89.here hx (hb hby d_prog_8_4_124) rfl (rfl : _ = 125) ?_
                refine own_f_dload X89.here hx (hb hby d_prog_8_4_125) rfl (rfl : _ = 127) ?_
                refine own_f_dadd X89.here hx (hb hby d_prog_8_4_127) (fn2) rfl (rfl : _ = 128) ?_
                refine own_f_dstore X89.here hx (hb hby d_prog_8_4_128) (rfl : storeLocals _ _ _ = some #[.val (.ref a1), .val (.int (2 : Int32)), .val (.double hi3), .second, .val (.double lo3), .second, .val (.double (FP.dmul lo3 (4611686018427387904 : UInt64))), .second, .val (.double (FP.dadd hi3 (FP.dmul lo3 (4611686018427387904 : UInt64)))), .second]) (rfl : _ = 130) ?_
                refine own_f_dload X89.here hx (hb hby d_prog_8_4_130) rfl (rfl : _ = 132) ?_
                refine own_f_dload X89.here hx (hb hby d_prog_8_4_132) rfl (rfl : _ = 134) ?_
                refine own_f_dloadN X89.here hx (hb hby d_prog_8_4_134) rfl (rfl : _ = 135) ?_
                refine own_f_dsub X89.here hx (hb hby d_prog_8_4_135) (fn3) rfl (rfl : _ = 136) ?_
                refine own_f_dcmp X89.here hx (hb hby d_prog_8_4_136) rfl (rfl : _ = 137) ?_
                exact ht_
              by_cases hte : (cmpValue (FP.dcmp (FP.dmul lo3 (4611686018427387904 : UInt64)) (FP.dsub (FP.dadd hi3 (FP.dmul lo3 (4611686018427387904 : UInt64))) hi3)) .l) = (0 : Int32)
              · obtain ⟨fs, hr, hrun, hended, hW, hsame⟩ := X89.leave (v := some (.double (FP.dadd hi3 (FP.dmul lo3 (4611686018427387904 : UInt64))))) (fun h => by rw [Bd.returns] at h; cases h) hlk
                refine ⟨_, _, ?_, hrun, hended, _, _, rfl, ?_, ⟨_, rfl⟩, hW, hsame.mono (by decide) (by decide)⟩
                · refine hA0 _ ?_
                  refine k92 _ ?_
                  refine own_f_ifNo X89.here hx (hb hby d_prog_8_4_137) ((if0 _ _).trans (teq (hte)).2) (rfl : _ = 140) ?_
                  refine own_f_dload X89.here hx (hb hby d_prog_8_4_140) rfl (rfl : _ = 142) ?_
                  refine own_f_dstoreN X89.here hx (hb hby d_prog_8_4_142) (rfl : storeLocals _ _ _ = some #[.val (.ref a1), .val (.int (2 : Int32)), .val (.double (FP.dadd hi3 (FP.dmul lo3 (4611686018427387904 : UInt64)))), .second, .val (.double lo3), .second, .val (.double (FP.dmul lo3 (4611686018427387904 : UInt64))), .second, .val (.double (FP.dadd hi3 (FP.dmul lo3 (4611686018427387904 : UInt64)))), .second]) (rfl : _ = 143) ?_
                  refine own_f_dloadN X89.here hx (hb hby d_prog_8_4_143) rfl (rfl : _ = 144) ?_
                  exact retD X89 hx Bd.returns (hb hby d_prog_8_4_144) hr
                · show Q3 Z a1 _ ar kc q0 q1 q2 q3 _ h0 n0 _ T89.heap _
                  rw [e89]
                  exact ⟨congrArg (fun z => some (Value.double z)) (Eq.symm ((show own_value [q0, q1, q2, q3] = own_val [q2, q1, q0] q3 from rfl).trans ((own_val_f hhi3 hlo3 hz3).trans (own_vf_yy (Or.inr ⟨hps, hpp⟩) hte)))), N0, rfl⟩
              · obtain ⟨fs, hr, hrun, hended, hW, hsame⟩ := X89.leave (v := some (.double hi3)) (fun h => by rw [Bd.returns] at h; cases h) hlk
                refine ⟨_, _, ?_, hrun, hended, _, _, rfl, ?_, ⟨_, rfl⟩, hW, hsame.mono (by decide) (by decide)⟩
                · refine hA0 _ ?_
                  refine k92 _ ?_
                  refine own_f_ifYes X89.here hx (hb hby d_prog_8_4_137) ((if0 _ _).trans (feq (hte)).2) (by decide) (by decide : _ = 143) ?_
                  refine own_f_dloadN X89.here hx (hb hby d_prog_8_4_143) rfl (rfl : _ = 144) ?_
                  exact retD X89 hx Bd.returns (hb hby d_prog_8_4_144) hr
                · show Q3 Z a1 _ ar kc q0 q1 q2 q3 _ h0 n0 _ T89.heap _
                  rw [e89]
                  exact ⟨congrArg (fun z => some (Value.double z)) (Eq.symm ((show own_value [q0, q1, q2, q3] = own_val [q2, q1, q0] q3 from rfl).trans ((own_val_f hhi3 hlo3 hz3).trans (own_vf_yn (Or.inr ⟨hps, hpp⟩) hte)))), N0, rfl⟩
            · obtain ⟨fs, hr, hrun, hended, hW, hsame⟩ := X89.leave (v := some (.double hi3)) (fun h => by rw [Bd.returns] at h; cases h) hlk
              refine ⟨_, _, ?_, hrun, hended, _, _, rfl, ?_, ⟨_, rfl⟩, hW, hsame.mono (by decide) (by decide)⟩
              · refine hA0 _ ?_
                refine k91 _ ?_
                refine own_f_ifYes X89.here hx (hb hby d_prog_8_4_113) ((if0 _ _).trans (flt (hpp)).2.2.2) (by decide) (by decide : _ = 143) ?_
                refine own_f_dloadN X89.here hx (hb hby d_prog_8_4_143) rfl (rfl : _ = 144) ?_
                exact retD X89 hx Bd.returns (hb hby d_prog_8_4_144) hr
              · show Q3 Z a1 _ ar kc q0 q1 q2 q3 _ h0 n0 _ T89.heap _
                rw [e89]
                exact ⟨congrArg (fun z => some (Value.double z)) (Eq.symm ((show own_value [q0, q1, q2, q3] = own_val [q2, q1, q0] q3 from rfl).trans ((own_val_f hhi3 hlo3 hz3).trans (own_vf_no (fun q => q.elim (fun r => (fun r => hnp r.2) r) (fun r => hpp r.2)))))), N0, rfl⟩
          · obtain ⟨fs, hr, hrun, hended, hW, hsame⟩ := X84.leave (v := some (.double hi3)) (fun h => by rw [Bd.returns] at h; cases h) hlk
            refine ⟨_, _, ?_, hrun, hended, _, _, rfl, ?_, ⟨_, rfl⟩, hW, hsame.mono (by decide) (by decide)⟩
            · refine hA0 _ ?_
              refine k88 _ ?_
              refine own_f_ifYes X84.here hx (hb hby d_prog_8_4_100) ((if0 _ _).trans (flt (hps)).2.2.2) (by decide) (by decide : _ = 143) ?_
              refine own_f_dloadN X84.here hx (hb hby d_prog_8_4_143) rfl (rfl : _ = 144) ?_
              exact retD X84 hx Bd.returns (hb hby d_prog_8_4_144) hr
            · show Q3 Z a1 _ ar kc q0 q1 q2 q3 _ h0 n0 _ T84.heap _
              rw [e84]
              exact ⟨congrArg (fun z => some (Value.double z)) (Eq.symm ((show own_value [q0, q1, q2, q3] = own_val [q2, q1, q0] q3 from rfl).trans ((own_val_f hhi3 hlo3 hz3).trans (own_vf_no (fun q => q.elim (fun r => (fun r => hnp r.2) r) (fun r => hps r.1)))))), N0, rfl⟩
      · have k79 : ∀ t_, Steps p.tables e below (T48.setTop (mkF m 100 #[.val (.ref a1), .val (.int (2 : Int32)), .val (.double hi3), .second, .val (.double lo3), .second, .val (.double q3), .second, .val (.double q2), .second] [(.int (cmpValue (FP.dcmp lo3 (0 : UInt64)) .l))])) t_ → Steps p.tables e below A t_ := by
          intro t_ ht_
          refine k78 t_ ?_
          refine own_f_ifYes X48.here hx (hb hby d_prog_8_4_80) ((if0 _ _).trans (flt (hng)).2.1) (by decide) (by decide : _ = 96) ?_
          refine own_f_dload X48.here hx (hb hby d_prog_8_4_96) rfl (rfl : _ = 98) ?_
          refine own_f_dconst0 X48.here hx (hb hby d_prog_8_4_98) (rfl : _ = (0 : UInt64)) (rfl : _ = 99) ?_
          refine own_f_dcmp X48.here hx (hb hby d_prog_8_4_99) rfl (rfl : _ = 100) ?_
          exact ht_
        by_cases hps : (0 : Int32) < (cmpValue (FP.dcmp lo3 (0 : UInt64)) .l)
        · obtain ⟨T80, X80, e80, st80⟩ := getF X48 hx hZ hown (host := "") (Or.inl (hw _ (List.mem_of_getElem? (i := 10) rfl))) Via.refl e48 Fp (g := (mkF m 104 #[.val (.ref a1), .val (.int (2 : Int32)), .val (.double hi3), .second, .val (.double lo3), .second, .val (.double q3), .second, .val (.double q2), .second] [(.ref a1)])) rfl rfl (hb hby d_prog_8_4_104)
          obtain ⟨cl81, Ar81, -, Sz81, Ng81, Hs81, -⟩ := id Va
          have hin81 : ¬ ((1 : Int32) < 0 ∨ cl81.slots.size ≤ ((1 : Int32)).toNatClampNeg) := inb_of Sz81 ⟨by decide, by decide⟩
          have hat81 : cl81.slots[((1 : Int32)).toNatClampNeg]? = some (.double q1) := Hs81 _ (Nat.lt_of_not_le fun q => hin81 (Or.inr q))
          have k82 : ∀ t_, Steps p.tables e below (T80.setTop (mkF m 113 #[.val (.ref a1), .val (.int (2 : Int32)), .val (.double hi3), .second, .val (.double lo3), .second, .val (.double q3), .second, .val (.double q2), .second] [(.int (cmpValue (FP.dcmp q1 (0 : UInt64)) .l))])) t_ → Steps p.tables e below A t_ := by
            intro t_ ht_
            refine k79 t_ ?_
            refine own_f_ifNo X48.here hx (hb hby d_prog_8_4_100) ((if0 _ _).trans (tlt (hps)).2.2.2) (rfl : _ = 103) ?_
            refine own_f_aloadN X48.here hx (hb hby d_prog_8_4_103) rfl rfl (rfl : _ = 104) ?_
            refine st80 _ ?_
            show Steps p.tables e below (T80.setTop (mkF m 107 #[.val (.ref a1), .val (.int (2 : Int32)), .val (.double hi3), .second, .val (.double lo3), .second, .val (.double q3), .second, .val (.double q2), .second] [(.ref ar)])) t_
            refine own_f_iloadN X80.here hx (hb hby d_prog_8_4_107) rfl (rfl : _ = 108) ?_
            refine own_f_iconst X80.here hx (hb hby d_prog_8_4_108) (rfl : _ = (1 : Int32)) (rfl : _ = 109) ?_
            refine own_f_isub X80.here hx (hb hby d_prog_8_4_109) (rfl : _ = (1 : Int32)) (rfl : _ = 110) ?_
            refine X80.daload hx (j := (1 : Int32)) (v := (.double q1)) (by rw [e80]; exact Ar81.1) (State.isArrayOf_alike hZ.alike Ar81.2.1) Ar81.2.2 hin81 hat81 (g := (mkF m 110 #[.val (.ref a1), .val (.int (2 : Int32)), .val (.double hi3), .second, .val (.double lo3), .second, .val (.double q3), .second, .val (.double q2), .second] [(.int (1 : Int32)), (.ref ar)])) rfl rfl (hb hby d_prog_8_4_110) _ ?_
            show Steps p.tables e below (T80.setTop (mkF m 111 #[.val (.ref a1), .val (.int (2 : Int32)), .val (.double hi3), .second, .val (.double lo3), .second, .val (.double q3), .second, .val (.double q2), .second] [(.double q1)])) t_
            refine own_f_dconst0 X80.here hx (hb hby d_prog_8_4_111) (rfl : _ = (0 : UInt64)) (rfl : _ = 112) ?_
            refine own_f_dcmp X80.here hx (hb hby d_prog_8_4_112) rfl (rfl : _ = 113) ?_
            exact ht_
          by_cases hpp : (0 : Int32) < (cmpValue (FP.dcmp q1 (0 : UInt64)) .l)
          · have k83 : ∀ t_, Steps p.tables e below (T80.setTop (mkF m 137 #[.val (.ref a1), .val (.int (2 : Int32)), .val (.double hi3), .second, .val (.double lo3), .second, .val (.double (FP.dmul lo3 (4611686018427387904 : UInt64))), .second, .val (.double (FP.dadd hi3 (FP.dmul lo3 (4611686018427387904 : UInt64)))), .second] [(.int (cmpValue (FP.dcmp (FP.dmul lo3 (4611686018427387904 : UInt64)) (FP.dsub (FP.dadd hi3 (FP.dmul lo3 (4611686018427387904 : UInt64))) hi3)) .l))])) t_ → Steps p.tables e below A t_ := by
              intro t_ ht_
              refine k82 t_ ?_
              refine own_f_ifNo X80.here hx (hb hby d_prog_8_4_113) ((if0 _ _).trans (tlt (hpp)).2.2.2) (rfl : _ = 116) ?_
              refine own_f_dload X80.here hx (hb hby d_prog_8_4_116) rfl (rfl : _ = 118) ?_
              refine own_f_ldc2DoubleC X80 hx hown (mvT hZ (hw _ (List.mem_of_getElem? (i := 44) rfl))) (hb hby d_prog_8_4_118) (rfl : _ = 121) ?_
              refine own_f_dmul X80.here hx (hb hby d_prog_8_4_121) (fn1) rfl (rfl : _ = 122) ?_
              refine own_f_dstore X80.here hx (hb hby d_prog_8_4_122) (rfl : storeLocals _ _ _ = some #[.val (.ref a1), .val (.int (2 : Int32)), .val (.double hi3), .second, .val (.double lo3), .second, .val (.double (FP.dmul lo3 (4611686018427387904 : UInt64))), .second, .val (.double q2), .second]) (rfl : _ = 124) ?_
              refine own_f_dloadN X80.here hx (hb hby d_prog_8_4_124) rfl (rfl : _ = 125) ?_
              refine own_f_dload X80.here hx (hb hby d_prog_8_4_125) rfl (rfl : _ = 127) ?_
              refine own_f_dadd X80.here hx (hb hby d_prog_8_4_127) (fn2) rfl (rfl : _ = 128) ?_
              refine own_f_dstore X80.here hx (hb hby d_prog_8_4_128) (rfl : storeLocals _ _ _ = some #[.val (.ref a1), .val (.int (2 : Int32)), .val (.double hi3), .second, .val (.double lo3), .second, .val (.double (FP.dmul lo3 (4611686018427387904 : UInt64))), .second, .val (.double (FP.dadd hi3 (FP.dmul lo3 (4611686018427387904 : UInt64)))), .second]) (rfl : _ = 130) ?_
              refine own_f_dload X80.here hx (hb hby d_prog_8_4_130) rfl (rfl : _ = 132) ?_
              refine own_f_dload X80.here hx (hb hby d_prog_8_4_132) rfl (rfl : _ = 134) ?_
              refine own_f_dloadN X80.here hx (hb hby d_prog_8_4_134) rfl (rfl : _ = 135) ?_
              refine own_f_dsub X80.here hx (hb hby d_prog_8_4_135) (fn3) rfl (rfl : _ = 136) ?_
              refine own_f_dcmp X80.here hx (hb hby d_prog_8_4_136) rfl (rfl : _ = 137) ?_
              exact ht_
            by_cases hte : (cmpValue (FP.dcmp (FP.dmul lo3 (4611686018427387904 : UInt64)) (FP.dsub (FP.dadd hi3 (FP.dmul lo3 (4611686018427387904 : UInt64))) hi3)) .l) = (0 : Int32)
            · obtain ⟨fs, hr, hrun, hended, hW, hsame⟩ := X80.leave (v := some (.double (FP.dadd hi3 (FP.dmul lo3 (4611686018427387904 : UInt64))))) (fun h => by rw [Bd.returns] at h; cases h) hlk
              refine ⟨_, _, ?_, hrun, hended, _, _, rfl, ?_, ⟨_, rfl⟩, hW, hsame.mono (by decide) (by decide)⟩
              · refine hA0 _ ?_
                refine k83 _ ?_
                refine own_f_ifNo X80.here hx (hb hby d_prog_8_4_137) ((if0 _ _).trans (teq (hte)).2) (rfl : _ = 140) ?_
                refine own_f_dload X80.here hx (hb hby d_prog_8_4_140) rfl (rfl : _ = 142) ?_
                refine own_f_dstoreN X80.here hx (hb hby d_prog_8_4_142) (rfl : storeLocals _ _ _ = some #[.val (.ref a1), .val (.int (2 : Int32)), .val (.double (FP.dadd hi3 (FP.dmul lo3 (4611686018427387904 : UInt64)))), .second, .val (.double lo3), .second, .val (.double (FP.dmul lo3 (4611686018427387904 : UInt64))), .second, .val (.double (FP.dadd hi3 (FP.dmul lo3 (4611686018427387904 : UInt64)))), .second]) (rfl : _ = 143) ?_
                refine own_f_dloadN X80.here hx (hb hby d_prog_8_4_143) rfl (rfl : _ = 144) ?_
                exact retD X80 hx Bd.returns (hb hby d_prog_8_4_144) hr
              · show Q3 Z a1 _ ar kc q0 q1 q2 q3 _ h0 n0 _ T80.heap _
                rw [e80]
                exact ⟨congrArg (fun z => some (Value.double z)) (Eq.symm ((show own_value [q0, q1, q2, q3] = own_val [q2, q1, q0] q3 from rfl).trans ((own_val_f hhi3 hlo3 hz3).trans (own_vf_yy (Or.inr ⟨hps, hpp⟩) hte)))), N0, rfl⟩
            · obtain ⟨fs, hr, hrun, hended, hW, hsame⟩ := X80.leave (v := some (.double hi3)) (fun h => by rw [Bd.returns] at h; cases h) hlk
              refine ⟨_, _, ?_, hrun, hended, _, _, rfl, ?_, ⟨_, rfl⟩, hW, hsame.mono (by decide) (by decide)⟩
              · refine hA0 _ ?_
                refine k83 _ ?_
                refine own_f_ifYes X80.here hx (hb hby d_prog_8_4_137) ((if0 _ _).trans (feq (hte)).2) (by decide) (by decide : _ = 143) ?_
                refine own_f_dloadN X80.here hx (hb hby d_prog_8_4_143) rfl (rfl : _ = 144) ?_
                exact retD X80 hx Bd.returns (hb hby d_prog_8_4_144) hr
              · show Q3 Z a1 _ ar kc q0 q1 q2 q3 _ h0 n0 _ T80.heap _
                rw [e80]
                exact ⟨congrArg (fun z => some (Value.double z)) (Eq.symm ((show own_value [q0, q1, q2, q3] = own_val [q2, q1, q0] q3 from rfl).trans ((own_val_f hhi3 hlo3 hz3).trans (own_vf_yn (Or.inr ⟨hps, hpp⟩) hte)))), N0, rfl⟩
          · obtain ⟨fs, hr, hrun, hended, hW, hsame⟩ := X80.leave (v := some (.double hi3)) (fun h => by rw [Bd.returns] at h; cases h) hlk
            refine ⟨_, _, ?_, hrun, hended, _, _, rfl, ?_, ⟨_, rfl⟩, hW, hsame.mono (by decide) (by decide)⟩
            · refine hA0 _ ?_
              refine k82 _ ?_
              refine own_f_ifYes X80.here hx (hb hby d_prog_8_4_113) ((if0 _ _).trans (flt (hpp)).2.2.2) (by decide) (by decide : _ = 143) ?_
              refine own_f_dloadN X80.here hx (hb hby d_prog_8_4_143) rfl (rfl : _ = 144) ?_
              exact retD X80 hx Bd.returns (hb hby d_prog_8_4_144) hr
            · show Q3 Z a1 _ ar kc q0 q1 q2 q3 _ h0 n0 _ T80.heap _
              rw [e80]
              exact ⟨congrArg (fun z => some (Value.double z)) (Eq.symm ((show own_value [q0, q1, q2, q3] = own_val [q2, q1, q0] q3 from rfl).trans ((own_val_f hhi3 hlo3 hz3).trans (own_vf_no (fun q => q.elim (fun r => (fun r => hng r.1) r) (fun r => hpp r.2)))))), N0, rfl⟩
        · obtain ⟨fs, hr, hrun, hended, hW, hsame⟩ := X48.leave (v := some (.double hi3)) (fun h => by rw [Bd.returns] at h; cases h) hlk
          refine ⟨_, _, ?_, hrun, hended, _, _, rfl, ?_, ⟨_, rfl⟩, hW, hsame.mono (by decide) (by decide)⟩
          · refine hA0 _ ?_
            refine k79 _ ?_
            refine own_f_ifYes X48.here hx (hb hby d_prog_8_4_100) ((if0 _ _).trans (flt (hps)).2.2.2) (by decide) (by decide : _ = 143) ?_
            refine own_f_dloadN X48.here hx (hb hby d_prog_8_4_143) rfl (rfl : _ = 144) ?_
            exact retD X48 hx Bd.returns (hb hby d_prog_8_4_144) hr
          · show Q3 Z a1 _ ar kc q0 q1 q2 q3 _ h0 n0 _ T48.heap _
            rw [e48]
            exact ⟨congrArg (fun z => some (Value.double z)) (Eq.symm ((show own_value [q0, q1, q2, q3] = own_val [q2, q1, q0] q3 from rfl).trans ((own_val_f hhi3 hlo3 hz3).trans (own_vf_no (fun q => q.elim (fun r => (fun r => hng r.1) r) (fun r => hps r.1)))))), N0, rfl⟩
theorem ef_4 (m : MethodId) (x0 : Int64) : entryFrame m #[(.long x0)] 4 = mkF m 0 #[.val (.long x0), .second, .unset, .unset] [] := by first | (simp [entryFrame, mkF, argsToLocals, Value.category]; done) | rfl
def Q4 (Z : State) (x1 : Int64) (h0 : Heap) (n0 : Nat) (v : Option Value) (h : Heap) (L : List Loc) : Prop := ∃ (r : Int64), v = some (.long r) ∧ Fr n0 L ∧ h = h0 ∧ own_Mid r
set_option maxRecDepth 65536 in
set_option maxHeartbeats 40000000 in
theorem rm4 (l : Launch) (Z : State) (a0 : Array Value) (hw : ∀ d ∈ tables_1, d.before a0 Z = true) (ws : List Jvm.Cond) (x1 : Int64) (h0 : Heap) (n0 : Nat) (Z0 : n0 ≤ h0.size) :
    MetFree l (⟨"com/example/prose_to_query/prosetoquery/retrieval/ExactSumValuePinLaw", "mid", "(J)J"⟩ : MethodName) (head1 (Jvm.Cond.code (⟨"com/example/prose_to_query/prosetoquery/retrieval/ExactSumValuePinLaw", "mid", "(J)J"⟩ : MethodName) method_3_code 4 (some .long) :: ws) ({ frames := 0, cells := 0, slots := 0, locals := 0 } : Room)) (fun a U => a = #[(.long x1)] ∧ Z.Warmed39 U.vm ∧ U.heap = h0) (fun _ _ _ _ _ => True) (fun _ U o U' => ∃ v L, o = .returned v ∧ Q4 Z x1 h0 n0 v U'.heap L ∧ FrameEnd U o U' L ({ frames := 0, cells := 0, slots := 0, locals := 0 } : Room).cells ({ frames := 0, cells := 0, slots := 0, locals := 0 } : Room).slots) := by
  refine MetFree.of_bodySF (plainFor_of_name pn_1) hisR ?_
  intro p e s m args below meth c s₁ Bd hml0 hP hK
  obtain ⟨rfl, hZ, hh⟩ := hP
  have hlk : meth.locks = false := BodyLoose.notSynchronized Bd
  have hx := Bd.exec
  have hby := Bd.bytes
  have hml : c.maxLocals = 4 := hml0
  have hown : s.vm.findClass "com/example/prose_to_query/prosetoquery/retrieval/ExactSumValuePinLaw" = some m.cls := findClass_of_methodNamed Bd.named
  have hnm := (name_of_methodNamed Bd.named Bd.method).1
  have X0 : Stand p l e ({ frames := 0, cells := 0, slots := 0, locals := 0 } : Room) s m #[(.long x1)] below meth c s₁ [] 0 0 := Stand.of_body Bd
  have e0 : s₁.heap = h0 := by rw [← hh, Bd.state]; rfl
  have N0 := Fr.nil n0
  obtain ⟨A, hA⟩ : ∃ A, A = s₁.setTop (mkF m 0 #[.val (.long x1), .second, .unset, .unset] []) := ⟨_, rfl⟩
  have hA0 : ∀ t, Steps p.tables e below A t → Steps p.tables e below (s₁.setTop (entryFrame m #[(.long x1)] 4)) t := fun t k => castTop (ef_4 m x1) (hA ▸ k)
  have k0 : ∀ t, Steps p.tables e below (s₁.setTop (mkF m 0 #[.val (.long x1), .second, .unset, .unset] [])) t → Steps p.tables e below A t := fun t k => hA ▸ k
  obtain ⟨fs, hr, hrun, hended, hW, hsame⟩ := X0.leave (v := some (.long (((x1.toInt32).toInt64) <<< (((((x1.toUInt64 >>> ((32 : Int32) &&& 0x3f).toInt64.toUInt64).toInt64) - (((x1.toUInt64 >>> ((32 : Int32) &&& 0x3f).toInt64.toUInt64).toInt64) / (26 : Int64)) * (26 : Int64)).toInt32) &&& 0x3f).toInt64))) (fun h => by rw [Bd.returns] at h; cases h) hlk
  refine ⟨_, _, ?_, hrun, hended, _, _, rfl, ?_, ⟨_, rfl⟩, hW, hsame.mono (by decide) (by decide)⟩
  · refine hA0 _ ?_
    refine k0 _ ?_
    refine own_f_lloadN X0.here hx (hb hby d_method_3_0) rfl (rfl : _ = 1) ?_
    refine own_f_l2i X0.here hx (hb hby d_method_3_1) (rfl : _ = 2) ?_
    refine own_f_istoreN X0.here hx (hb hby d_method_3_2) (rfl : storeLocals _ _ _ = some #[.val (.long x1), .second, .val (.int (x1.toInt32)), .unset]) (rfl : _ = 3) ?_
    refine own_f_lloadN X0.here hx (hb hby d_method_3_3) rfl (rfl : _ = 4) ?_
    refine own_f_bipush X0.here hx (hb hby d_method_3_4) (rfl : _ = (32 : Int32)) (rfl : _ = 6) ?_
    refine own_f_lushr X0.here hx (hb hby d_method_3_6) (rfl : _ = 7) ?_
    refine own_f_ldc2Long X0 hx hown (mvT hZ (hw _ (List.mem_of_getElem? (i := 28) rfl))) (hb hby d_method_3_7) (rfl : _ = 10) ?_
    refine own_f_lrem X0.here hx (hb hby d_method_3_10) (by decide) (rfl : _ = 11) ?_
    refine own_f_l2i X0.here hx (hb hby d_method_3_11) (rfl : _ = 12) ?_
    refine own_f_istoreN X0.here hx (hb hby d_method_3_12) (rfl : storeLocals _ _ _ = some #[.val (.long x1), .second, .val (.int (x1.toInt32)), .val (.int ((((x1.toUInt64 >>> ((32 : Int32) &&& 0x3f).toInt64.toUInt64).toInt64) - (((x1.toUInt64 >>> ((32 : Int32) &&& 0x3f).toInt64.toUInt64).toInt64) / (26 : Int64)) * (26 : Int64)).toInt32))]) (rfl : _ = 13) ?_
    refine own_f_iloadN X0.here hx (hb hby d_method_3_13) rfl (rfl : _ = 14) ?_
    refine own_f_i2l X0.here hx (hb hby d_method_3_14) (rfl : _ = 15) ?_
    refine own_f_iloadN X0.here hx (hb hby d_method_3_15) rfl (rfl : _ = 16) ?_
    refine own_f_lshl X0.here hx (hb hby d_method_3_16) (rfl : _ = 17) ?_
    exact X0.lreturnOut hx Bd.returns (hb hby d_method_3_17) hr
  · show Q4 Z x1 h0 n0 _ s₁.heap _
    rw [e0]
    exact ⟨_, rfl, N0, rfl, own_mid⟩
theorem ef_5 (m : MethodId) (x0 : Int64) : entryFrame m #[(.long x0)] 4 = mkF m 0 #[.val (.long x0), .second, .unset, .unset] [] := by first | (simp [entryFrame, mkF, argsToLocals, Value.category]; done) | rfl
def Q5 (Z : State) (x1 : Int64) (h0 : Heap) (n0 : Nat) (v : Option Value) (h : Heap) (L : List Loc) : Prop := ∃ (r : Int64), v = some (.long r) ∧ Fr n0 L ∧ h = h0 ∧ own_Big r
set_option maxRecDepth 65536 in
set_option maxHeartbeats 40000000 in
theorem rm5 (l : Launch) (Z : State) (a0 : Array Value) (hw : ∀ d ∈ tables_1, d.before a0 Z = true) (ws : List Jvm.Cond) (x1 : Int64) (h0 : Heap) (n0 : Nat) (Z0 : n0 ≤ h0.size) :
    MetFree l (⟨"com/example/prose_to_query/prosetoquery/retrieval/ExactSumValuePinLaw", "big", "(J)J"⟩ : MethodName) (head1 (Jvm.Cond.code (⟨"com/example/prose_to_query/prosetoquery/retrieval/ExactSumValuePinLaw", "big", "(J)J"⟩ : MethodName) method_4_code 4 (some .long) :: ws) ({ frames := 0, cells := 0, slots := 0, locals := 0 } : Room)) (fun a U => a = #[(.long x1)] ∧ Z.Warmed39 U.vm ∧ U.heap = h0) (fun _ _ _ _ _ => True) (fun _ U o U' => ∃ v L, o = .returned v ∧ Q5 Z x1 h0 n0 v U'.heap L ∧ FrameEnd U o U' L ({ frames := 0, cells := 0, slots := 0, locals := 0 } : Room).cells ({ frames := 0, cells := 0, slots := 0, locals := 0 } : Room).slots) := by
  refine MetFree.of_bodySF (plainFor_of_name pn_1) hisR ?_
  intro p e s m args below meth c s₁ Bd hml0 hP hK
  obtain ⟨rfl, hZ, hh⟩ := hP
  have hlk : meth.locks = false := BodyLoose.notSynchronized Bd
  have hx := Bd.exec
  have hby := Bd.bytes
  have hml : c.maxLocals = 4 := hml0
  have hown : s.vm.findClass "com/example/prose_to_query/prosetoquery/retrieval/ExactSumValuePinLaw" = some m.cls := findClass_of_methodNamed Bd.named
  have hnm := (name_of_methodNamed Bd.named Bd.method).1
  have X0 : Stand p l e ({ frames := 0, cells := 0, slots := 0, locals := 0 } : Room) s m #[(.long x1)] below meth c s₁ [] 0 0 := Stand.of_body Bd
  have e0 : s₁.heap = h0 := by rw [← hh, Bd.state]; rfl
  have N0 := Fr.nil n0
  obtain ⟨A, hA⟩ : ∃ A, A = s₁.setTop (mkF m 0 #[.val (.long x1), .second, .unset, .unset] []) := ⟨_, rfl⟩
  have hA0 : ∀ t, Steps p.tables e below A t → Steps p.tables e below (s₁.setTop (entryFrame m #[(.long x1)] 4)) t := fun t k => castTop (ef_5 m x1) (hA ▸ k)
  have k0 : ∀ t, Steps p.tables e below (s₁.setTop (mkF m 0 #[.val (.long x1), .second, .unset, .unset] [])) t → Steps p.tables e below A t := fun t k => hA ▸ k
  have k1 : ∀ t_, Steps p.tables e below (s₁.setTop (mkF m 16 #[.val (.long x1), .second, .val (.long (((4503599627370496 : Int64) ||| (x1 &&& (4503599627370495 : Int64))) <<< ((6 : Int32) &&& 0x3f).toInt64)), .second] [(.int (lcmpW x1 (0 : Int64)))])) t_ → Steps p.tables e below A t_ := by
    intro t_ ht_
    refine k0 t_ ?_
    refine own_f_ldc2Long X0 hx hown (mvT hZ (hw _ (List.mem_of_getElem? (i := 23) rfl))) (hb hby d_method_4_0) (rfl : _ = 3) ?_
    refine own_f_lloadN X0.here hx (hb hby d_method_4_3) rfl (rfl : _ = 4) ?_
    refine own_f_ldc2Long X0 hx hown (mvT hZ (hw _ (List.mem_of_getElem? (i := 24) rfl))) (hb hby d_method_4_4) (rfl : _ = 7) ?_
    refine own_f_land X0.here hx (hb hby d_method_4_7) rfl (rfl : _ = 8) ?_
    refine own_f_lor X0.here hx (hb hby d_method_4_8) rfl (rfl : _ = 9) ?_
    refine own_f_bipush X0.here hx (hb hby d_method_4_9) (rfl : _ = (6 : Int32)) (rfl : _ = 11) ?_
    refine own_f_lshl X0.here hx (hb hby d_method_4_11) (rfl : _ = 12) ?_
    refine own_f_lstoreN X0.here hx (hb hby d_method_4_12) (rfl : storeLocals _ _ _ = some #[.val (.long x1), .second, .val (.long (((4503599627370496 : Int64) ||| (x1 &&& (4503599627370495 : Int64))) <<< ((6 : Int32) &&& 0x3f).toInt64)), .second]) (rfl : _ = 13) ?_
    refine own_f_lloadN X0.here hx (hb hby d_method_4_13) rfl (rfl : _ = 14) ?_
    refine own_f_lconst X0.here hx (hb hby d_method_4_14) (rfl : _ = (0 : Int64)) (rfl : _ = 15) ?_
    refine own_f_lcmp X0.here hx (hb hby d_method_4_15) (rfl : _ = 16) ?_
    exact ht_
  by_cases hx0 : (lcmpW x1 (0 : Int64)) < (0 : Int32)
  · obtain ⟨fs, hr, hrun, hended, hW, hsame⟩ := X0.leave (v := some (.long (-(((4503599627370496 : Int64) ||| (x1 &&& (4503599627370495 : Int64))) <<< ((6 : Int32) &&& 0x3f).toInt64)))) (fun h => by rw [Bd.returns] at h; cases h) hlk
    refine ⟨_, _, ?_, hrun, hended, _, _, rfl, ?_, ⟨_, rfl⟩, hW, hsame.mono (by decide) (by decide)⟩
    · refine hA0 _ ?_
      refine k1 _ ?_
      refine own_f_ifNo X0.here hx (hb hby d_method_4_16) ((if0 _ _).trans (tlt (hx0)).2.1) (rfl : _ = 19) ?_
      refine own_f_lloadN X0.here hx (hb hby d_method_4_19) rfl (rfl : _ = 20) ?_
      refine own_f_lneg X0.here hx (hb hby d_method_4_20) (rfl : _ = 21) ?_
      refine own_f_goto X0.here hx (hb hby d_method_4_21) (by decide) (by decide : _ = 25) ?_
      exact X0.lreturnOut hx Bd.returns (hb hby d_method_4_25) hr
    · show Q5 Z x1 h0 n0 _ s₁.heap _
      rw [e0]
      exact ⟨_, rfl, N0, rfl, own_bigN⟩
  · obtain ⟨fs, hr, hrun, hended, hW, hsame⟩ := X0.leave (v := some (.long (((4503599627370496 : Int64) ||| (x1 &&& (4503599627370495 : Int64))) <<< ((6 : Int32) &&& 0x3f).toInt64))) (fun h => by rw [Bd.returns] at h; cases h) hlk
    refine ⟨_, _, ?_, hrun, hended, _, _, rfl, ?_, ⟨_, rfl⟩, hW, hsame.mono (by decide) (by decide)⟩
    · refine hA0 _ ?_
      refine k1 _ ?_
      refine own_f_ifYes X0.here hx (hb hby d_method_4_16) ((if0 _ _).trans (flt (hx0)).2.1) (by decide) (by decide : _ = 24) ?_
      refine own_f_lloadN X0.here hx (hb hby d_method_4_24) rfl (rfl : _ = 25) ?_
      exact X0.lreturnOut hx Bd.returns (hb hby d_method_4_25) hr
    · show Q5 Z x1 h0 n0 _ s₁.heap _
      rw [e0]
      exact ⟨_, rfl, N0, rfl, own_bigP⟩
theorem ef_6 (m : MethodId) (x0 : Addr) (x1 : Int32) (x2 : Int32) : entryFrame m #[(.ref x0), (.int x1), (.int x2)] 5 = mkF m 0 #[.val (.ref x0), .val (.int x1), .val (.int x2), .unset, .unset] [] := by first | (simp [entryFrame, mkF, argsToLocals, Value.category]; done) | rfl
def Q6 (Z : State) (ar : Addr) (p2 : Int32) (p3 : Int32) (kc : ClassId) (q0 : UInt64) (q1 : UInt64) (q2 : UInt64) (q3 : UInt64) (h0 : Heap) (n0 : Nat) (v : Option Value) (h : Heap) (L : List Loc) : Prop := ∃ (r0 : UInt64) (r1 : UInt64) (r2 : UInt64) (r3 : UInt64), v = none ∧ Fr n0 L ∧ Keep h0 h [ar] ∧ Arv Z h ar kc .double (4 : Int32) [.double r0, .double r1, .double r2, .double r3] (.double (0 : UInt64)) ∧ own_Pm q0 q1 q2 q3 r0 r1 r2 r3
set_option maxRecDepth 65536 in
set_option maxHeartbeats 40000000 in
theorem rm6 (l : Launch) (Z : State) (a0 : Array Value) (hw : ∀ d ∈ tables_1, d.before a0 Z = true) (ws : List Jvm.Cond) (ar : Addr) (p2 : Int32) (p3 : Int32) (kc : ClassId) (q0 : UInt64) (q1 : UInt64) (q2 : UInt64) (q3 : UInt64) (h0 : Heap) (n0 : Nat) (Z0 : n0 ≤ h0.size) (Va : Arv Z h0 ar kc .double (4 : Int32) [.double q0, .double q1, .double q2, .double q3] (.double (0 : UInt64))) (g_ar : n0 ≤ ar) (hi : p2 = (0 : Int32) ∨ p2 = (1 : Int32) ∨ p2 = (2 : Int32) ∨ p2 = (3 : Int32)) (hj : p3 = (0 : Int32) ∨ p3 = (1 : Int32) ∨ p3 = (2 : Int32) ∨ p3 = (3 : Int32)) :
    MetFree l (⟨"com/example/prose_to_query/prosetoquery/retrieval/ExactSumValuePinLaw", "swap", "([DII)V"⟩ : MethodName) (head1 (Jvm.Cond.code (⟨"com/example/prose_to_query/prosetoquery/retrieval/ExactSumValuePinLaw", "swap", "([DII)V"⟩ : MethodName) method_5_code 5 none :: ws) ({ frames := 0, cells := 0, slots := 0, locals := 0 } : Room)) (fun a U => a = #[(.ref ar), (.int p2), (.int p3)] ∧ Z.Warmed39 U.vm ∧ U.heap = h0) (fun _ _ _ _ _ => True) (fun _ U o U' => ∃ v L, o = .returned v ∧ Q6 Z ar p2 p3 kc q0 q1 q2 q3 h0 n0 v U'.heap L ∧ FrameEnd U o U' L ({ frames := 0, cells := 0, slots := 0, locals := 0 } : Room).cells ({ frames := 0, cells := 0, slots := 0, locals := 0 } : Room).slots) := by
  refine MetFree.of_bodySF (plainFor_of_name pn_1) hisR ?_
  intro p e s m args below meth c s₁ Bd hml0 hP hK
  obtain ⟨rfl, hZ, hh⟩ := hP
  have hlk : meth.locks = false := BodyLoose.notSynchronized Bd
  have hx := Bd.exec
  have hby := Bd.bytes
  have hml : c.maxLocals = 5 := hml0
  have hown : s.vm.findClass "com/example/prose_to_query/prosetoquery/retrieval/ExactSumValuePinLaw" = some m.cls := findClass_of_methodNamed Bd.named
  have hnm := (name_of_methodNamed Bd.named Bd.method).1
  have X0 : Stand p l e ({ frames := 0, cells := 0, slots := 0, locals := 0 } : Room) s m #[(.ref ar), (.int p2), (.int p3)] below meth c s₁ [] 0 0 := Stand.of_body Bd
  have e0 : s₁.heap = h0 := by rw [← hh, Bd.state]; rfl
  have N0 := Fr.nil n0
  obtain ⟨A, hA⟩ : ∃ A, A = s₁.setTop (mkF m 0 #[.val (.ref ar), .val (.int p2), .val (.int p3), .unset, .unset] []) := ⟨_, rfl⟩
  have hA0 : ∀ t, Steps p.tables e below A t → Steps p.tables e below (s₁.setTop (entryFrame m #[(.ref ar), (.int p2), (.int p3)] 5)) t := fun t k => castTop (ef_6 m ar p2 p3) (hA ▸ k)
  have k0 : ∀ t, Steps p.tables e below (s₁.setTop (mkF m 0 #[.val (.ref ar), .val (.int p2), .val (.int p3), .unset, .unset] [])) t → Steps p.tables e below A t := fun t k => hA ▸ k
  have KK : Keep h0 h0 [ar] := Keep.refl h0 [ar]
  rcases hi with rfl | rfl | rfl | rfl
  · rcases hj with rfl | rfl | rfl | rfl
    · obtain ⟨cl11, Ar11, -, Sz11, Ng11, Hs11, -⟩ := id Va
      have hin11 : ¬ ((0 : Int32) < 0 ∨ cl11.slots.size ≤ ((0 : Int32)).toNatClampNeg) := inb_of Sz11 ⟨by decide, by decide⟩
      have hat11 : cl11.slots[((0 : Int32)).toNatClampNeg]? = some (.double q0) := Hs11 _ (Nat.lt_of_not_le fun q => hin11 (Or.inr q))
      obtain ⟨cl12, Ar12, -, Sz12, Ng12, Hs12, -⟩ := id Va
      have hin12 : ¬ ((0 : Int32) < 0 ∨ cl12.slots.size ≤ ((0 : Int32)).toNatClampNeg) := inb_of Sz12 ⟨by decide, by decide⟩
      have hat12 : cl12.slots[((0 : Int32)).toNatClampNeg]? = some (.double q0) := Hs12 _ (Nat.lt_of_not_le fun q => hin12 (Or.inr q))
      obtain ⟨cl13, Ar13, q13, Sz13, Ng13, Hs13, Gs13⟩ := Va
      have hin13 : ¬ ((0 : Int32) < 0 ∨ cl13.slots.size ≤ ((0 : Int32)).toNatClampNeg) := inb_of Sz13 ⟨by decide, by decide⟩
      obtain ⟨T14, h14, X14, e14, W14, st14⟩ := stD X0 hx hZ e0 Ar13 (j := (0 : Int32)) hin13 (g := (mkF m 9 #[.val (.ref ar), .val (.int (0 : Int32)), .val (.int (0 : Int32)), .val (.double q0), .second] [(.double q0), (.int (0 : Int32)), (.ref ar)])) rfl rfl (hb hby d_method_5_9)
      have Zs14 := Nat.le_trans Z0 (Keep.of_wr W14).1
      replace KK := KK.wr W14 (Or.inl (by simp))
      have Va : Arv Z h14 ar kc .double (4 : Int32) [(.double q0), (.double q1), (.double q2), (.double q3)] (.double (0 : UInt64)) := Arv.set Ar13 q13 Sz13 Ng13 Hs13 Gs13 rfl W14 0 rfl (Nat.le_of_ble_eq_true rfl)
      have N14 := Fr.snoc X14 N0 g_ar
      obtain ⟨cl15, Ar15, q15, Sz15, Ng15, Hs15, Gs15⟩ := Va
      have hin15 : ¬ ((0 : Int32) < 0 ∨ cl15.slots.size ≤ ((0 : Int32)).toNatClampNeg) := inb_of Sz15 ⟨by decide, by decide⟩
      obtain ⟨T16, h16, X16, e16, W16, st16⟩ := stD X14 hx hZ e14 Ar15 (j := (0 : Int32)) hin15 (g := (mkF m 13 #[.val (.ref ar), .val (.int (0 : Int32)), .val (.int (0 : Int32)), .val (.double q0), .second] [(.double q0), (.int (0 : Int32)), (.ref ar)])) rfl rfl (hb hby d_method_5_13)
      have Zs16 := Nat.le_trans Zs14 (Keep.of_wr W16).1
      replace KK := KK.wr W16 (Or.inl (by simp))
      have Va : Arv Z h16 ar kc .double (4 : Int32) [(.double q0), (.double q1), (.double q2), (.double q3)] (.double (0 : UInt64)) := Arv.set Ar15 q15 Sz15 Ng15 Hs15 Gs15 rfl W16 0 rfl (Nat.le_of_ble_eq_true rfl)
      have N16 := Fr.snoc X16 N14 g_ar
      obtain ⟨fs, hr, hrun, hended, hW, hsame⟩ := X16.leave (v := none) (fun _ => rfl) hlk
      refine ⟨_, _, ?_, hrun, hended, _, _, rfl, ?_, ⟨_, rfl⟩, hW, hsame.mono (by decide) (by decide)⟩
      · refine hA0 _ ?_
        refine k0 _ ?_
        refine own_f_aloadN X0.here hx (hb hby d_method_5_0) rfl rfl (rfl : _ = 1) ?_
        refine own_f_iloadN X0.here hx (hb hby d_method_5_1) rfl (rfl : _ = 2) ?_
        refine X0.daload hx (j := (0 : Int32)) (v := (.double q0)) (by rw [e0]; exact Ar11.1) (State.isArrayOf_alike hZ.alike Ar11.2.1) Ar11.2.2 hin11 hat11 (g := (mkF m 2 #[.val (.ref ar), .val (.int (0 : Int32)), .val (.int (0 : Int32)), .unset, .unset] [(.int (0 : Int32)), (.ref ar)])) rfl rfl (hb hby d_method_5_2) _ ?_
        show Steps p.tables e below (s₁.setTop (mkF m 3 #[.val (.ref ar), .val (.int (0 : Int32)), .val (.int (0 : Int32)), .unset, .unset] [(.double q0)])) _
        refine own_f_dstoreN X0.here hx (hb hby d_method_5_3) (rfl : storeLocals _ _ _ = some #[.val (.ref ar), .val (.int (0 : Int32)), .val (.int (0 : Int32)), .val (.double q0), .second]) (rfl : _ = 4) ?_
        refine own_f_aloadN X0.here hx (hb hby d_method_5_4) rfl rfl (rfl : _ = 5) ?_
        refine own_f_iloadN X0.here hx (hb hby d_method_5_5) rfl (rfl : _ = 6) ?_
        refine own_f_aloadN X0.here hx (hb hby d_method_5_6) rfl rfl (rfl : _ = 7) ?_
        refine own_f_iloadN X0.here hx (hb hby d_method_5_7) rfl (rfl : _ = 8) ?_
        refine X0.daload hx (j := (0 : Int32)) (v := (.double q0)) (by rw [e0]; exact Ar12.1) (State.isArrayOf_alike hZ.alike Ar12.2.1) Ar12.2.2 hin12 hat12 (g := (mkF m 8 #[.val (.ref ar), .val (.int (0 : Int32)), .val (.int (0 : Int32)), .val (.double q0), .second] [(.int (0 : Int32)), (.ref ar), (.int (0 : Int32)), (.ref ar)])) rfl rfl (hb hby d_method_5_8) _ ?_
        show Steps p.tables e below (s₁.setTop (mkF m 9 #[.val (.ref ar), .val (.int (0 : Int32)), .val (.int (0 : Int32)), .val (.double q0), .second] [(.double q0), (.int (0 : Int32)), (.ref ar)])) _
        refine st14 _ ?_
        show Steps p.tables e below (T14.setTop (mkF m 10 #[.val (.ref ar), .val (.int (0 : Int32)), .val (.int (0 : Int32)), .val (.double q0), .second] [])) _
        refine own_f_aloadN X14.here hx (hb hby d_method_5_10) rfl rfl (rfl : _ = 11) ?_
        refine own_f_iloadN X14.here hx (hb hby d_method_5_11) rfl (rfl : _ = 12) ?_
        refine own_f_dloadN X14.here hx (hb hby d_method_5_12) rfl (rfl : _ = 13) ?_
        refine st16 _ ?_
        show Steps p.tables e below (T16.setTop (mkF m 14 #[.val (.ref ar), .val (.int (0 : Int32)), .val (.int (0 : Int32)), .val (.double q0), .second] [])) _
        exact X16.returnOut hx Bd.returns (hb hby d_method_5_14) hr
      · show Q6 Z ar _ _ kc q0 q1 q2 q3 h0 n0 _ T16.heap _
        rw [e16]
        exact ⟨q0, q1, q2, q3, rfl, N16, KK, Va, own_pmr⟩
    · obtain ⟨cl17, Ar17, -, Sz17, Ng17, Hs17, -⟩ := id Va
      have hin17 : ¬ ((0 : Int32) < 0 ∨ cl17.slots.size ≤ ((0 : Int32)).toNatClampNeg) := inb_of Sz17 ⟨by decide, by decide⟩
      have hat17 : cl17.slots[((0 : Int32)).toNatClampNeg]? = some (.double q0) := Hs17 _ (Nat.lt_of_not_le fun q => hin17 (Or.inr q))
      obtain ⟨cl18, Ar18, -, Sz18, Ng18, Hs18, -⟩ := id Va
      have hin18 : ¬ ((1 : Int32) < 0 ∨ cl18.slots.size ≤ ((1 : Int32)).toNatClampNeg) := inb_of Sz18 ⟨by decide, by decide⟩
      have hat18 : cl18.slots[((1 : Int32)).toNatClampNeg]? = some (.double q1) := Hs18 _ (Nat.lt_of_not_le fun q => hin18 (Or.inr q))
      obtain ⟨cl19, Ar19, q19, Sz19, Ng19, Hs19, Gs19⟩ := Va
      have hin19 : ¬ ((0 : Int32) < 0 ∨ cl19.slots.size ≤ ((0 : Int32)).toNatClampNeg) := inb_of Sz19 ⟨by decide, by decide⟩
      obtain ⟨T20, h20, X20, e20, W20, st20⟩ := stD X0 hx hZ e0 Ar19 (j := (0 : Int32)) hin19 (g := (mkF m 9 #[.val (.ref ar), .val (.int (0 : Int32)), .val (.int (1 : Int32)), .val (.double q0), .second] [(.double q1), (.int (0 : Int32)), (.ref ar)])) rfl rfl (hb hby d_method_5_9)
      have Zs20 := Nat.le_trans Z0 (Keep.of_wr W20).1
      replace KK := KK.wr W20 (Or.inl (by simp))
      have Va : Arv Z h20 ar kc .double (4 : Int32) [(.double q1), (.double q1), (.double q2), (.double q3)] (.double (0 : UInt64)) := Arv.set Ar19 q19 Sz19 Ng19 Hs19 Gs19 rfl W20 0 rfl (Nat.le_of_ble_eq_true rfl)
      have N20 := Fr.snoc X20 N0 g_ar
      obtain ⟨cl21, Ar21, q21, Sz21, Ng21, Hs21, Gs21⟩ := Va
      have hin21 : ¬ ((1 : Int32) < 0 ∨ cl21.slots.size ≤ ((1 : Int32)).toNatClampNeg) := inb_of Sz21 ⟨by decide, by decide⟩
      obtain ⟨T22, h22, X22, e22, W22, st22⟩ := stD X20 hx hZ e20 Ar21 (j := (1 : Int32)) hin21 (g := (mkF m 13 #[.val (.ref ar), .val (.int (0 : Int32)), .val (.int (1 : Int32)), .val (.double q0), .second] [(.double q0), (.int (1 : Int32)), (.ref ar)])) rfl rfl (hb hby d_method_5_13)
      have Zs22 := Nat.le_trans Zs20 (Keep.of_wr W22).1
      replace KK := KK.wr W22 (Or.inl (by simp))
      have Va : Arv Z h22 ar kc .double (4 : Int32) [(.double q1), (.double q0), (.double q2), (.double q3)] (.double (0 : UInt64)) := Arv.set Ar21 q21 Sz21 Ng21 Hs21 Gs21 rfl W22 1 rfl (Nat.le_of_ble_eq_true rfl)
      have N22 := Fr.snoc X22 N20 g_ar
      obtain ⟨fs, hr, hrun, hended, hW, hsame⟩ := X22.leave (v := none) (fun _ => rfl) hlk
      refine ⟨_, _, ?_, hrun, hended, _, _, rfl, ?_, ⟨_, rfl⟩, hW, hsame.mono (by decide) (by decide)⟩
      · refine hA0 _ ?_
        refine k0 _ ?_
        refine own_f_aloadN X0.here hx (hb hby d_method_5_0) rfl rfl (rfl : _ = 1) ?_
        refine own_f_iloadN X0.here hx (hb hby d_method_5_1) rfl (rfl : _ = 2) ?_
        refine X0.daload hx (j := (0 : Int32)) (v := (.double q0)) (by rw [e0]; exact Ar17.1) (State.isArrayOf_alike hZ.alike Ar17.2.1) Ar17.2.2 hin17 hat17 (g := (mkF m 2 #[.val (.ref ar), .val (.int (0 : Int32)), .val (.int (1 : Int32)), .unset, .unset] [(.int (0 : Int32)), (.ref ar)])) rfl rfl (hb hby d_method_5_2) _ ?_
        show Steps p.tables e below (s₁.setTop (mkF m 3 #[.val (.ref ar), .val (.int (0 : Int32)), .val (.int (1 : Int32)), .unset, .unset] [(.double q0)])) _
        refine own_f_dstoreN X0.here hx (hb hby d_method_5_3) (rfl : storeLocals _ _ _ = some #[.val (.ref ar), .val (.int (0 : Int32)), .val (.int (1 : Int32)), .val (.double q0), .second]) (rfl : _ = 4) ?_
        refine own_f_aloadN X0.here hx (hb hby d_method_5_4) rfl rfl (rfl : _ = 5) ?_
        refine own_f_iloadN X0.here hx (hb hby d_method_5_5) rfl (rfl : _ = 6) ?_
        refine own_f_aloadN X0.here hx (hb hby d_method_5_6) rfl rfl (rfl : _ = 7) ?_
        refine own_f_iloadN X0.here hx (hb hby d_method_5_7) rfl (rfl : _ = 8) ?_
        refine X0.daload hx (j := (1 : Int32)) (v := (.double q1)) (by rw [e0]; exact Ar18.1) (State.isArrayOf_alike hZ.alike Ar18.2.1) Ar18.2.2 hin18 hat18 (g := (mkF m 8 #[.val (.ref ar), .val (.int (0 : Int32)), .val (.int (1 : Int32)), .val (.double q0), .second] [(.int (1 : Int32)), (.ref ar), (.int (0 : Int32)), (.ref ar)])) rfl rfl (hb hby d_method_5_8) _ ?_
        show Steps p.tables e below (s₁.setTop (mkF m 9 #[.val (.ref ar), .val (.int (0 : Int32)), .val (.int (1 : Int32)), .val (.double q0), .second] [(.double q1), (.int (0 : Int32)), (.ref ar)])) _
        refine st20 _ ?_
        show Steps p.tables e below (T20.setTop (mkF m 10 #[.val (.ref ar), .val (.int (0 : Int32)), .val (.int (1 : Int32)), .val (.double q0), .second] [])) _
        refine own_f_aloadN X20.here hx (hb hby d_method_5_10) rfl rfl (rfl : _ = 11) ?_
        refine own_f_iloadN X20.here hx (hb hby d_method_5_11) rfl (rfl : _ = 12) ?_
        refine own_f_dloadN X20.here hx (hb hby d_method_5_12) rfl (rfl : _ = 13) ?_
        refine st22 _ ?_
        show Steps p.tables e below (T22.setTop (mkF m 14 #[.val (.ref ar), .val (.int (0 : Int32)), .val (.int (1 : Int32)), .val (.double q0), .second] [])) _
        exact X22.returnOut hx Bd.returns (hb hby d_method_5_14) hr
      · show Q6 Z ar _ _ kc q0 q1 q2 q3 h0 n0 _ T22.heap _
        rw [e22]
        exact ⟨q1, q0, q2, q3, rfl, N22, KK, Va, own_pm01⟩
    · obtain ⟨cl23, Ar23, -, Sz23, Ng23, Hs23, -⟩ := id Va
      have hin23 : ¬ ((0 : Int32) < 0 ∨ cl23.slots.size ≤ ((0 : Int32)).toNatClampNeg) := inb_of Sz23 ⟨by decide, by decide⟩
      have hat23 : cl23.slots[((0 : Int32)).toNatClampNeg]? = some (.double q0) := Hs23 _ (Nat.lt_of_not_le fun q => hin23 (Or.inr q))
      obtain ⟨cl24, Ar24, -, Sz24, Ng24, Hs24, -⟩ := id Va
      have hin24 : ¬ ((2 : Int32) < 0 ∨ cl24.slots.size ≤ ((2 : Int32)).toNatClampNeg) := inb_of Sz24 ⟨by decide, by decide⟩
      have hat24 : cl24.slots[((2 : Int32)).toNatClampNeg]? = some (.double q2) := Hs24 _ (Nat.lt_of_not_le fun q => hin24 (Or.inr q))
      obtain ⟨cl25, Ar25, q25, Sz25, Ng25, Hs25, Gs25⟩ := Va
      have hin25 : ¬ ((0 : Int32) < 0 ∨ cl25.slots.size ≤ ((0 : Int32)).toNatClampNeg) := inb_of Sz25 ⟨by decide, by decide⟩
      obtain ⟨T26, h26, X26, e26, W26, st26⟩ := stD X0 hx hZ e0 Ar25 (j := (0 : Int32)) hin25 (g := (mkF m 9 #[.val (.ref ar), .val (.int (0 : Int32)), .val (.int (2 : Int32)), .val (.double q0), .second] [(.double q2), (.int (0 : Int32)), (.ref ar)])) rfl rfl (hb hby d_method_5_9)
      have Zs26 := Nat.le_trans Z0 (Keep.of_wr W26).1
      replace KK := KK.wr W26 (Or.inl (by simp))
      have Va : Arv Z h26 ar kc .double (4 : Int32) [(.double q2), (.double q1), (.double q2), (.double q3)] (.double (0 : UInt64)) := Arv.set Ar25 q25 Sz25 Ng25 Hs25 Gs25 rfl W26 0 rfl (Nat.le_of_ble_eq_true rfl)
      have N26 := Fr.snoc X26 N0 g_ar
      obtain ⟨cl27, Ar27, q27, Sz27, Ng27, Hs27, Gs27⟩ := Va
      have hin27 : ¬ ((2 : Int32) < 0 ∨ cl27.slots.size ≤ ((2 : Int32)).toNatClampNeg) := inb_of Sz27 ⟨by decide, by decide⟩
      obtain ⟨T28, h28, X28, e28, W28, st28⟩ := stD X26 hx hZ e26 Ar27 (j := (2 : Int32)) hin27 (g := (mkF m 13 #[.val (.ref ar), .val (.int (0 : Int32)), .val (.int (2 : Int32)), .val (.double q0), .second] [(.double q0), (.int (2 : Int32)), (.ref ar)])) rfl rfl (hb hby d_method_5_13)
      have Zs28 := Nat.le_trans Zs26 (Keep.of_wr W28).1
      replace KK := KK.wr W28 (Or.inl (by simp))
      have Va : Arv Z h28 ar kc .double (4 : Int32) [(.double q2), (.double q1), (.double q0), (.double q3)] (.double (0 : UInt64)) := Arv.set Ar27 q27 Sz27 Ng27 Hs27 Gs27 rfl W28 2 rfl (Nat.le_of_ble_eq_true rfl)
      have N28 := Fr.snoc X28 N26 g_ar
      obtain ⟨fs, hr, hrun, hended, hW, hsame⟩ := X28.leave (v := none) (fun _ => rfl) hlk
      refine ⟨_, _, ?_, hrun, hended, _, _, rfl, ?_, ⟨_, rfl⟩, hW, hsame.mono (by decide) (by decide)⟩
      · refine hA0 _ ?_
        refine k0 _ ?_
        refine own_f_aloadN X0.here hx (hb hby d_method_5_0) rfl rfl (rfl : _ = 1) ?_
        refine own_f_iloadN X0.here hx (hb hby d_method_5_1) rfl (rfl : _ = 2) ?_
        refine X0.daload hx (j := (0 : Int32)) (v := (.double q0)) (by rw [e0]; exact Ar23.1) (State.isArrayOf_alike hZ.alike Ar23.2.1) Ar23.2.2 hin23 hat23 (g := (mkF m 2 #[.val (.ref ar), .val (.int (0 : Int32)), .val (.int (2 : Int32)), .unset, .unset] [(.int (0 : Int32)), (.ref ar)])) rfl rfl (hb hby d_method_5_2) _ ?_
        show Steps p.tables e below (s₁.setTop (mkF m 3 #[.val (.ref ar), .val (.int (0 : Int32)), .val (.int (2 : Int32)), .unset, .unset] [(.double q0)])) _
        refine own_f_dstoreN X0.here hx (hb hby d_method_5_3) (rfl : storeLocals _ _ _ = some #[.val (.ref ar), .val (.int (0 : Int32)), .val (.int (2 : Int32)), .val (.double q0), .second]) (rfl : _ = 4) ?_
        refine own_f_aloadN X0.here hx (hb hby d_method_5_4) rfl rfl (rfl : _ = 5) ?_
        refine own_f_iloadN X0.here hx (hb hby d_method_5_5) rfl (rfl : _ = 6) ?_
        refine own_f_aloadN X0.here hx (hb hby d_method_5_6) rfl rfl (rfl : _ = 7) ?_
        refine own_f_iloadN X0.here hx (hb hby d_method_5_7) rfl (rfl : _ = 8) ?_
        refine X0.daload hx (j := (2 : Int32)) (v := (.double q2)) (by rw [e0]; exact Ar24.1) (State.isArrayOf_alike hZ.alike Ar24.2.1) Ar24.2.2 hin24 hat24 (g := (mkF m 8 #[.val (.ref ar), .val (.int (0 : Int32)), .val (.int (2 : Int32)), .val (.double q0), .second] [(.int (2 : Int32)), (.ref ar), (.int (0 : Int32)), (.ref ar)])) rfl rfl (hb hby d_method_5_8) _ ?_
        show Steps p.tables e below (s₁.setTop (mkF m 9 #[.val (.ref ar), .val (.int (0 : Int32)), .val (.int (2 : Int32)), .val (.double q0), .second] [(.double q2), (.int (0 : Int32)), (.ref ar)])) _
        refine st26 _ ?_
        show Steps p.tables e below (T26.setTop (mkF m 10 #[.val (.ref ar), .val (.int (0 : Int32)), .val (.int (2 : Int32)), .val (.double q0), .second] [])) _
        refine own_f_aloadN X26.here hx (hb hby d_method_5_10) rfl rfl (rfl : _ = 11) ?_
        refine own_f_iloadN X26.here hx (hb hby d_method_5_11) rfl (rfl : _ = 12) ?_
        refine own_f_dloadN X26.here hx (hb hby d_method_5_12) rfl (rfl : _ = 13) ?_
        refine st28 _ ?_
        show Steps p.tables e below (T28.setTop (mkF m 14 #[.val (.ref ar), .val (.int (0 : Int32)), .val (.int (2 : Int32)), .val (.double q0), .second] [])) _
        exact X28.returnOut hx Bd.returns (hb hby d_method_5_14) hr
      · show Q6 Z ar _ _ kc q0 q1 q2 q3 h0 n0 _ T28.heap _
        rw [e28]
        exact ⟨q2, q1, q0, q3, rfl, N28, KK, Va, own_pm02⟩
    · obtain ⟨cl29, Ar29, -, Sz29, Ng29, Hs29, -⟩ := id Va
      have hin29 : ¬ ((0 : Int32) < 0 ∨ cl29.slots.size ≤ ((0 : Int32)).toNatClampNeg) := inb_of Sz29 ⟨by decide, by decide⟩
      have hat29 : cl29.slots[((0 : Int32)).toNatClampNeg]? = some (.double q0) := Hs29 _ (Nat.lt_of_not_le fun q => hin29 (Or.inr q))
      obtain ⟨cl30, Ar30, -, Sz30, Ng30, Hs30, -⟩ := id Va
      have hin30 : ¬ ((3 : Int32) < 0 ∨ cl30.slots.size ≤ ((3 : Int32)).toNatClampNeg) := inb_of Sz30 ⟨by decide, by decide⟩
      have hat30 : cl30.slots[((3 : Int32)).toNatClampNeg]? = some (.double q3) := Hs30 _ (Nat.lt_of_not_le fun q => hin30 (Or.inr q))
      obtain ⟨cl31, Ar31, q31, Sz31, Ng31, Hs31, Gs31⟩ := Va
      have hin31 : ¬ ((0 : Int32) < 0 ∨ cl31.slots.size ≤ ((0 : Int32)).toNatClampNeg) := inb_of Sz31 ⟨by decide, by decide⟩
      obtain ⟨T32, h32, X32, e32, W32, st32⟩ := stD X0 hx hZ e0 Ar31 (j := (0 : Int32)) hin31 (g := (mkF m 9 #[.val (.ref ar), .val (.int (0 : Int32)), .val (.int (3 : Int32)), .val (.double q0), .second] [(.double q3), (.int (0 : Int32)), (.ref ar)])) rfl rfl (hb hby d_method_5_9)
      have Zs32 := Nat.le_trans Z0 (Keep.of_wr W32).1
      replace KK := KK.wr W32 (Or.inl (by simp))
      have Va : Arv Z h32 ar kc .double (4 : Int32) [(.double q3), (.double q1), (.double q2), (.double q3)] (.double (0 : UInt64)) := Arv.set Ar31 q31 Sz31 Ng31 Hs31 Gs31 rfl W32 0 rfl (Nat.le_of_ble_eq_true rfl)
      have N32 := Fr.snoc X32 N0 g_ar
      obtain ⟨cl33, Ar33, q33, Sz33, Ng33, Hs33, Gs33⟩ := Va
      have hin33 : ¬ ((3 : Int32) < 0 ∨ cl33.slots.size ≤ ((3 : Int32)).toNatClampNeg) := inb_of Sz33 ⟨by decide, by decide⟩
      obtain ⟨T34, h34, X34, e34, W34, st34⟩ := stD X32 hx hZ e32 Ar33 (j := (3 : Int32)) hin33 (g := (mkF m 13 #[.val (.ref ar), .val (.int (0 : Int32)), .val (.int (3 : Int32)), .val (.double q0), .second] [(.double q0), (.int (3 : Int32)), (.ref ar)])) rfl rfl (hb hby d_method_5_13)
      have Zs34 := Nat.le_trans Zs32 (Keep.of_wr W34).1
      replace KK := KK.wr W34 (Or.inl (by simp))
      have Va : Arv Z h34 ar kc .double (4 : Int32) [(.double q3), (.double q1), (.double q2), (.double q0)] (.double (0 : UInt64)) := Arv.set Ar33 q33 Sz33 Ng33 Hs33 Gs33 rfl W34 3 rfl (Nat.le_of_ble_eq_true rfl)
      have N34 := Fr.snoc X34 N32 g_ar
      obtain ⟨fs, hr, hrun, hended, hW, hsame⟩ := X34.leave (v := none) (fun _ => rfl) hlk
      refine ⟨_, _, ?_, hrun, hended, _, _, rfl, ?_, ⟨_, rfl⟩, hW, hsame.mono (by decide) (by decide)⟩
      · refine hA0 _ ?_
        refine k0 _ ?_
        refine own_f_aloadN X0.here hx (hb hby d_method_5_0) rfl rfl (rfl : _ = 1) ?_
        refine own_f_iloadN X0.here hx (hb hby d_method_5_1) rfl (rfl : _ = 2) ?_
        refine X0.daload hx (j := (0 : Int32)) (v := (.double q0)) (by rw [e0]; exact Ar29.1) (State.isArrayOf_alike hZ.alike Ar29.2.1) Ar29.2.2 hin29 hat29 (g := (mkF m 2 #[.val (.ref ar), .val (.int (0 : Int32)), .val (.int (3 : Int32)), .unset, .unset] [(.int (0 : Int32)), (.ref ar)])) rfl rfl (hb hby d_method_5_2) _ ?_
        show Steps p.tables e below (s₁.setTop (mkF m 3 #[.val (.ref ar), .val (.int (0 : Int32)), .val (.int (3 : Int32)), .unset, .unset] [(.double q0)])) _
        refine own_f_dstoreN X0.here hx (hb hby d_method_5_3) (rfl : storeLocals _ _ _ = some #[.val (.ref ar), .val (.int (0 : Int32)), .val (.int (3 : Int32)), .val (.double q0), .second]) (rfl : _ = 4) ?_
        refine own_f_aloadN X0.here hx (hb hby d_method_5_4) rfl rfl (rfl : _ = 5) ?_
        refine own_f_iloadN X0.here hx (hb hby d_method_5_5) rfl (rfl : _ = 6) ?_
        refine own_f_aloadN X0.here hx (hb hby d_method_5_6) rfl rfl (rfl : _ = 7) ?_
        refine own_f_iloadN X0.here hx (hb hby d_method_5_7) rfl (rfl : _ = 8) ?_
        refine X0.daload hx (j := (3 : Int32)) (v := (.double q3)) (by rw [e0]; exact Ar30.1) (State.isArrayOf_alike hZ.alike Ar30.2.1) Ar30.2.2 hin30 hat30 (g := (mkF m 8 #[.val (.ref ar), .val (.int (0 : Int32)), .val (.int (3 : Int32)), .val (.double q0), .second] [(.int (3 : Int32)), (.ref ar), (.int (0 : Int32)), (.ref ar)])) rfl rfl (hb hby d_method_5_8) _ ?_
        show Steps p.tables e below (s₁.setTop (mkF m 9 #[.val (.ref ar), .val (.int (0 : Int32)), .val (.int (3 : Int32)), .val (.double q0), .second] [(.double q3), (.int (0 : Int32)), (.ref ar)])) _
        refine st32 _ ?_
        show Steps p.tables e below (T32.setTop (mkF m 10 #[.val (.ref ar), .val (.int (0 : Int32)), .val (.int (3 : Int32)), .val (.double q0), .second] [])) _
        refine own_f_aloadN X32.here hx (hb hby d_method_5_10) rfl rfl (rfl : _ = 11) ?_
        refine own_f_iloadN X32.here hx (hb hby d_method_5_11) rfl (rfl : _ = 12) ?_
        refine own_f_dloadN X32.here hx (hb hby d_method_5_12) rfl (rfl : _ = 13) ?_
        refine st34 _ ?_
        show Steps p.tables e below (T34.setTop (mkF m 14 #[.val (.ref ar), .val (.int (0 : Int32)), .val (.int (3 : Int32)), .val (.double q0), .second] [])) _
        exact X34.returnOut hx Bd.returns (hb hby d_method_5_14) hr
      · show Q6 Z ar _ _ kc q0 q1 q2 q3 h0 n0 _ T34.heap _
        rw [e34]
        exact ⟨q3, q1, q2, q0, rfl, N34, KK, Va, own_pm03⟩
  · rcases hj with rfl | rfl | rfl | rfl
    · obtain ⟨cl35, Ar35, -, Sz35, Ng35, Hs35, -⟩ := id Va
      have hin35 : ¬ ((1 : Int32) < 0 ∨ cl35.slots.size ≤ ((1 : Int32)).toNatClampNeg) := inb_of Sz35 ⟨by decide, by decide⟩
      have hat35 : cl35.slots[((1 : Int32)).toNatClampNeg]? = some (.double q1) := Hs35 _ (Nat.lt_of_not_le fun q => hin35 (Or.inr q))
      obtain ⟨cl36, Ar36, -, Sz36, Ng36, Hs36, -⟩ := id Va
      have hin36 : ¬ ((0 : Int32) < 0 ∨ cl36.slots.size ≤ ((0 : Int32)).toNatClampNeg) := inb_of Sz36 ⟨by decide, by decide⟩
      have hat36 : cl36.slots[((0 : Int32)).toNatClampNeg]? = some (.double q0) := Hs36 _ (Nat.lt_of_not_le fun q => hin36 (Or.inr q))
      obtain ⟨cl37, Ar37, q37, Sz37, Ng37, Hs37, Gs37⟩ := Va
      have hin37 : ¬ ((1 : Int32) < 0 ∨ cl37.slots.size ≤ ((1 : Int32)).toNatClampNeg) := inb_of Sz37 ⟨by decide, by decide⟩
      obtain ⟨T38, h38, X38, e38, W38, st38⟩ := stD X0 hx hZ e0 Ar37 (j := (1 : Int32)) hin37 (g := (mkF m 9 #[.val (.ref ar), .val (.int (1 : Int32)), .val (.int (0 : Int32)), .val (.double q1), .second] [(.double q0), (.int (1 : Int32)), (.ref ar)])) rfl rfl (hb hby d_method_5_9)
      have Zs38 := Nat.le_trans Z0 (Keep.of_wr W38).1
      replace KK := KK.wr W38 (Or.inl (by simp))
      have Va : Arv Z h38 ar kc .double (4 : Int32) [(.double q0), (.double q0), (.double q2), (.double q3)] (.double (0 : UInt64)) := Arv.set Ar37 q37 Sz37 Ng37 Hs37 Gs37 rfl W38 1 rfl (Nat.le_of_ble_eq_true rfl)
      have N38 := Fr.snoc X38 N0 g_ar
      obtain ⟨cl39, Ar39, q39, Sz39, Ng39, Hs39, Gs39⟩ := Va
      have hin39 : ¬ ((0 : Int32) < 0 ∨ cl39.slots.size ≤ ((0 : Int32)).toNatClampNeg) := inb_of Sz39 ⟨by decide, by decide⟩
      obtain ⟨T40, h40, X40, e40, W40, st40⟩ := stD X38 hx hZ e38 Ar39 (j := (0 : Int32)) hin39 (g := (mkF m 13 #[.val (.ref ar), .val (.int (1 : Int32)), .val (.int (0 : Int32)), .val (.double q1), .second] [(.double q1), (.int (0 : Int32)), (.ref ar)])) rfl rfl (hb hby d_method_5_13)
      have Zs40 := Nat.le_trans Zs38 (Keep.of_wr W40).1
      replace KK := KK.wr W40 (Or.inl (by simp))
      have Va : Arv Z h40 ar kc .double (4 : Int32) [(.double q1), (.double q0), (.double q2), (.double q3)] (.double (0 : UInt64)) := Arv.set Ar39 q39 Sz39 Ng39 Hs39 Gs39 rfl W40 0 rfl (Nat.le_of_ble_eq_true rfl)
      have N40 := Fr.snoc X40 N38 g_ar
      obtain ⟨fs, hr, hrun, hended, hW, hsame⟩ := X40.leave (v := none) (fun _ => rfl) hlk
      refine ⟨_, _, ?_, hrun, hended, _, _, rfl, ?_, ⟨_, rfl⟩, hW, hsame.mono (by decide) (by decide)⟩
      · refine hA0 _ ?_
        refine k0 _ ?_
        refine own_f_aloadN X0.here hx (hb hby d_method_5_0) rfl rfl (rfl : _ = 1) ?_
        refine own_f_iloadN X0.here hx (hb hby d_method_5_1) rfl (rfl : _ = 2) ?_
        refine X0.daload hx (j := (1 : Int32)) (v := (.double q1)) (by rw [e0]; exact Ar35.1) (State.isArrayOf_alike hZ.alike Ar35.2.1) Ar35.2.2 hin35 hat35 (g := (mkF m 2 #[.val (.ref ar), .val (.int (1 : Int32)), .val (.int (0 : Int32)), .unset, .unset] [(.int (1 : Int32)), (.ref ar)])) rfl rfl (hb hby d_method_5_2) _ ?_
        show Steps p.tables e below (s₁.setTop (mkF m 3 #[.val (.ref ar), .val (.int (1 : Int32)), .val (.int (0 : Int32)), .unset, .unset] [(.double q1)])) _
        refine own_f_dstoreN X0.here hx (hb hby d_method_5_3) (rfl : storeLocals _ _ _ = some #[.val (.ref ar), .val (.int (1 : Int32)), .val (.int (0 : Int32)), .val (.double q1), .second]) (rfl : _ = 4) ?_
        refine own_f_aloadN X0.here hx (hb hby d_method_5_4) rfl rfl (rfl : _ = 5) ?_
        refine own_f_iloadN X0.here hx (hb hby d_method_5_5) rfl (rfl : _ = 6) ?_
        refine own_f_aloadN X0.here hx (hb hby d_method_5_6) rfl rfl (rfl : _ = 7) ?_
        refine own_f_iloadN X0.here hx (hb hby d_method_5_7) rfl (rfl : _ = 8) ?_
        refine X0.daload hx (j := (0 : Int32)) (v := (.double q0)) (by rw [e0]; exact Ar36.1) (State.isArrayOf_alike hZ.alike Ar36.2.1) Ar36.2.2 hin36 hat36 (g := (mkF m 8 #[.val (.ref ar), .val (.int (1 : Int32)), .val (.int (0 : Int32)), .val (.double q1), .second] [(.int (0 : Int32)), (.ref ar), (.int (1 : Int32)), (.ref ar)])) rfl rfl (hb hby d_method_5_8) _ ?_
        show Steps p.tables e below (s₁.setTop (mkF m 9 #[.val (.ref ar), .val (.int (1 : Int32)), .val (.int (0 : Int32)), .val (.double q1), .second] [(.double q0), (.int (1 : Int32)), (.ref ar)])) _
        refine st38 _ ?_
        show Steps p.tables e below (T38.setTop (mkF m 10 #[.val (.ref ar), .val (.int (1 : Int32)), .val (.int (0 : Int32)), .val (.double q1), .second] [])) _
        refine own_f_aloadN X38.here hx (hb hby d_method_5_10) rfl rfl (rfl : _ = 11) ?_
        refine own_f_iloadN X38.here hx (hb hby d_method_5_11) rfl (rfl : _ = 12) ?_
        refine own_f_dloadN X38.here hx (hb hby d_method_5_12) rfl (rfl : _ = 13) ?_
        refine st40 _ ?_
        show Steps p.tables e below (T40.setTop (mkF m 14 #[.val (.ref ar), .val (.int (1 : Int32)), .val (.int (0 : Int32)), .val (.double q1), .second] [])) _
        exact X40.returnOut hx Bd.returns (hb hby d_method_5_14) hr
      · show Q6 Z ar _ _ kc q0 q1 q2 q3 h0 n0 _ T40.heap _
        rw [e40]
        exact ⟨q1, q0, q2, q3, rfl, N40, KK, Va, own_pm01⟩
    · obtain ⟨cl41, Ar41, -, Sz41, Ng41, Hs41, -⟩ := id Va
      have hin41 : ¬ ((1 : Int32) < 0 ∨ cl41.slots.size ≤ ((1 : Int32)).toNatClampNeg) := inb_of Sz41 ⟨by decide, by decide⟩
      have hat41 : cl41.slots[((1 : Int32)).toNatClampNeg]? = some (.double q1) := Hs41 _ (Nat.lt_of_not_le fun q => hin41 (Or.inr q))
      obtain ⟨cl42, Ar42, -, Sz42, Ng42, Hs42, -⟩ := id Va
      have hin42 : ¬ ((1 : Int32) < 0 ∨ cl42.slots.size ≤ ((1 : Int32)).toNatClampNeg) := inb_of Sz42 ⟨by decide, by decide⟩
      have hat42 : cl42.slots[((1 : Int32)).toNatClampNeg]? = some (.double q1) := Hs42 _ (Nat.lt_of_not_le fun q => hin42 (Or.inr q))
      obtain ⟨cl43, Ar43, q43, Sz43, Ng43, Hs43, Gs43⟩ := Va
      have hin43 : ¬ ((1 : Int32) < 0 ∨ cl43.slots.size ≤ ((1 : Int32)).toNatClampNeg) := inb_of Sz43 ⟨by decide, by decide⟩
      obtain ⟨T44, h44, X44, e44, W44, st44⟩ := stD X0 hx hZ e0 Ar43 (j := (1 : Int32)) hin43 (g := (mkF m 9 #[.val (.ref ar), .val (.int (1 : Int32)), .val (.int (1 : Int32)), .val (.double q1), .second] [(.double q1), (.int (1 : Int32)), (.ref ar)])) rfl rfl (hb hby d_method_5_9)
      have Zs44 := Nat.le_trans Z0 (Keep.of_wr W44).1
      replace KK := KK.wr W44 (Or.inl (by simp))
      have Va : Arv Z h44 ar kc .double (4 : Int32) [(.double q0), (.double q1), (.double q2), (.double q3)] (.double (0 : UInt64)) := Arv.set Ar43 q43 Sz43 Ng43 Hs43 Gs43 rfl W44 1 rfl (Nat.le_of_ble_eq_true rfl)
      have N44 := Fr.snoc X44 N0 g_ar
      obtain ⟨cl45, Ar45, q45, Sz45, Ng45, Hs45, Gs45⟩ := Va
      have hin45 : ¬ ((1 : Int32) < 0 ∨ cl45.slots.size ≤ ((1 : Int32)).toNatClampNeg) := inb_of Sz45 ⟨by decide, by decide⟩
      obtain ⟨T46, h46, X46, e46, W46, st46⟩ := stD X44 hx hZ e44 Ar45 (j := (1 : Int32)) hin45 (g := (mkF m 13 #[.val (.ref ar), .val (.int (1 : Int32)), .val (.int (1 : Int32)), .val (.double q1), .second] [(.double q1), (.int (1 : Int32)), (.ref ar)])) rfl rfl (hb hby d_method_5_13)
      have Zs46 := Nat.le_trans Zs44 (Keep.of_wr W46).1
      replace KK := KK.wr W46 (Or.inl (by simp))
      have Va : Arv Z h46 ar kc .double (4 : Int32) [(.double q0), (.double q1), (.double q2), (.double q3)] (.double (0 : UInt64)) := Arv.set Ar45 q45 Sz45 Ng45 Hs45 Gs45 rfl W46 1 rfl (Nat.le_of_ble_eq_true rfl)
      have N46 := Fr.snoc X46 N44 g_ar
      obtain ⟨fs, hr, hrun, hended, hW, hsame⟩ := X46.leave (v := none) (fun _ => rfl) hlk
      refine ⟨_, _, ?_, hrun, hended, _, _, rfl, ?_, ⟨_, rfl⟩, hW, hsame.mono (by decide) (by decide)⟩
      · refine hA0 _ ?_
        refine k0 _ ?_
        refine own_f_aloadN X0.here hx (hb hby d_method_5_0) rfl rfl (rfl : _ = 1) ?_
        refine own_f_iloadN X0.here hx (hb hby d_method_5_1) rfl (rfl : _ = 2) ?_
        refine X0.daload hx (j := (1 : Int32)) (v := (.double q1)) (by rw [e0]; exact Ar41.1) (State.isArrayOf_alike hZ.alike Ar41.2.1) Ar41.2.2 hin41 hat41 (g := (mkF m 2 #[.val (.ref ar), .val (.int (1 : Int32)), .val (.int (1 : Int32)), .unset, .unset] [(.int (1 : Int32)), (.ref ar)])) rfl rfl (hb hby d_method_5_2) _ ?_
        show Steps p.tables e below (s₁.setTop (mkF m 3 #[.val (.ref ar), .val (.int (1 : Int32)), .val (.int (1 : Int32)), .unset, .unset] [(.double q1)])) _
        refine own_f_dstoreN X0.here hx (hb hby d_method_5_3) (rfl : storeLocals _ _ _ = some #[.val (.ref ar), .val (.int (1 : Int32)), .val (.int (1 : Int32)), .val (.double q1), .second]) (rfl : _ = 4) ?_
        refine own_f_aloadN X0.here hx (hb hby d_method_5_4) rfl rfl (rfl : _ = 5) ?_
        refine own_f_iloadN X0.here hx (hb hby d_method_5_5) rfl (rfl : _ = 6) ?_
        refine own_f_aloadN X0.here hx (hb hby d_method_5_6) rfl rfl (rfl : _ = 7) ?_
        refine own_f_iloadN X0.here hx (hb hby d_method_5_7) rfl (rfl : _ = 8) ?_
        refine X0.daload hx (j := (1 : Int32)) (v := (.double q1)) (by rw [e0]; exact Ar42.1) (State.isArrayOf_alike hZ.alike Ar42.2.1) Ar42.2.2 hin42 hat42 (g := (mkF m 8 #[.val (.ref ar), .val (.int (1 : Int32)), .val (.int (1 : Int32)), .val (.double q1), .second] [(.int (1 : Int32)), (.ref ar), (.int (1 : Int32)), (.ref ar)])) rfl rfl (hb hby d_method_5_8) _ ?_
        show Steps p.tables e below (s₁.setTop (mkF m 9 #[.val (.ref ar), .val (.int (1 : Int32)), .val (.int (1 : Int32)), .val (.double q1), .second] [(.double q1), (.int (1 : Int32)), (.ref ar)])) _
        refine st44 _ ?_
        show Steps p.tables e below (T44.setTop (mkF m 10 #[.val (.ref ar), .val (.int (1 : Int32)), .val (.int (1 : Int32)), .val (.double q1), .second] [])) _
        refine own_f_aloadN X44.here hx (hb hby d_method_5_10) rfl rfl (rfl : _ = 11) ?_
        refine own_f_iloadN X44.here hx (hb hby d_method_5_11) rfl (rfl : _ = 12) ?_
        refine own_f_dloadN X44.here hx (hb hby d_method_5_12) rfl (rfl : _ = 13) ?_
        refine st46 _ ?_
        show Steps p.tables e below (T46.setTop (mkF m 14 #[.val (.ref ar), .val (.int (1 : Int32)), .val (.int (1 : Int32)), .val (.double q1), .second] [])) _
        exact X46.returnOut hx Bd.returns (hb hby d_method_5_14) hr
      · show Q6 Z ar _ _ kc q0 q1 q2 q3 h0 n0 _ T46.heap _
        rw [e46]
        exact ⟨q0, q1, q2, q3, rfl, N46, KK, Va, own_pmr⟩
    · obtain ⟨cl47, Ar47, -, Sz47, Ng47, Hs47, -⟩ := id Va
      have hin47 : ¬ ((1 : Int32) < 0 ∨ cl47.slots.size ≤ ((1 : Int32)).toNatClampNeg) := inb_of Sz47 ⟨by decide, by decide⟩
      have hat47 : cl47.slots[((1 : Int32)).toNatClampNeg]? = some (.double q1) := Hs47 _ (Nat.lt_of_not_le fun q => hin47 (Or.inr q))
      obtain ⟨cl48, Ar48, -, Sz48, Ng48, Hs48, -⟩ := id Va
      have hin48 : ¬ ((2 : Int32) < 0 ∨ cl48.slots.size ≤ ((2 : Int32)).toNatClampNeg) := inb_of Sz48 ⟨by decide, by decide⟩
      have hat48 : cl48.slots[((2 : Int32)).toNatClampNeg]? = some (.double q2) := Hs48 _ (Nat.lt_of_not_le fun q => hin48 (Or.inr q))
      obtain ⟨cl49, Ar49, q49, Sz49, Ng49, Hs49, Gs49⟩ := Va
      have hin49 : ¬ ((1 : Int32) < 0 ∨ cl49.slots.size ≤ ((1 : Int32)).toNatClampNeg) := inb_of Sz49 ⟨by decide, by decide⟩
      obtain ⟨T50, h50, X50, e50, W50, st50⟩ := stD X0 hx hZ e0 Ar49 (j := (1 : Int32)) hin49 (g := (mkF m 9 #[.val (.ref ar), .val (.int (1 : Int32)), .val (.int (2 : Int32)), .val (.double q1), .second] [(.double q2), (.int (1 : Int32)), (.ref ar)])) rfl rfl (hb hby d_method_5_9)
      have Zs50 := Nat.le_trans Z0 (Keep.of_wr W50).1
      replace KK := KK.wr W50 (Or.inl (by simp))
      have Va : Arv Z h50 ar kc .double (4 : Int32) [(.double q0), (.double q2), (.double q2), (.double q3)] (.double (0 : UInt64)) := Arv.set Ar49 q49 Sz49 Ng49 Hs49 Gs49 rfl W50 1 rfl (Nat.le_of_ble_eq_true rfl)
      have N50 := Fr.snoc X50 N0 g_ar
      obtain ⟨cl51, Ar51, q51, Sz51, Ng51, Hs51, Gs51⟩ := Va
      have hin51 : ¬ ((2 : Int32) < 0 ∨ cl51.slots.size ≤ ((2 : Int32)).toNatClampNeg) := inb_of Sz51 ⟨by decide, by decide⟩
      obtain ⟨T52, h52, X52, e52, W52, st52⟩ := stD X50 hx hZ e50 Ar51 (j := (2 : Int32)) hin51 (g := (mkF m 13 #[.val (.ref ar), .val (.int (1 : Int32)), .val (.int (2 : Int32)), .val (.double q1), .second] [(.double q1), (.int (2 : Int32)), (.ref ar)])) rfl rfl (hb hby d_method_5_13)
      have Zs52 := Nat.le_trans Zs50 (Keep.of_wr W52).1
      replace KK := KK.wr W52 (Or.inl (by simp))
      have Va : Arv Z h52 ar kc .double (4 : Int32) [(.double q0), (.double q2), (.double q1), (.double q3)] (.double (0 : UInt64)) := Arv.set Ar51 q51 Sz51 Ng51 Hs51 Gs51 rfl W52 2 rfl (Nat.le_of_ble_eq_true rfl)
      have N52 := Fr.snoc X52 N50 g_ar
      obtain ⟨fs, hr, hrun, hended, hW, hsame⟩ := X52.leave (v := none) (fun _ => rfl) hlk
      refine ⟨_, _, ?_, hrun, hended, _, _, rfl, ?_, ⟨_, rfl⟩, hW, hsame.mono (by decide) (by decide)⟩
      · refine hA0 _ ?_
        refine k0 _ ?_
        refine own_f_aloadN X0.here hx (hb hby d_method_5_0) rfl rfl (rfl : _ = 1) ?_
        refine own_f_iloadN X0.here hx (hb hby d_method_5_1) rfl (rfl : _ = 2) ?_
        refine X0.daload hx (j := (1 : Int32)) (v := (.double q1)) (by rw [e0]; exact Ar47.1) (State.isArrayOf_alike hZ.alike Ar47.2.1) Ar47.2.2 hin47 hat47 (g := (mkF m 2 #[.val (.ref ar), .val (.int (1 : Int32)), .val (.int (2 : Int32)), .unset, .unset] [(.int (1 : Int32)), (.ref ar)])) rfl rfl (hb hby d_method_5_2) _ ?_
        show Steps p.tables e below (s₁.setTop (mkF m 3 #[.val (.ref ar), .val (.int (1 : Int32)), .val (.int (2 : Int32)), .unset, .unset] [(.double q1)])) _
        refine own_f_dstoreN X0.here hx (hb hby d_method_5_3) (rfl : storeLocals _ _ _ = some #[.val (.ref ar), .val (.int (1 : Int32)), .val (.int (2 : Int32)), .val (.double q1), .second]) (rfl : _ = 4) ?_
        refine own_f_aloadN X0.here hx (hb hby d_method_5_4) rfl rfl (rfl : _ = 5) ?_
        refine own_f_iloadN X0.here hx (hb hby d_method_5_5) rfl (rfl : _ = 6) ?_
        refine own_f_aloadN X0.here hx (hb hby d_method_5_6) rfl rfl (rfl : _ = 7) ?_
        refine own_f_iloadN X0.here hx (hb hby d_method_5_7) rfl (rfl : _ = 8) ?_
        refine X0.daload hx (j := (2 : Int32)) (v := (.double q2)) (by rw [e0]; exact Ar48.1) (State.isArrayOf_alike hZ.alike Ar48.2.1) Ar48.2.2 hin48 hat48 (g := (mkF m 8 #[.val (.ref ar), .val (.int (1 : Int32)), .val (.int (2 : Int32)), .val (.double q1), .second] [(.int (2 : Int32)), (.ref ar), (.int (1 : Int32)), (.ref ar)])) rfl rfl (hb hby d_method_5_8) _ ?_
        show Steps p.tables e below (s₁.setTop (mkF m 9 #[.val (.ref ar), .val (.int (1 : Int32)), .val (.int (2 : Int32)), .val (.double q1), .second] [(.double q2), (.int (1 : Int32)), (.ref ar)])) _
        refine st50 _ ?_
        show Steps p.tables e below (T50.setTop (mkF m 10 #[.val (.ref ar), .val (.int (1 : Int32)), .val (.int (2 : Int32)), .val (.double q1), .second] [])) _
        refine own_f_aloadN X50.here hx (hb hby d_method_5_10) rfl rfl (rfl : _ = 11) ?_
        refine own_f_iloadN X50.here hx (hb hby d_method_5_11) rfl (rfl : _ = 12) ?_
        refine own_f_dloadN X50.here hx (hb hby d_method_5_12) rfl (rfl : _ = 13) ?_
        refine st52 _ ?_
        show Steps p.tables e below (T52.setTop (mkF m 14 #[.val (.ref ar), .val (.int (1 : Int32)), .val (.int (2 : Int32)), .val (.double q1), .second] [])) _
        exact X52.returnOut hx Bd.returns (hb hby d_method_5_14) hr
      · show Q6 Z ar _ _ kc q0 q1 q2 q3 h0 n0 _ T52.heap _
        rw [e52]
        exact ⟨q0, q2, q1, q3, rfl, N52, KK, Va, own_pm12⟩
    · obtain ⟨cl53, Ar53, -, Sz53, Ng53, Hs53, -⟩ := id Va
      have hin53 : ¬ ((1 : Int32) < 0 ∨ cl53.slots.size ≤ ((1 : Int32)).toNatClampNeg) := inb_of Sz53 ⟨by decide, by decide⟩
      have hat53 : cl53.slots[((1 : Int32)).toNatClampNeg]? = some (.double q1) := Hs53 _ (Nat.lt_of_not_le fun q => hin53 (Or.inr q))
      obtain ⟨cl54, Ar54, -, Sz54, Ng54, Hs54, -⟩ := id Va
      have hin54 : ¬ ((3 : Int32) < 0 ∨ cl54.slots.size ≤ ((3 : Int32)).toNatClampNeg) := inb_of Sz54 ⟨by decide, by decide⟩
      have hat54 : cl54.slots[((3 : Int32)).toNatClampNeg]? = some (.double q3) := Hs54 _ (Nat.lt_of_not_le fun q => hin54 (Or.inr q))
      obtain ⟨cl55, Ar55, q55, Sz55, Ng55, Hs55, Gs55⟩ := Va
      have hin55 : ¬ ((1 : Int32) < 0 ∨ cl55.slots.size ≤ ((1 : Int32)).toNatClampNeg) := inb_of Sz55 ⟨by decide, by decide⟩
      obtain ⟨T56, h56, X56, e56, W56, st56⟩ := stD X0 hx hZ e0 Ar55 (j := (1 : Int32)) hin55 (g := (mkF m 9 #[.val (.ref ar), .val (.int (1 : Int32)), .val (.int (3 : Int32)), .val (.double q1), .second] [(.double q3), (.int (1 : Int32)), (.ref ar)])) rfl rfl (hb hby d_method_5_9)
      have Zs56 := Nat.le_trans Z0 (Keep.of_wr W56).1
      replace KK := KK.wr W56 (Or.inl (by simp))
      have Va : Arv Z h56 ar kc .double (4 : Int32) [(.double q0), (.double q3), (.double q2), (.double q3)] (.double (0 : UInt64)) := Arv.set Ar55 q55 Sz55 Ng55 Hs55 Gs55 rfl W56 1 rfl (Nat.le_of_ble_eq_true rfl)
      have N56 := Fr.snoc X56 N0 g_ar
      obtain ⟨cl57, Ar57, q57, Sz57, Ng57, Hs57, Gs57⟩ := Va
      have hin57 : ¬ ((3 : Int32) < 0 ∨ cl57.slots.size ≤ ((3 : Int32)).toNatClampNeg) := inb_of Sz57 ⟨by decide, by decide⟩
      obtain ⟨T58, h58, X58, e58, W58, st58⟩ := stD X56 hx hZ e56 Ar57 (j := (3 : Int32)) hin57 (g := (mkF m 13 #[.val (.ref ar), .val (.int (1 : Int32)), .val (.int (3 : Int32)), .val (.double q1), .second] [(.double q1), (.int (3 : Int32)), (.ref ar)])) rfl rfl (hb hby d_method_5_13)
      have Zs58 := Nat.le_trans Zs56 (Keep.of_wr W58).1
      replace KK := KK.wr W58 (Or.inl (by simp))
      have Va : Arv Z h58 ar kc .double (4 : Int32) [(.double q0), (.double q3), (.double q2), (.double q1)] (.double (0 : UInt64)) := Arv.set Ar57 q57 Sz57 Ng57 Hs57 Gs57 rfl W58 3 rfl (Nat.le_of_ble_eq_true rfl)
      have N58 := Fr.snoc X58 N56 g_ar
      obtain ⟨fs, hr, hrun, hended, hW, hsame⟩ := X58.leave (v := none) (fun _ => rfl) hlk
      refine ⟨_, _, ?_, hrun, hended, _, _, rfl, ?_, ⟨_, rfl⟩, hW, hsame.mono (by decide) (by decide)⟩
      · refine hA0 _ ?_
        refine k0 _ ?_
        refine own_f_aloadN X0.here hx (hb hby d_method_5_0) rfl rfl (rfl : _ = 1) ?_
        refine own_f_iloadN X0.here hx (hb hby d_method_5_1) rfl (rfl : _ = 2) ?_
        refine X0.daload hx (j := (1 : Int32)) (v := (.double q1)) (by rw [e0]; exact Ar53.1) (State.isArrayOf_alike hZ.alike Ar53.2.1) Ar53.2.2 hin53 hat53 (g := (mkF m 2 #[.val (.ref ar), .val (.int (1 : Int32)), .val (.int (3 : Int32)), .unset, .unset] [(.int (1 : Int32)), (.ref ar)])) rfl rfl (hb hby d_method_5_2) _ ?_
        show Steps p.tables e below (s₁.setTop (mkF m 3 #[.val (.ref ar), .val (.int (1 : Int32)), .val (.int (3 : Int32)), .unset, .unset] [(.double q1)])) _
        refine own_f_dstoreN X0.here hx (hb hby d_method_5_3) (rfl : storeLocals _ _ _ = some #[.val (.ref ar), .val (.int (1 : Int32)), .val (.int (3 : Int32)), .val (.double q1), .second]) (rfl : _ = 4) ?_
        refine own_f_aloadN X0.here hx (hb hby d_method_5_4) rfl rfl (rfl : _ = 5) ?_
        refine own_f_iloadN X0.here hx (hb hby d_method_5_5) rfl (rfl : _ = 6) ?_
        refine own_f_aloadN X0.here hx (hb hby d_method_5_6) rfl rfl (rfl : _ = 7) ?_
        refine own_f_iloadN X0.here hx (hb hby d_method_5_7) rfl (rfl : _ = 8) ?_
        refine X0.daload hx (j := (3 : Int32)) (v := (.double q3)) (by rw [e0]; exact Ar54.1) (State.isArrayOf_alike hZ.alike Ar54.2.1) Ar54.2.2 hin54 hat54 (g := (mkF m 8 #[.val (.ref ar), .val (.int (1 : Int32)), .val (.int (3 : Int32)), .val (.double q1), .second] [(.int (3 : Int32)), (.ref ar), (.int (1 : Int32)), (.ref ar)])) rfl rfl (hb hby d_method_5_8) _ ?_
        show Steps p.tables e below (s₁.setTop (mkF m 9 #[.val (.ref ar), .val (.int (1 : Int32)), .val (.int (3 : Int32)), .val (.double q1), .second] [(.double q3), (.int (1 : Int32)), (.ref ar)])) _
        refine st56 _ ?_
        show Steps p.tables e below (T56.setTop (mkF m 10 #[.val (.ref ar), .val (.int (1 : Int32)), .val (.int (3 : Int32)), .val (.double q1), .second] [])) _
        refine own_f_aloadN X56.here hx (hb hby d_method_5_10) rfl rfl (rfl : _ = 11) ?_
        refine own_f_iloadN X56.here hx (hb hby d_method_5_11) rfl (rfl : _ = 12) ?_
        refine own_f_dloadN X56.here hx (hb hby d_method_5_12) rfl (rfl : _ = 13) ?_
        refine st58 _ ?_
        show Steps p.tables e below (T58.setTop (mkF m 14 #[.val (.ref ar), .val (.int (1 : Int32)), .val (.int (3 : Int32)), .val (.double q1), .second] [])) _
        exact X58.returnOut hx Bd.returns (hb hby d_method_5_14) hr
      · show Q6 Z ar _ _ kc q0 q1 q2 q3 h0 n0 _ T58.heap _
        rw [e58]
        exact ⟨q0, q3, q2, q1, rfl, N58, KK, Va, own_pm13⟩
  · rcases hj with rfl | rfl | rfl | rfl
    · obtain ⟨cl59, Ar59, -, Sz59, Ng59, Hs59, -⟩ := id Va
      have hin59 : ¬ ((2 : Int32) < 0 ∨ cl59.slots.size ≤ ((2 : Int32)).toNatClampNeg) := inb_of Sz59 ⟨by decide, by decide⟩
      have hat59 : cl59.slots[((2 : Int32)).toNatClampNeg]? = some (.double q2) := Hs59 _ (Nat.lt_of_not_le fun q => hin59 (Or.inr q))
      obtain ⟨cl60, Ar60, -, Sz60, Ng60, Hs60, -⟩ := id Va
      have hin60 : ¬ ((0 : Int32) < 0 ∨ cl60.slots.size ≤ ((0 : Int32)).toNatClampNeg) := inb_of Sz60 ⟨by decide, by decide⟩
      have hat60 : cl60.slots[((0 : Int32)).toNatClampNeg]? = some (.double q0) := Hs60 _ (Nat.lt_of_not_le fun q => hin60 (Or.inr q))
      obtain ⟨cl61, Ar61, q61, Sz61, Ng61, Hs61, Gs61⟩ := Va
      have hin61 : ¬ ((2 : Int32) < 0 ∨ cl61.slots.size ≤ ((2 : Int32)).toNatClampNeg) := inb_of Sz61 ⟨by decide, by decide⟩
      obtain ⟨T62, h62, X62, e62, W62, st62⟩ := stD X0 hx hZ e0 Ar61 (j := (2 : Int32)) hin61 (g := (mkF m 9 #[.val (.ref ar), .val (.int (2 : Int32)), .val (.int (0 : Int32)), .val (.double q2), .second] [(.double q0), (.int (2 : Int32)), (.ref ar)])) rfl rfl (hb hby d_method_5_9)
      have Zs62 := Nat.le_trans Z0 (Keep.of_wr W62).1
      replace KK := KK.wr W62 (Or.inl (by simp))
      have Va : Arv Z h62 ar kc .double (4 : Int32) [(.double q0), (.double q1), (.double q0), (.double q3)] (.double (0 : UInt64)) := Arv.set Ar61 q61 Sz61 Ng61 Hs61 Gs61 rfl W62 2 rfl (Nat.le_of_ble_eq_true rfl)
      have N62 := Fr.snoc X62 N0 g_ar
      obtain ⟨cl63, Ar63, q63, Sz63, Ng63, Hs63, Gs63⟩ := Va
      have hin63 : ¬ ((0 : Int32) < 0 ∨ cl63.slots.size ≤ ((0 : Int32)).toNatClampNeg) := inb_of Sz63 ⟨by decide, by decide⟩
      obtain ⟨T64, h64, X64, e64, W64, st64⟩ := stD X62 hx hZ e62 Ar63 (j := (0 : Int32)) hin63 (g := (mkF m 13 #[.val (.ref ar), .val (.int (2 : Int32)), .val (.int (0 : Int32)), .val (.double q2), .second] [(.double q2), (.int (0 : Int32)), (.ref ar)])) rfl rfl (hb hby d_method_5_13)
      have Zs64 := Nat.le_trans Zs62 (Keep.of_wr W64).1
      replace KK := KK.wr W64 (Or.inl (by simp))
      have Va : Arv Z h64 ar kc .double (4 : Int32) [(.double q2), (.double q1), (.double q0), (.double q3)] (.double (0 : UInt64)) := Arv.set Ar63 q63 Sz63 Ng63 Hs63 Gs63 rfl W64 0 rfl (Nat.le_of_ble_eq_true rfl)
      have N64 := Fr.snoc X64 N62 g_ar
      obtain ⟨fs, hr, hrun, hended, hW, hsame⟩ := X64.leave (v := none) (fun _ => rfl) hlk
      refine ⟨_, _, ?_, hrun, hended, _, _, rfl, ?_, ⟨_, rfl⟩, hW, hsame.mono (by decide) (by decide)⟩
      · refine hA0 _ ?_
        refine k0 _ ?_
        refine own_f_aloadN X0.here hx (hb hby d_method_5_0) rfl rfl (rfl : _ = 1) ?_
        refine own_f_iloadN X0.here hx (hb hby d_method_5_1) rfl (rfl : _ = 2) ?_
        refine X0.daload hx (j := (2 : Int32)) (v := (.double q2)) (by rw [e0]; exact Ar59.1) (State.isArrayOf_alike hZ.alike Ar59.2.1) Ar59.2.2 hin59 hat59 (g := (mkF m 2 #[.val (.ref ar), .val (.int (2 : Int32)), .val (.int (0 : Int32)), .unset, .unset] [(.int (2 : Int32)), (.ref ar)])) rfl rfl (hb hby d_method_5_2) _ ?_
        show Steps p.tables e below (s₁.setTop (mkF m 3 #[.val (.ref ar), .val (.int (2 : Int32)), .val (.int (0 : Int32)), .unset, .unset] [(.double q2)])) _
        refine own_f_dstoreN X0.here hx (hb hby d_method_5_3) (rfl : storeLocals _ _ _ = some #[.val (.ref ar), .val (.int (2 : Int32)), .val (.int (0 : Int32)), .val (.double q2), .second]) (rfl : _ = 4) ?_
        refine own_f_aloadN X0.here hx (hb hby d_method_5_4) rfl rfl (rfl : _ = 5) ?_
        refine own_f_iloadN X0.here hx (hb hby d_method_5_5) rfl (rfl : _ = 6) ?_
        refine own_f_aloadN X0.here hx (hb hby d_method_5_6) rfl rfl (rfl : _ = 7) ?_
        refine own_f_iloadN X0.here hx (hb hby d_method_5_7) rfl (rfl : _ = 8) ?_
        refine X0.daload hx (j := (0 : Int32)) (v := (.double q0)) (by rw [e0]; exact Ar60.1) (State.isArrayOf_alike hZ.alike Ar60.2.1) Ar60.2.2 hin60 hat60 (g := (mkF m 8 #[.val (.ref ar), .val (.int (2 : Int32)), .val (.int (0 : Int32)), .val (.double q2), .second] [(.int (0 : Int32)), (.ref ar), (.int (2 : Int32)), (.ref ar)])) rfl rfl (hb hby d_method_5_8) _ ?_
        show Steps p.tables e below (s₁.setTop (mkF m 9 #[.val (.ref ar), .val (.int (2 : Int32)), .val (.int (0 : Int32)), .val (.double q2), .second] [(.double q0), (.int (2 : Int32)), (.ref ar)])) _
        refine st62 _ ?_
        show Steps p.tables e below (T62.setTop (mkF m 10 #[.val (.ref ar), .val (.int (2 : Int32)), .val (.int (0 : Int32)), .val (.double q2), .second] [])) _
        refine own_f_aloadN X62.here hx (hb hby d_method_5_10) rfl rfl (rfl : _ = 11) ?_
        refine own_f_iloadN X62.here hx (hb hby d_method_5_11) rfl (rfl : _ = 12) ?_
        refine own_f_dloadN X62.here hx (hb hby d_method_5_12) rfl (rfl : _ = 13) ?_
        refine st64 _ ?_
        show Steps p.tables e below (T64.setTop (mkF m 14 #[.val (.ref ar), .val (.int (2 : Int32)), .val (.int (0 : Int32)), .val (.double q2), .second] [])) _
        exact X64.returnOut hx Bd.returns (hb hby d_method_5_14) hr
      · show Q6 Z ar _ _ kc q0 q1 q2 q3 h0 n0 _ T64.heap _
        rw [e64]
        exact ⟨q2, q1, q0, q3, rfl, N64, KK, Va, own_pm02⟩
    · obtain ⟨cl65, Ar65, -, Sz65, Ng65, Hs65, -⟩ := id Va
      have hin65 : ¬ ((2 : Int32) < 0 ∨ cl65.slots.size ≤ ((2 : Int32)).toNatClampNeg) := inb_of Sz65 ⟨by decide, by decide⟩
      have hat65 : cl65.slots[((2 : Int32)).toNatClampNeg]? = some (.double q2) := Hs65 _ (Nat.lt_of_not_le fun q => hin65 (Or.inr q))
      obtain ⟨cl66, Ar66, -, Sz66, Ng66, Hs66, -⟩ := id Va
      have hin66 : ¬ ((1 : Int32) < 0 ∨ cl66.slots.size ≤ ((1 : Int32)).toNatClampNeg) := inb_of Sz66 ⟨by decide, by decide⟩
      have hat66 : cl66.slots[((1 : Int32)).toNatClampNeg]? = some (.double q1) := Hs66 _ (Nat.lt_of_not_le fun q => hin66 (Or.inr q))
      obtain ⟨cl67, Ar67, q67, Sz67, Ng67, Hs67, Gs67⟩ := Va
      have hin67 : ¬ ((2 : Int32) < 0 ∨ cl67.slots.size ≤ ((2 : Int32)).toNatClampNeg) := inb_of Sz67 ⟨by decide, by decide⟩
      obtain ⟨T68, h68, X68, e68, W68, st68⟩ := stD X0 hx hZ e0 Ar67 (j := (2 : Int32)) hin67 (g := (mkF m 9 #[.val (.ref ar), .val (.int (2 : Int32)), .val (.int (1 : Int32)), .val (.double q2), .second] [(.double q1), (.int (2 : Int32)), (.ref ar)])) rfl rfl (hb hby d_method_5_9)
      have Zs68 := Nat.le_trans Z0 (Keep.of_wr W68).1
      replace KK := KK.wr W68 (Or.inl (by simp))
      have Va : Arv Z h68 ar kc .double (4 : Int32) [(.double q0), (.double q1), (.double q1), (.double q3)] (.double (0 : UInt64)) := Arv.set Ar67 q67 Sz67 Ng67 Hs67 Gs67 rfl W68 2 rfl (Nat.le_of_ble_eq_true rfl)
      have N68 := Fr.snoc X68 N0 g_ar
      obtain ⟨cl69, Ar69, q69, Sz69, Ng69, Hs69, Gs69⟩ := Va
      have hin69 : ¬ ((1 : Int32) < 0 ∨ cl69.slots.size ≤ ((1 : Int32)).toNatClampNeg) := inb_of Sz69 ⟨by decide, by decide⟩
      obtain ⟨T70, h70, X70, e70, W70, st70⟩ := stD X68 hx hZ e68 Ar69 (j := (1 : Int32)) hin69 (g := (mkF m 13 #[.val (.ref ar), .val (.int (2 : Int32)), .val (.int (1 : Int32)), .val (.double q2), .second] [(.double q2), (.int (1 : Int32)), (.ref ar)])) rfl rfl (hb hby d_method_5_13)
      have Zs70 := Nat.le_trans Zs68 (Keep.of_wr W70).1
      replace KK := KK.wr W70 (Or.inl (by simp))
      have Va : Arv Z h70 ar kc .double (4 : Int32) [(.double q0), (.double q2), (.double q1), (.double q3)] (.double (0 : UInt64)) := Arv.set Ar69 q69 Sz69 Ng69 Hs69 Gs69 rfl W70 1 rfl (Nat.le_of_ble_eq_true rfl)
      have N70 := Fr.snoc X70 N68 g_ar
      obtain ⟨fs, hr, hrun, hended, hW, hsame⟩ := X70.leave (v := none) (fun _ => rfl) hlk
      refine ⟨_, _, ?_, hrun, hended, _, _, rfl, ?_, ⟨_, rfl⟩, hW, hsame.mono (by decide) (by decide)⟩
      · refine hA0 _ ?_
        refine k0 _ ?_
        refine own_f_aloadN X0.here hx (hb hby d_method_5_0) rfl rfl (rfl : _ = 1) ?_
        refine own_f_iloadN X0.here hx (hb hby d_method_5_1) rfl (rfl : _ = 2) ?_
        refine X0.daload hx (j := (2 : Int32)) (v := (.double q2)) (by rw [e0]; exact Ar65.1) (State.isArrayOf_alike hZ.alike Ar65.2.1) Ar65.2.2 hin65 hat65 (g := (mkF m 2 #[.val (.ref ar), .val (.int (2 : Int32)), .val (.int (1 : Int32)), .unset, .unset] [(.int (2 : Int32)), (.ref ar)])) rfl rfl (hb hby d_method_5_2) _ ?_
        show Steps p.tables e below (s₁.setTop (mkF m 3 #[.val (.ref ar), .val (.int (2 : Int32)), .val (.int (1 : Int32)), .unset, .unset] [(.double q2)])) _
        refine own_f_dstoreN X0.here hx (hb hby d_method_5_3) (rfl : storeLocals _ _ _ = some #[.val (.ref ar), .val (.int (2 : Int32)), .val (.int (1 : Int32)), .val (.double q2), .second]) (rfl : _ = 4) ?_
        refine own_f_aloadN X0.here hx (hb hby d_method_5_4) rfl rfl (rfl : _ = 5) ?_
        refine own_f_iloadN X0.here hx (hb hby d_method_5_5) rfl (rfl : _ = 6) ?_
        refine own_f_aloadN X0.here hx (hb hby d_method_5_6) rfl rfl (rfl : _ = 7) ?_
        refine own_f_iloadN X0.here hx (hb hby d_method_5_7) rfl (rfl : _ = 8) ?_
        refine X0.daload hx (j := (1 : Int32)) (v := (.double q1)) (by rw [e0]; exact Ar66.1) (State.isArrayOf_alike hZ.alike Ar66.2.1) Ar66.2.2 hin66 hat66 (g := (mkF m 8 #[.val (.ref ar), .val (.int (2 : Int32)), .val (.int (1 : Int32)), .val (.double q2), .second] [(.int (1 : Int32)), (.ref ar), (.int (2 : Int32)), (.ref ar)])) rfl rfl (hb hby d_method_5_8) _ ?_
        show Steps p.tables e below (s₁.setTop (mkF m 9 #[.val (.ref ar), .val (.int (2 : Int32)), .val (.int (1 : Int32)), .val (.double q2), .second] [(.double q1), (.int (2 : Int32)), (.ref ar)])) _
        refine st68 _ ?_
        show Steps p.tables e below (T68.setTop (mkF m 10 #[.val (.ref ar), .val (.int (2 : Int32)), .val (.int (1 : Int32)), .val (.double q2), .second] [])) _
        refine own_f_aloadN X68.here hx (hb hby d_method_5_10) rfl rfl (rfl : _ = 11) ?_
        refine own_f_iloadN X68.here hx (hb hby d_method_5_11) rfl (rfl : _ = 12) ?_
        refine own_f_dloadN X68.here hx (hb hby d_method_5_12) rfl (rfl : _ = 13) ?_
        refine st70 _ ?_
        show Steps p.tables e below (T70.setTop (mkF m 14 #[.val (.ref ar), .val (.int (2 : Int32)), .val (.int (1 : Int32)), .val (.double q2), .second] [])) _
        exact X70.returnOut hx Bd.returns (hb hby d_method_5_14) hr
      · show Q6 Z ar _ _ kc q0 q1 q2 q3 h0 n0 _ T70.heap _
        rw [e70]
        exact ⟨q0, q2, q1, q3, rfl, N70, KK, Va, own_pm12⟩
    · obtain ⟨cl71, Ar71, -, Sz71, Ng71, Hs71, -⟩ := id Va
      have hin71 : ¬ ((2 : Int32) < 0 ∨ cl71.slots.size ≤ ((2 : Int32)).toNatClampNeg) := inb_of Sz71 ⟨by decide, by decide⟩
      have hat71 : cl71.slots[((2 : Int32)).toNatClampNeg]? = some (.double q2) := Hs71 _ (Nat.lt_of_not_le fun q => hin71 (Or.inr q))
      obtain ⟨cl72, Ar72, -, Sz72, Ng72, Hs72, -⟩ := id Va
      have hin72 : ¬ ((2 : Int32) < 0 ∨ cl72.slots.size ≤ ((2 : Int32)).toNatClampNeg) := inb_of Sz72 ⟨by decide, by decide⟩
      have hat72 : cl72.slots[((2 : Int32)).toNatClampNeg]? = some (.double q2) := Hs72 _ (Nat.lt_of_not_le fun q => hin72 (Or.inr q))
      obtain ⟨cl73, Ar73, q73, Sz73, Ng73, Hs73, Gs73⟩ := Va
      have hin73 : ¬ ((2 : Int32) < 0 ∨ cl73.slots.size ≤ ((2 : Int32)).toNatClampNeg) := inb_of Sz73 ⟨by decide, by decide⟩
      obtain ⟨T74, h74, X74, e74, W74, st74⟩ := stD X0 hx hZ e0 Ar73 (j := (2 : Int32)) hin73 (g := (mkF m 9 #[.val (.ref ar), .val (.int (2 : Int32)), .val (.int (2 : Int32)), .val (.double q2), .second] [(.double q2), (.int (2 : Int32)), (.ref ar)])) rfl rfl (hb hby d_method_5_9)
      have Zs74 := Nat.le_trans Z0 (Keep.of_wr W74).1
      replace KK := KK.wr W74 (Or.inl (by simp))
      have Va : Arv Z h74 ar kc .double (4 : Int32) [(.double q0), (.double q1), (.double q2), (.double q3)] (.double (0 : UInt64)) := Arv.set Ar73 q73 Sz73 Ng73 Hs73 Gs73 rfl W74 2 rfl (Nat.le_of_ble_eq_true rfl)
      have N74 := Fr.snoc X74 N0 g_ar
      obtain ⟨cl75, Ar75, q75, Sz75, Ng75, Hs75, Gs75⟩ := Va
      have hin75 : ¬ ((2 : Int32) < 0 ∨ cl75.slots.size ≤ ((2 : Int32)).toNatClampNeg) := inb_of Sz75 ⟨by decide, by decide⟩
      obtain ⟨T76, h76, X76, e76, W76, st76⟩ := stD X74 hx hZ e74 Ar75 (j := (2 : Int32)) hin75 (g := (mkF m 13 #[.val (.ref ar), .val (.int (2 : Int32)), .val (.int (2 : Int32)), .val (.double q2), .second] [(.double q2), (.int (2 : Int32)), (.ref ar)])) rfl rfl (hb hby d_method_5_13)
      have Zs76 := Nat.le_trans Zs74 (Keep.of_wr W76).1
      replace KK := KK.wr W76 (Or.inl (by simp))
      have Va : Arv Z h76 ar kc .double (4 : Int32) [(.double q0), (.double q1), (.double q2), (.double q3)] (.double (0 : UInt64)) := Arv.set Ar75 q75 Sz75 Ng75 Hs75 Gs75 rfl W76 2 rfl (Nat.le_of_ble_eq_true rfl)
      have N76 := Fr.snoc X76 N74 g_ar
      obtain ⟨fs, hr, hrun, hended, hW, hsame⟩ := X76.leave (v := none) (fun _ => rfl) hlk
      refine ⟨_, _, ?_, hrun, hended, _, _, rfl, ?_, ⟨_, rfl⟩, hW, hsame.mono (by decide) (by decide)⟩
      · refine hA0 _ ?_
        refine k0 _ ?_
        refine own_f_aloadN X0.here hx (hb hby d_method_5_0) rfl rfl (rfl : _ = 1) ?_
        refine own_f_iloadN X0.here hx (hb hby d_method_5_1) rfl (rfl : _ = 2) ?_
        refine X0.daload hx (j := (2 : Int32)) (v := (.double q2)) (by rw [e0]; exact Ar71.1) (State.isArrayOf_alike hZ.alike Ar71.2.1) Ar71.2.2 hin71 hat71 (g := (mkF m 2 #[.val (.ref ar), .val (.int (2 : Int32)), .val (.int (2 : Int32)), .unset, .unset] [(.int (2 : Int32)), (.ref ar)])) rfl rfl (hb hby d_method_5_2) _ ?_
        show Steps p.tables e below (s₁.setTop (mkF m 3 #[.val (.ref ar), .val (.int (2 : Int32)), .val (.int (2 : Int32)), .unset, .unset] [(.double q2)])) _
        refine own_f_dstoreN X0.here hx (hb hby d_method_5_3) (rfl : storeLocals _ _ _ = some #[.val (.ref ar), .val (.int (2 : Int32)), .val (.int (2 : Int32)), .val (.double q2), .second]) (rfl : _ = 4) ?_
        refine own_f_aloadN X0.here hx (hb hby d_method_5_4) rfl rfl (rfl : _ = 5) ?_
        refine own_f_iloadN X0.here hx (hb hby d_method_5_5) rfl (rfl : _ = 6) ?_
        refine own_f_aloadN X0.here hx (hb hby d_method_5_6) rfl rfl (rfl : _ = 7) ?_
        refine own_f_iloadN X0.here hx (hb hby d_method_5_7) rfl (rfl : _ = 8) ?_
        refine X0.daload hx (j := (2 : Int32)) (v := (.double q2)) (by rw [e0]; exact Ar72.1) (State.isArrayOf_alike hZ.alike Ar72.2.1) Ar72.2.2 hin72 hat72 (g := (mkF m 8 #[.val (.ref ar), .val (.int (2 : Int32)), .val (.int (2 : Int32)), .val (.double q2), .second] [(.int (2 : Int32)), (.ref ar), (.int (2 : Int32)), (.ref ar)])) rfl rfl (hb hby d_method_5_8) _ ?_
        show Steps p.tables e below (s₁.setTop (mkF m 9 #[.val (.ref ar), .val (.int (2 : Int32)), .val (.int (2 : Int32)), .val (.double q2), .second] [(.double q2), (.int (2 : Int32)), (.ref ar)])) _
        refine st74 _ ?_
        show Steps p.tables e below (T74.setTop (mkF m 10 #[.val (.ref ar), .val (.int (2 : Int32)), .val (.int (2 : Int32)), .val (.double q2), .second] [])) _
        refine own_f_aloadN X74.here hx (hb hby d_method_5_10) rfl rfl (rfl : _ = 11) ?_
        refine own_f_iloadN X74.here hx (hb hby d_method_5_11) rfl (rfl : _ = 12) ?_
        refine own_f_dloadN X74.here hx (hb hby d_method_5_12) rfl (rfl : _ = 13) ?_
        refine st76 _ ?_
        show Steps p.tables e below (T76.setTop (mkF m 14 #[.val (.ref ar), .val (.int (2 : Int32)), .val (.int (2 : Int32)), .val (.double q2), .second] [])) _
        exact X76.returnOut hx Bd.returns (hb hby d_method_5_14) hr
      · show Q6 Z ar _ _ kc q0 q1 q2 q3 h0 n0 _ T76.heap _
        rw [e76]
        exact ⟨q0, q1, q2, q3, rfl, N76, KK, Va, own_pmr⟩
    · obtain ⟨cl77, Ar77, -, Sz77, Ng77, Hs77, -⟩ := id Va
      have hin77 : ¬ ((2 : Int32) < 0 ∨ cl77.slots.size ≤ ((2 : Int32)).toNatClampNeg) := inb_of Sz77 ⟨by decide, by decide⟩
      have hat77 : cl77.slots[((2 : Int32)).toNatClampNeg]? = some (.double q2) := Hs77 _ (Nat.lt_of_not_le fun q => hin77 (Or.inr q))
      obtain ⟨cl78, Ar78, -, Sz78, Ng78, Hs78, -⟩ := id Va
      have hin78 : ¬ ((3 : Int32) < 0 ∨ cl78.slots.size ≤ ((3 : Int32)).toNatClampNeg) := inb_of Sz78 ⟨by decide, by decide⟩
      have hat78 : cl78.slots[((3 : Int32)).toNatClampNeg]? = some (.double q3) := Hs78 _ (Nat.lt_of_not_le fun q => hin78 (Or.inr q))
      obtain ⟨cl79, Ar79, q79, Sz79, Ng79, Hs79, Gs79⟩ := Va
      have hin79 : ¬ ((2 : Int32) < 0 ∨ cl79.slots.size ≤ ((2 : Int32)).toNatClampNeg) := inb_of Sz79 ⟨by decide, by decide⟩
      obtain ⟨T80, h80, X80, e80, W80, st80⟩ := stD X0 hx hZ e0 Ar79 (j := (2 : Int32)) hin79 (g := (mkF m 9 #[.val (.ref ar), .val (.int (2 : Int32)), .val (.int (3 : Int32)), .val (.double q2), .second] [(.double q3), (.int (2 : Int32)), (.ref ar)])) rfl rfl (hb hby d_method_5_9)
      have Zs80 := Nat.le_trans Z0 (Keep.of_wr W80).1
      replace KK := KK.wr W80 (Or.inl (by simp))
      have Va : Arv Z h80 ar kc .double (4 : Int32) [(.double q0), (.double q1), (.double q3), (.double q3)] (.double (0 : UInt64)) := Arv.set Ar79 q79 Sz79 Ng79 Hs79 Gs79 rfl W80 2 rfl (Nat.le_of_ble_eq_true rfl)
      have N80 := Fr.snoc X80 N0 g_ar
      obtain ⟨cl81, Ar81, q81, Sz81, Ng81, Hs81, Gs81⟩ := Va
      have hin81 : ¬ ((3 : Int32) < 0 ∨ cl81.slots.size ≤ ((3 : Int32)).toNatClampNeg) := inb_of Sz81 ⟨by decide, by decide⟩
      obtain ⟨T82, h82, X82, e82, W82, st82⟩ := stD X80 hx hZ e80 Ar81 (j := (3 : Int32)) hin81 (g := (mkF m 13 #[.val (.ref ar), .val (.int (2 : Int32)), .val (.int (3 : Int32)), .val (.double q2), .second] [(.double q2), (.int (3 : Int32)), (.ref ar)])) rfl rfl (hb hby d_method_5_13)
      have Zs82 := Nat.le_trans Zs80 (Keep.of_wr W82).1
      replace KK := KK.wr W82 (Or.inl (by simp))
      have Va : Arv Z h82 ar kc .double (4 : Int32) [(.double q0), (.double q1), (.double q3), (.double q2)] (.double (0 : UInt64)) := Arv.set Ar81 q81 Sz81 Ng81 Hs81 Gs81 rfl W82 3 rfl (Nat.le_of_ble_eq_true rfl)
      have N82 := Fr.snoc X82 N80 g_ar
      obtain ⟨fs, hr, hrun, hended, hW, hsame⟩ := X82.leave (v := none) (fun _ => rfl) hlk
      refine ⟨_, _, ?_, hrun, hended, _, _, rfl, ?_, ⟨_, rfl⟩, hW, hsame.mono (by decide) (by decide)⟩
      · refine hA0 _ ?_
        refine k0 _ ?_
        refine own_f_aloadN X0.here hx (hb hby d_method_5_0) rfl rfl (rfl : _ = 1) ?_
        refine own_f_iloadN X0.here hx (hb hby d_method_5_1) rfl (rfl : _ = 2) ?_
        refine X0.daload hx (j := (2 : Int32)) (v := (.double q2)) (by rw [e0]; exact Ar77.1) (State.isArrayOf_alike hZ.alike Ar77.2.1) Ar77.2.2 hin77 hat77 (g := (mkF m 2 #[.val (.ref ar), .val (.int (2 : Int32)), .val (.int (3 : Int32)), .unset, .unset] [(.int (2 : Int32)), (.ref ar)])) rfl rfl (hb hby d_method_5_2) _ ?_
        show Steps p.tables e below (s₁.setTop (mkF m 3 #[.val (.ref ar), .val (.int (2 : Int32)), .val (.int (3 : Int32)), .unset, .unset] [(.double q2)])) _
        refine own_f_dstoreN X0.here hx (hb hby d_method_5_3) (rfl : storeLocals _ _ _ = some #[.val (.ref ar), .val (.int (2 : Int32)), .val (.int (3 : Int32)), .val (.double q2), .second]) (rfl : _ = 4) ?_
        refine own_f_aloadN X0.here hx (hb hby d_method_5_4) rfl rfl (rfl : _ = 5) ?_
        refine own_f_iloadN X0.here hx (hb hby d_method_5_5) rfl (rfl : _ = 6) ?_
        refine own_f_aloadN X0.here hx (hb hby d_method_5_6) rfl rfl (rfl : _ = 7) ?_
        refine own_f_iloadN X0.here hx (hb hby d_method_5_7) rfl (rfl : _ = 8) ?_
        refine X0.daload hx (j := (3 : Int32)) (v := (.double q3)) (by rw [e0]; exact Ar78.1) (State.isArrayOf_alike hZ.alike Ar78.2.1) Ar78.2.2 hin78 hat78 (g := (mkF m 8 #[.val (.ref ar), .val (.int (2 : Int32)), .val (.int (3 : Int32)), .val (.double q2), .second] [(.int (3 : Int32)), (.ref ar), (.int (2 : Int32)), (.ref ar)])) rfl rfl (hb hby d_method_5_8) _ ?_
        show Steps p.tables e below (s₁.setTop (mkF m 9 #[.val (.ref ar), .val (.int (2 : Int32)), .val (.int (3 : Int32)), .val (.double q2), .second] [(.double q3), (.int (2 : Int32)), (.ref ar)])) _
        refine st80 _ ?_
        show Steps p.tables e below (T80.setTop (mkF m 10 #[.val (.ref ar), .val (.int (2 : Int32)), .val (.int (3 : Int32)), .val (.double q2), .second] [])) _
        refine own_f_aloadN X80.here hx (hb hby d_method_5_10) rfl rfl (rfl : _ = 11) ?_
        refine own_f_iloadN X80.here hx (hb hby d_method_5_11) rfl (rfl : _ = 12) ?_
        refine own_f_dloadN X80.here hx (hb hby d_method_5_12) rfl (rfl : _ = 13) ?_
        refine st82 _ ?_
        show Steps p.tables e below (T82.setTop (mkF m 14 #[.val (.ref ar), .val (.int (2 : Int32)), .val (.int (3 : Int32)), .val (.double q2), .second] [])) _
        exact X82.returnOut hx Bd.returns (hb hby d_method_5_14) hr
      · show Q6 Z ar _ _ kc q0 q1 q2 q3 h0 n0 _ T82.heap _
        rw [e82]
        exact ⟨q0, q1, q3, q2, rfl, N82, KK, Va, own_pm23⟩
  · rcases hj with rfl | rfl | rfl | rfl
    · obtain ⟨cl83, Ar83, -, Sz83, Ng83, Hs83, -⟩ := id Va
      have hin83 : ¬ ((3 : Int32) < 0 ∨ cl83.slots.size ≤ ((3 : Int32)).toNatClampNeg) := inb_of Sz83 ⟨by decide, by decide⟩
      have hat83 : cl83.slots[((3 : Int32)).toNatClampNeg]? = some (.double q3) := Hs83 _ (Nat.lt_of_not_le fun q => hin83 (Or.inr q))
      obtain ⟨cl84, Ar84, -, Sz84, Ng84, Hs84, -⟩ := id Va
      have hin84 : ¬ ((0 : Int32) < 0 ∨ cl84.slots.size ≤ ((0 : Int32)).toNatClampNeg) := inb_of Sz84 ⟨by decide, by decide⟩
      have hat84 : cl84.slots[((0 : Int32)).toNatClampNeg]? = some (.double q0) := Hs84 _ (Nat.lt_of_not_le fun q => hin84 (Or.inr q))
      obtain ⟨cl85, Ar85, q85, Sz85, Ng85, Hs85, Gs85⟩ := Va
      have hin85 : ¬ ((3 : Int32) < 0 ∨ cl85.slots.size ≤ ((3 : Int32)).toNatClampNeg) := inb_of Sz85 ⟨by decide, by decide⟩
      obtain ⟨T86, h86, X86, e86, W86, st86⟩ := stD X0 hx hZ e0 Ar85 (j := (3 : Int32)) hin85 (g := (mkF m 9 #[.val (.ref ar), .val (.int (3 : Int32)), .val (.int (0 : Int32)), .val (.double q3), .second] [(.double q0), (.int (3 : Int32)), (.ref ar)])) rfl rfl (hb hby d_method_5_9)
      have Zs86 := Nat.le_trans Z0 (Keep.of_wr W86).1
      replace KK := KK.wr W86 (Or.inl (by simp))
      have Va : Arv Z h86 ar kc .double (4 : Int32) [(.double q0), (.double q1), (.double q2), (.double q0)] (.double (0 : UInt64)) := Arv.set Ar85 q85 Sz85 Ng85 Hs85 Gs85 rfl W86 3 rfl (Nat.le_of_ble_eq_true rfl)
      have N86 := Fr.snoc X86 N0 g_ar
      obtain ⟨cl87, Ar87, q87, Sz87, Ng87, Hs87, Gs87⟩ := Va
      have hin87 : ¬ ((0 : Int32) < 0 ∨ cl87.slots.size ≤ ((0 : Int32)).toNatClampNeg) := inb_of Sz87 ⟨by decide, by decide⟩
      obtain ⟨T88, h88, X88, e88, W88, st88⟩ := stD X86 hx hZ e86 Ar87 (j := (0 : Int32)) hin87 (g := (mkF m 13 #[.val (.ref ar), .val (.int (3 : Int32)), .val (.int (0 : Int32)), .val (.double q3), .second] [(.double q3), (.int (0 : Int32)), (.ref ar)])) rfl rfl (hb hby d_method_5_13)
      have Zs88 := Nat.le_trans Zs86 (Keep.of_wr W88).1
      replace KK := KK.wr W88 (Or.inl (by simp))
      have Va : Arv Z h88 ar kc .double (4 : Int32) [(.double q3), (.double q1), (.double q2), (.double q0)] (.double (0 : UInt64)) := Arv.set Ar87 q87 Sz87 Ng87 Hs87 Gs87 rfl W88 0 rfl (Nat.le_of_ble_eq_true rfl)
      have N88 := Fr.snoc X88 N86 g_ar
      obtain ⟨fs, hr, hrun, hended, hW, hsame⟩ := X88.leave (v := none) (fun _ => rfl) hlk
      refine ⟨_, _, ?_, hrun, hended, _, _, rfl, ?_, ⟨_, rfl⟩, hW, hsame.mono (by decide) (by decide)⟩
      · refine hA0 _ ?_
        refine k0 _ ?_
        refine own_f_aloadN X0.here hx (hb hby d_method_5_0) rfl rfl (rfl : _ = 1) ?_
        refine own_f_iloadN X0.here hx (hb hby d_method_5_1) rfl (rfl : _ = 2) ?_
        refine X0.daload hx (j := (3 : Int32)) (v := (.double q3)) (by rw [e0]; exact Ar83.1) (State.isArrayOf_alike hZ.alike Ar83.2.1) Ar83.2.2 hin83 hat83 (g := (mkF m 2 #[.val (.ref ar), .val (.int (3 : Int32)), .val (.int (0 : Int32)), .unset, .unset] [(.int (3 : Int32)), (.ref ar)])) rfl rfl (hb hby d_method_5_2) _ ?_
        show Steps p.tables e below (s₁.setTop (mkF m 3 #[.val (.ref ar), .val (.int (3 : Int32)), .val (.int (0 : Int32)), .unset, .unset] [(.double q3)])) _
        refine own_f_dstoreN X0.here hx (hb hby d_method_5_3) (rfl : storeLocals _ _ _ = some #[.val (.ref ar), .val (.int (3 : Int32)), .val (.int (0 : Int32)), .val (.double q3), .second]) (rfl : _ = 4) ?_
        refine own_f_aloadN X0.here hx (hb hby d_method_5_4) rfl rfl (rfl : _ = 5) ?_
        refine own_f_iloadN X0.here hx (hb hby d_method_5_5) rfl (rfl : _ = 6) ?_
        refine own_f_aloadN X0.here hx (hb hby d_method_5_6) rfl rfl (rfl : _ = 7) ?_
        refine own_f_iloadN X0.here hx (hb hby d_method_5_7) rfl (rfl : _ = 8) ?_
        refine X0.daload hx (j := (0 : Int32)) (v := (.double q0)) (by rw [e0]; exact Ar84.1) (State.isArrayOf_alike hZ.alike Ar84.2.1) Ar84.2.2 hin84 hat84 (g := (mkF m 8 #[.val (.ref ar), .val (.int (3 : Int32)), .val (.int (0 : Int32)), .val (.double q3), .second] [(.int (0 : Int32)), (.ref ar), (.int (3 : Int32)), (.ref ar)])) rfl rfl (hb hby d_method_5_8) _ ?_
        show Steps p.tables e below (s₁.setTop (mkF m 9 #[.val (.ref ar), .val (.int (3 : Int32)), .val (.int (0 : Int32)), .val (.double q3), .second] [(.double q0), (.int (3 : Int32)), (.ref ar)])) _
        refine st86 _ ?_
        show Steps p.tables e below (T86.setTop (mkF m 10 #[.val (.ref ar), .val (.int (3 : Int32)), .val (.int (0 : Int32)), .val (.double q3), .second] [])) _
        refine own_f_aloadN X86.here hx (hb hby d_method_5_10) rfl rfl (rfl : _ = 11) ?_
        refine own_f_iloadN X86.here hx (hb hby d_method_5_11) rfl (rfl : _ = 12) ?_
        refine own_f_dloadN X86.here hx (hb hby d_method_5_12) rfl (rfl : _ = 13) ?_
        refine st88 _ ?_
        show Steps p.tables e below (T88.setTop (mkF m 14 #[.val (.ref ar), .val (.int (3 : Int32)), .val (.int (0 : Int32)), .val (.double q3), .second] [])) _
        exact X88.returnOut hx Bd.returns (hb hby d_method_5_14) hr
      · show Q6 Z ar _ _ kc q0 q1 q2 q3 h0 n0 _ T88.heap _
        rw [e88]
        exact ⟨q3, q1, q2, q0, rfl, N88, KK, Va, own_pm03⟩
    · obtain ⟨cl89, Ar89, -, Sz89, Ng89, Hs89, -⟩ := id Va
      have hin89 : ¬ ((3 : Int32) < 0 ∨ cl89.slots.size ≤ ((3 : Int32)).toNatClampNeg) := inb_of Sz89 ⟨by decide, by decide⟩
      have hat89 : cl89.slots[((3 : Int32)).toNatClampNeg]? = some (.double q3) := Hs89 _ (Nat.lt_of_not_le fun q => hin89 (Or.inr q))
      obtain ⟨cl90, Ar90, -, Sz90, Ng90, Hs90, -⟩ := id Va
      have hin90 : ¬ ((1 : Int32) < 0 ∨ cl90.slots.size ≤ ((1 : Int32)).toNatClampNeg) := inb_of Sz90 ⟨by decide, by decide⟩
      have hat90 : cl90.slots[((1 : Int32)).toNatClampNeg]? = some (.double q1) := Hs90 _ (Nat.lt_of_not_le fun q => hin90 (Or.inr q))
      obtain ⟨cl91, Ar91, q91, Sz91, Ng91, Hs91, Gs91⟩ := Va
      have hin91 : ¬ ((3 : Int32) < 0 ∨ cl91.slots.size ≤ ((3 : Int32)).toNatClampNeg) := inb_of Sz91 ⟨by decide, by decide⟩
      obtain ⟨T92, h92, X92, e92, W92, st92⟩ := stD X0 hx hZ e0 Ar91 (j := (3 : Int32)) hin91 (g := (mkF m 9 #[.val (.ref ar), .val (.int (3 : Int32)), .val (.int (1 : Int32)), .val (.double q3), .second] [(.double q1), (.int (3 : Int32)), (.ref ar)])) rfl rfl (hb hby d_method_5_9)
      have Zs92 := Nat.le_trans Z0 (Keep.of_wr W92).1
      replace KK := KK.wr W92 (Or.inl (by simp))
      have Va : Arv Z h92 ar kc .double (4 : Int32) [(.double q0), (.double q1), (.double q2), (.double q1)] (.double (0 : UInt64)) := Arv.set Ar91 q91 Sz91 Ng91 Hs91 Gs91 rfl W92 3 rfl (Nat.le_of_ble_eq_true rfl)
      have N92 := Fr.snoc X92 N0 g_ar
      obtain ⟨cl93, Ar93, q93, Sz93, Ng93, Hs93, Gs93⟩ := Va
      have hin93 : ¬ ((1 : Int32) < 0 ∨ cl93.slots.size ≤ ((1 : Int32)).toNatClampNeg) := inb_of Sz93 ⟨by decide, by decide⟩
      obtain ⟨T94, h94, X94, e94, W94, st94⟩ := stD X92 hx hZ e92 Ar93 (j := (1 : Int32)) hin93 (g := (mkF m 13 #[.val (.ref ar), .val (.int (3 : Int32)), .val (.int (1 : Int32)), .val (.double q3), .second] [(.double q3), (.int (1 : Int32)), (.ref ar)])) rfl rfl (hb hby d_method_5_13)
      have Zs94 := Nat.le_trans Zs92 (Keep.of_wr W94).1
      replace KK := KK.wr W94 (Or.inl (by simp))
      have Va : Arv Z h94 ar kc .double (4 : Int32) [(.double q0), (.double q3), (.double q2), (.double q1)] (.double (0 : UInt64)) := Arv.set Ar93 q93 Sz93 Ng93 Hs93 Gs93 rfl W94 1 rfl (Nat.le_of_ble_eq_true rfl)
      have N94 := Fr.snoc X94 N92 g_ar
      obtain ⟨fs, hr, hrun, hended, hW, hsame⟩ := X94.leave (v := none) (fun _ => rfl) hlk
      refine ⟨_, _, ?_, hrun, hended, _, _, rfl, ?_, ⟨_, rfl⟩, hW, hsame.mono (by decide) (by decide)⟩
      · refine hA0 _ ?_
        refine k0 _ ?_
        refine own_f_aloadN X0.here hx (hb hby d_method_5_0) rfl rfl (rfl : _ = 1) ?_
        refine own_f_iloadN X0.here hx (hb hby d_method_5_1) rfl (rfl : _ = 2) ?_
        refine X0.daload hx (j := (3 : Int32)) (v := (.double q3)) (by rw [e0]; exact Ar89.1) (State.isArrayOf_alike hZ.alike Ar89.2.1) Ar89.2.2 hin89 hat89 (g := (mkF m 2 #[.val (.ref ar), .val (.int (3 : Int32)), .val (.int (1 : Int32)), .unset, .unset] [(.int (3 : Int32)), (.ref ar)])) rfl rfl (hb hby d_method_5_2) _ ?_
        show Steps p.tables e below (s₁.setTop (mkF m 3 #[.val (.ref ar), .val (.int (3 : Int32)), .val (.int (1 : Int32)), .unset, .unset] [(.double q3)])) _
        refine own_f_dstoreN X0.here hx (hb hby d_method_5_3) (rfl : storeLocals _ _ _ = some #[.val (.ref ar), .val (.int (3 : Int32)), .val (.int (1 : Int32)), .val (.double q3), .second]) (rfl : _ = 4) ?_
        refine own_f_aloadN X0.here hx (hb hby d_method_5_4) rfl rfl (rfl : _ = 5) ?_
        refine own_f_iloadN X0.here hx (hb hby d_method_5_5) rfl (rfl : _ = 6) ?_
        refine own_f_aloadN X0.here hx (hb hby d_method_5_6) rfl rfl (rfl : _ = 7) ?_
        refine own_f_iloadN X0.here hx (hb hby d_method_5_7) rfl (rfl : _ = 8) ?_
        refine X0.daload hx (j := (1 : Int32)) (v := (.double q1)) (by rw [e0]; exact Ar90.1) (State.isArrayOf_alike hZ.alike Ar90.2.1) Ar90.2.2 hin90 hat90 (g := (mkF m 8 #[.val (.ref ar), .val (.int (3 : Int32)), .val (.int (1 : Int32)), .val (.double q3), .second] [(.int (1 : Int32)), (.ref ar), (.int (3 : Int32)), (.ref ar)])) rfl rfl (hb hby d_method_5_8) _ ?_
        show Steps p.tables e below (s₁.setTop (mkF m 9 #[.val (.ref ar), .val (.int (3 : Int32)), .val (.int (1 : Int32)), .val (.double q3), .second] [(.double q1), (.int (3 : Int32)), (.ref ar)])) _
        refine st92 _ ?_
        show Steps p.tables e below (T92.setTop (mkF m 10 #[.val (.ref ar), .val (.int (3 : Int32)), .val (.int (1 : Int32)), .val (.double q3), .second] [])) _
        refine own_f_aloadN X92.here hx (hb hby d_method_5_10) rfl rfl (rfl : _ = 11) ?_
        refine own_f_iloadN X92.here hx (hb hby d_method_5_11) rfl (rfl : _ = 12) ?_
        refine own_f_dloadN X92.here hx (hb hby d_method_5_12) rfl (rfl : _ = 13) ?_
        refine st94 _ ?_
        show Steps p.tables e below (T94.setTop (mkF m 14 #[.val (.ref ar), .val (.int (3 : Int32)), .val (.int (1 : Int32)), .val (.double q3), .second] [])) _
        exact X94.returnOut hx Bd.returns (hb hby d_method_5_14) hr
      · show Q6 Z ar _ _ kc q0 q1 q2 q3 h0 n0 _ T94.heap _
        rw [e94]
        exact ⟨q0, q3, q2, q1, rfl, N94, KK, Va, own_pm13⟩
    · obtain ⟨cl95, Ar95, -, Sz95, Ng95, Hs95, -⟩ := id Va
      have hin95 : ¬ ((3 : Int32) < 0 ∨ cl95.slots.size ≤ ((3 : Int32)).toNatClampNeg) := inb_of Sz95 ⟨by decide, by decide⟩
      have hat95 : cl95.slots[((3 : Int32)).toNatClampNeg]? = some (.double q3) := Hs95 _ (Nat.lt_of_not_le fun q => hin95 (Or.inr q))
      obtain ⟨cl96, Ar96, -, Sz96, Ng96, Hs96, -⟩ := id Va
      have hin96 : ¬ ((2 : Int32) < 0 ∨ cl96.slots.size ≤ ((2 : Int32)).toNatClampNeg) := inb_of Sz96 ⟨by decide, by decide⟩
      have hat96 : cl96.slots[((2 : Int32)).toNatClampNeg]? = some (.double q2) := Hs96 _ (Nat.lt_of_not_le fun q => hin96 (Or.inr q))
      obtain ⟨cl97, Ar97, q97, Sz97, Ng97, Hs97, Gs97⟩ := Va
      have hin97 : ¬ ((3 : Int32) < 0 ∨ cl97.slots.size ≤ ((3 : Int32)).toNatClampNeg) := inb_of Sz97 ⟨by decide, by decide⟩
      obtain ⟨T98, h98, X98, e98, W98, st98⟩ := stD X0 hx hZ e0 Ar97 (j := (3 : Int32)) hin97 (g := (mkF m 9 #[.val (.ref ar), .val (.int (3 : Int32)), .val (.int (2 : Int32)), .val (.double q3), .second] [(.double q2), (.int (3 : Int32)), (.ref ar)])) rfl rfl (hb hby d_method_5_9)
      have Zs98 := Nat.le_trans Z0 (Keep.of_wr W98).1
      replace KK := KK.wr W98 (Or.inl (by simp))
      have Va : Arv Z h98 ar kc .double (4 : Int32) [(.double q0), (.double q1), (.double q2), (.double q2)] (.double (0 : UInt64)) := Arv.set Ar97 q97 Sz97 Ng97 Hs97 Gs97 rfl W98 3 rfl (Nat.le_of_ble_eq_true rfl)
      have N98 := Fr.snoc X98 N0 g_ar
      obtain ⟨cl99, Ar99, q99, Sz99, Ng99, Hs99, Gs99⟩ := Va
      have hin99 : ¬ ((2 : Int32) < 0 ∨ cl99.slots.size ≤ ((2 : Int32)).toNatClampNeg) := inb_of Sz99 ⟨by decide, by decide⟩
      obtain ⟨T100, h100, X100, e100, W100, st100⟩ := stD X98 hx hZ e98 Ar99 (j := (2 : Int32)) hin99 (g := (mkF m 13 #[.val (.ref ar), .val (.int (3 : Int32)), .val (.int (2 : Int32)), .val (.double q3), .second] [(.double q3), (.int (2 : Int32)), (.ref ar)])) rfl rfl (hb hby d_method_5_13)
      have Zs100 := Nat.le_trans Zs98 (Keep.of_wr W100).1
      replace KK := KK.wr W100 (Or.inl (by simp))
      have Va : Arv Z h100 ar kc .double (4 : Int32) [(.double q0), (.double q1), (.double q3), (.double q2)] (.double (0 : UInt64)) := Arv.set Ar99 q99 Sz99 Ng99 Hs99 Gs99 rfl W100 2 rfl (Nat.le_of_ble_eq_true rfl)
      have N100 := Fr.snoc X100 N98 g_ar
      obtain ⟨fs, hr, hrun, hended, hW, hsame⟩ := X100.leave (v := none) (fun _ => rfl) hlk
      refine ⟨_, _, ?_, hrun, hended, _, _, rfl, ?_, ⟨_, rfl⟩, hW, hsame.mono (by decide) (by decide)⟩
      · refine hA0 _ ?_
        refine k0 _ ?_
        refine own_f_aloadN X0.here hx (hb hby d_method_5_0) rfl rfl (rfl : _ = 1) ?_
        refine own_f_iloadN X0.here hx (hb hby d_method_5_1) rfl (rfl : _ = 2) ?_
        refine X0.daload hx (j := (3 : Int32)) (v := (.double q3)) (by rw [e0]; exact Ar95.1) (State.isArrayOf_alike hZ.alike Ar95.2.1) Ar95.2.2 hin95 hat95 (g := (mkF m 2 #[.val (.ref ar), .val (.int (3 : Int32)), .val (.int (2 : Int32)), .unset, .unset] [(.int (3 : Int32)), (.ref ar)])) rfl rfl (hb hby d_method_5_2) _ ?_
        show Steps p.tables e below (s₁.setTop (mkF m 3 #[.val (.ref ar), .val (.int (3 : Int32)), .val (.int (2 : Int32)), .unset, .unset] [(.double q3)])) _
        refine own_f_dstoreN X0.here hx (hb hby d_method_5_3) (rfl : storeLocals _ _ _ = some #[.val (.ref ar), .val (.int (3 : Int32)), .val (.int (2 : Int32)), .val (.double q3), .second]) (rfl : _ = 4) ?_
        refine own_f_aloadN X0.here hx (hb hby d_method_5_4) rfl rfl (rfl : _ = 5) ?_
        refine own_f_iloadN X0.here hx (hb hby d_method_5_5) rfl (rfl : _ = 6) ?_
        refine own_f_aloadN X0.here hx (hb hby d_method_5_6) rfl rfl (rfl : _ = 7) ?_
        refine own_f_iloadN X0.here hx (hb hby d_method_5_7) rfl (rfl : _ = 8) ?_
        refine X0.daload hx (j := (2 : Int32)) (v := (.double q2)) (by rw [e0]; exact Ar96.1) (State.isArrayOf_alike hZ.alike Ar96.2.1) Ar96.2.2 hin96 hat96 (g := (mkF m 8 #[.val (.ref ar), .val (.int (3 : Int32)), .val (.int (2 : Int32)), .val (.double q3), .second] [(.int (2 : Int32)), (.ref ar), (.int (3 : Int32)), (.ref ar)])) rfl rfl (hb hby d_method_5_8) _ ?_
        show Steps p.tables e below (s₁.setTop (mkF m 9 #[.val (.ref ar), .val (.int (3 : Int32)), .val (.int (2 : Int32)), .val (.double q3), .second] [(.double q2), (.int (3 : Int32)), (.ref ar)])) _
        refine st98 _ ?_
        show Steps p.tables e below (T98.setTop (mkF m 10 #[.val (.ref ar), .val (.int (3 : Int32)), .val (.int (2 : Int32)), .val (.double q3), .second] [])) _
        refine own_f_aloadN X98.here hx (hb hby d_method_5_10) rfl rfl (rfl : _ = 11) ?_
        refine own_f_iloadN X98.here hx (hb hby d_method_5_11) rfl (rfl : _ = 12) ?_
        refine own_f_dloadN X98.here hx (hb hby d_method_5_12) rfl (rfl : _ = 13) ?_
        refine st100 _ ?_
        show Steps p.tables e below (T100.setTop (mkF m 14 #[.val (.ref ar), .val (.int (3 : Int32)), .val (.int (2 : Int32)), .val (.double q3), .second] [])) _
        exact X100.returnOut hx Bd.returns (hb hby d_method_5_14) hr
      · show Q6 Z ar _ _ kc q0 q1 q2 q3 h0 n0 _ T100.heap _
        rw [e100]
        exact ⟨q0, q1, q3, q2, rfl, N100, KK, Va, own_pm23⟩
    · obtain ⟨cl101, Ar101, -, Sz101, Ng101, Hs101, -⟩ := id Va
      have hin101 : ¬ ((3 : Int32) < 0 ∨ cl101.slots.size ≤ ((3 : Int32)).toNatClampNeg) := inb_of Sz101 ⟨by decide, by decide⟩
      have hat101 : cl101.slots[((3 : Int32)).toNatClampNeg]? = some (.double q3) := Hs101 _ (Nat.lt_of_not_le fun q => hin101 (Or.inr q))
      obtain ⟨cl102, Ar102, -, Sz102, Ng102, Hs102, -⟩ := id Va
      have hin102 : ¬ ((3 : Int32) < 0 ∨ cl102.slots.size ≤ ((3 : Int32)).toNatClampNeg) := inb_of Sz102 ⟨by decide, by decide⟩
      have hat102 : cl102.slots[((3 : Int32)).toNatClampNeg]? = some (.double q3) := Hs102 _ (Nat.lt_of_not_le fun q => hin102 (Or.inr q))
      obtain ⟨cl103, Ar103, q103, Sz103, Ng103, Hs103, Gs103⟩ := Va
      have hin103 : ¬ ((3 : Int32) < 0 ∨ cl103.slots.size ≤ ((3 : Int32)).toNatClampNeg) := inb_of Sz103 ⟨by decide, by decide⟩
      obtain ⟨T104, h104, X104, e104, W104, st104⟩ := stD X0 hx hZ e0 Ar103 (j := (3 : Int32)) hin103 (g := (mkF m 9 #[.val (.ref ar), .val (.int (3 : Int32)), .val (.int (3 : Int32)), .val (.double q3), .second] [(.double q3), (.int (3 : Int32)), (.ref ar)])) rfl rfl (hb hby d_method_5_9)
      have Zs104 := Nat.le_trans Z0 (Keep.of_wr W104).1
      replace KK := KK.wr W104 (Or.inl (by simp))
      have Va : Arv Z h104 ar kc .double (4 : Int32) [(.double q0), (.double q1), (.double q2), (.double q3)] (.double (0 : UInt64)) := Arv.set Ar103 q103 Sz103 Ng103 Hs103 Gs103 rfl W104 3 rfl (Nat.le_of_ble_eq_true rfl)
      have N104 := Fr.snoc X104 N0 g_ar
      obtain ⟨cl105, Ar105, q105, Sz105, Ng105, Hs105, Gs105⟩ := Va
      have hin105 : ¬ ((3 : Int32) < 0 ∨ cl105.slots.size ≤ ((3 : Int32)).toNatClampNeg) := inb_of Sz105 ⟨by decide, by decide⟩
      obtain ⟨T106, h106, X106, e106, W106, st106⟩ := stD X104 hx hZ e104 Ar105 (j := (3 : Int32)) hin105 (g := (mkF m 13 #[.val (.ref ar), .val (.int (3 : Int32)), .val (.int (3 : Int32)), .val (.double q3), .second] [(.double q3), (.int (3 : Int32)), (.ref ar)])) rfl rfl (hb hby d_method_5_13)
      have Zs106 := Nat.le_trans Zs104 (Keep.of_wr W106).1
      replace KK := KK.wr W106 (Or.inl (by simp))
      have Va : Arv Z h106 ar kc .double (4 : Int32) [(.double q0), (.double q1), (.double q2), (.double q3)] (.double (0 : UInt64)) := Arv.set Ar105 q105 Sz105 Ng105 Hs105 Gs105 rfl W106 3 rfl (Nat.le_of_ble_eq_true rfl)
      have N106 := Fr.snoc X106 N104 g_ar
      obtain ⟨fs, hr, hrun, hended, hW, hsame⟩ := X106.leave (v := none) (fun _ => rfl) hlk
      refine ⟨_, _, ?_, hrun, hended, _, _, rfl, ?_, ⟨_, rfl⟩, hW, hsame.mono (by decide) (by decide)⟩
      · refine hA0 _ ?_
        refine k0 _ ?_
        refine own_f_aloadN X0.here hx (hb hby d_method_5_0) rfl rfl (rfl : _ = 1) ?_
        refine own_f_iloadN X0.here hx (hb hby d_method_5_1) rfl (rfl : _ = 2) ?_
        refine X0.daload hx (j := (3 : Int32)) (v := (.double q3)) (by rw [e0]; exact Ar101.1) (State.isArrayOf_alike hZ.alike Ar101.2.1) Ar101.2.2 hin101 hat101 (g := (mkF m 2 #[.val (.ref ar), .val (.int (3 : Int32)), .val (.int (3 : Int32)), .unset, .unset] [(.int (3 : Int32)), (.ref ar)])) rfl rfl (hb hby d_method_5_2) _ ?_
        show Steps p.tables e below (s₁.setTop (mkF m 3 #[.val (.ref ar), .val (.int (3 : Int32)), .val (.int (3 : Int32)), .unset, .unset] [(.double q3)])) _
        refine own_f_dstoreN X0.here hx (hb hby d_method_5_3) (rfl : storeLocals _ _ _ = some #[.val (.ref ar), .val (.int (3 : Int32)), .val (.int (3 : Int32)), .val (.double q3), .second]) (rfl : _ = 4) ?_
        refine own_f_aloadN X0.here hx (hb hby d_method_5_4) rfl rfl (rfl : _ = 5) ?_
        refine own_f_iloadN X0.here hx (hb hby d_method_5_5) rfl (rfl : _ = 6) ?_
        refine own_f_aloadN X0.here hx (hb hby d_method_5_6) rfl rfl (rfl : _ = 7) ?_
        refine own_f_iloadN X0.here hx (hb hby d_method_5_7) rfl (rfl : _ = 8) ?_
        refine X0.daload hx (j := (3 : Int32)) (v := (.double q3)) (by rw [e0]; exact Ar102.1) (State.isArrayOf_alike hZ.alike Ar102.2.1) Ar102.2.2 hin102 hat102 (g := (mkF m 8 #[.val (.ref ar), .val (.int (3 : Int32)), .val (.int (3 : Int32)), .val (.double q3), .second] [(.int (3 : Int32)), (.ref ar), (.int (3 : Int32)), (.ref ar)])) rfl rfl (hb hby d_method_5_8) _ ?_
        show Steps p.tables e below (s₁.setTop (mkF m 9 #[.val (.ref ar), .val (.int (3 : Int32)), .val (.int (3 : Int32)), .val (.double q3), .second] [(.double q3), (.int (3 : Int32)), (.ref ar)])) _
        refine st104 _ ?_
        show Steps p.tables e below (T104.setTop (mkF m 10 #[.val (.ref ar), .val (.int (3 : Int32)), .val (.int (3 : Int32)), .val (.double q3), .second] [])) _
        refine own_f_aloadN X104.here hx (hb hby d_method_5_10) rfl rfl (rfl : _ = 11) ?_
        refine own_f_iloadN X104.here hx (hb hby d_method_5_11) rfl (rfl : _ = 12) ?_
        refine own_f_dloadN X104.here hx (hb hby d_method_5_12) rfl (rfl : _ = 13) ?_
        refine st106 _ ?_
        show Steps p.tables e below (T106.setTop (mkF m 14 #[.val (.ref ar), .val (.int (3 : Int32)), .val (.int (3 : Int32)), .val (.double q3), .second] [])) _
        exact X106.returnOut hx Bd.returns (hb hby d_method_5_14) hr
      · show Q6 Z ar _ _ kc q0 q1 q2 q3 h0 n0 _ T106.heap _
        rw [e106]
        exact ⟨q0, q1, q2, q3, rfl, N106, KK, Va, own_pmr⟩
theorem ef_0 (m : MethodId) (x0 : Int64) (x1 : Int64) (x2 : Int64) (x3 : Int64) (x4 : Int32) : entryFrame m #[(.long x0), (.long x1), (.long x2), (.long x3), (.int x4)] maxLocals = mkF m 0 #[.val (.long x0), .second, .val (.long x1), .second, .val (.long x2), .second, .val (.long x3), .second, .val (.int x4), .unset, .unset, .unset, .unset, .unset, .unset, .unset, .unset, .unset, .unset, .unset, .unset, .unset, .unset, .unset, .unset, .unset] [] := by first | (simp [entryFrame, mkF, argsToLocals, Value.category, maxLocals]; done) | rfl
def Q0 (Z : State) (p1 : Int64) (p2 : Int64) (p3 : Int64) (p4 : Int64) (p5 : Int32) (h0 : Heap) (n0 : Nat) (v : Option Value) (h : Heap) (L : List Loc) : Prop := v = some (.int (1 : Int32)) ∧ Fr n0 L
set_option maxRecDepth 65536 in
set_option maxHeartbeats 40000000 in
theorem rm0 (l : Launch) (Z : State) (a0 : Array Value) (hw : ∀ d ∈ tables_1, d.before a0 Z = true) (ws : List Jvm.Cond) (p1 : Int64) (p2 : Int64) (p3 : Int64) (p4 : Int64) (p5 : Int32) (h0 : Heap) (n0 : Nat) (Z0 : n0 ≤ h0.size) :
    MetFree l x (head1 (Jvm.Cond.code x code maxLocals ret :: ws) room_1) (fun a U => a = #[(.long p1), (.long p2), (.long p3), (.long p4), (.int p5)] ∧ Z.Warmed39 U.vm ∧ U.heap = h0) (fun _ _ _ _ _ => True) (fun _ U o U' => ∃ v L, o = .returned v ∧ Q0 Z p1 p2 p3 p4 p5 h0 n0 v U'.heap L ∧ FrameEnd U o U' L room_1.cells room_1.slots) := by
  refine MetFree.of_bodySF (plainFor_of_name pn_1) hisR ?_
  intro p e s m args below meth c s₁ Bd hml0 hP hK
  obtain ⟨rfl, hZ, hh⟩ := hP
  have hlk : meth.locks = false := BodyLoose.notSynchronized Bd
  have hx := Bd.exec
  have hby := Bd.bytes
  have hml : c.maxLocals = 26 := hml0
  have hown : s.vm.findClass "com/example/prose_to_query/prosetoquery/retrieval/ExactSumValuePinLaw" = some m.cls := findClass_of_methodNamed Bd.named
  have hnm := (name_of_methodNamed Bd.named Bd.method).1
  have X0 : Stand p l e room_1 s m #[(.long p1), (.long p2), (.long p3), (.long p4), (.int p5)] below meth c s₁ [] 0 0 := Stand.of_body Bd
  have e0 : s₁.heap = h0 := by rw [← hh, Bd.state]; rfl
  have N0 := Fr.nil n0
  obtain ⟨A, hA⟩ : ∃ A, A = s₁.setTop (mkF m 0 #[.val (.long p1), .second, .val (.long p2), .second, .val (.long p3), .second, .val (.long p4), .second, .val (.int p5), .unset, .unset, .unset, .unset, .unset, .unset, .unset, .unset, .unset, .unset, .unset, .unset, .unset, .unset, .unset, .unset, .unset] []) := ⟨_, rfl⟩
  have hA0 : ∀ t, Steps p.tables e below A t → Steps p.tables e below (s₁.setTop (entryFrame m #[(.long p1), (.long p2), (.long p3), (.long p4), (.int p5)] maxLocals)) t := fun t k => castTop (ef_0 m p1 p2 p3 p4 p5) (hA ▸ k)
  have k0 : ∀ t, Steps p.tables e below (s₁.setTop (mkF m 0 #[.val (.long p1), .second, .val (.long p2), .second, .val (.long p3), .second, .val (.long p4), .second, .val (.int p5), .unset, .unset, .unset, .unset, .unset, .unset, .unset, .unset, .unset, .unset, .unset, .unset, .unset, .unset, .unset, .unset, .unset] [])) t → Steps p.tables e below A t := fun t k => hA ▸ k
  have k1 : ∀ t_, Steps p.tables e below (s₁.setTop (mkF m 8 #[.val (.long p1), .second, .val (.long p2), .second, .val (.long p3), .second, .val (.long p4), .second, .val (.int p5), .unset, .unset, .unset, .unset, .unset, .unset, .unset, .unset, .unset, .unset, .unset, .unset, .unset, .unset, .unset, .unset, .unset] [(.int (((p5.toUInt32 >>> ((12 : Int32) &&& 31).toUInt32).toInt32) &&& (7 : Int32)))])) t_ → Steps p.tables e below A t_ := by
    intro t_ ht_
    refine k0 t_ ?_
    refine own_f_iload X0.here hx (hb hby at_0) rfl (rfl : _ = 2) ?_
    refine own_f_bipush X0.here hx (hb hby at_2) (rfl : _ = (12 : Int32)) (rfl : _ = 4) ?_
    refine own_f_iushr X0.here hx (hb hby at_4) (rfl : _ = 5) ?_
    refine own_f_bipush X0.here hx (hb hby at_5) (rfl : _ = (7 : Int32)) (rfl : _ = 7) ?_
    refine own_f_iand X0.here hx (hb hby at_7) rfl (rfl : _ = 8) ?_
    exact ht_
  by_cases hc0 : (((p5.toUInt32 >>> ((12 : Int32) &&& 31).toUInt32).toInt32) &&& (7 : Int32)) = (0 : Int32)
  · obtain ⟨T2, h2, X2, e2, E2, A2, D2, -, st2⟩ := newO X0 hx hZ hown (hw _ (List.mem_of_getElem? (i := 0) rfl)) (hw _ (List.mem_of_getElem? (i := 1) rfl)) (hw _ (List.mem_of_getElem? (i := 2) rfl)) e0 (g := (mkF m 11 #[.val (.long p1), .second, .val (.long p2), .second, .val (.long p3), .second, .val (.long p4), .second, .val (.int p5), .unset, .unset, .unset, .unset, .unset, .unset, .unset, .unset, .unset, .unset, .unset, .unset, .unset, .unset, .unset, .unset, .unset] [])) rfl (hb hby at_11) (by decide) (by decide)
    obtain ⟨b2, g2⟩ : ∃ z, z = h0.size := ⟨_, rfl⟩
    rw [← g2] at A2 D2 st2
    have g_b2 : n0 ≤ b2 := Nat.le_trans Z0 (Nat.le_of_eq g2.symm)
    have Zs2 := Nat.le_trans Z0 E2.1
    have Ex_b2 := A2
    have F_partials_b2 : Fld Z h2 b2 "com/example/prose_to_query/prosetoquery/retrieval/ExactSum" "partials" "[D" .null := D2 (Or.inl (hw _ (List.mem_of_getElem? (i := 11) rfl))) (ty := (.array .double)) (by decide)
    have F_size_b2 : Fld Z h2 b2 "com/example/prose_to_query/prosetoquery/retrieval/ExactSum" "size" "I" (.int (0 : Int32)) := D2 (Or.inl (hw _ (List.mem_of_getElem? (i := 18) rfl))) (ty := .int) (by decide)
    obtain ⟨_, _, ⟨T3, L3, k3_, n3⟩, -, X3, ⟨Lc3, hQ3, l3, y3, z3⟩, st3⟩ := X2.specialBack hx (y := (⟨"com/example/prose_to_query/prosetoquery/retrieval/ExactSum", "<init>", "()V"⟩ : MethodName)) rfl hown (mvT hZ (hw _ (List.mem_of_getElem? (i := 3) rfl))) (mvT hZ (hw _ (List.mem_of_getElem? (i := 4) rfl))) (mvT hZ (hw _ (List.mem_of_getElem? (i := 5) rfl))) (by decide) (backOf (W := 1) (rm1 l Z a0 hw [] b2 _ h2 n0 Zs2 Ex_b2 F_partials_b2 F_size_b2 g_b2) hZ (hw _ (List.mem_of_getElem? (i := 5) rfl)) (hw _ (List.mem_of_getElem? (i := 2) rfl)) (by decide) (by decide)) (g := (mkF m 15 #[.val (.long p1), .second, .val (.long p2), .second, .val (.long p3), .second, .val (.long p4), .second, .val (.int p5), .unset, .unset, .unset, .unset, .unset, .unset, .unset, .unset, .unset, .unset, .unset, .unset, .unset, .unset, .unset, .unset, .unset] [(.ref b2), (.ref b2)])) rfl (by rw [hml]; rfl) (Steps.refl _) (a := b2) (argsL := []) (rest := [(.ref b2)]) (lenOf pd_1 rfl) rfl (by show 2 * 0 + _ ≤ _; exact Nat.le_of_eq rfl) (hb hby at_15) (fun _ _ => ⟨rfl, e2, (by decide : 1 + 1 ≤ _), (by decide : 2 + 4 ≤ _)⟩)
    dsimp only [Pt.U, Pt.locs, Pt.cells, Pt.slots] at X3 l3 y3 z3 st3 hQ3
    subst l3 y3 z3
    obtain ⟨ar, kc, rfl, Nq3, K1, Fp, Fs, Va, Ear, Gar⟩ := hQ3
    have N3 := Fr.app N0 Nq3
    have ne_b2_ar : b2 ≠ ar := Nat.ne_of_lt (Nat.lt_of_lt_of_le Ex_b2.lt Gar)
    have g_ar : n0 ≤ ar := Nat.le_trans Zs2 Gar
    replace Ex_b2 := Ex_b2.keep K1
    have Zs3 := Nat.le_trans Zs2 K1.1
    obtain ⟨cq4, kq4, q4a, q4b, q4c⟩ := isOf hZ rfl Ex_b2
    obtain ⟨_, _, ⟨T4, L4, k4_, n4⟩, -, X4, ⟨Lc4, hQ4, l4, y4, z4⟩, st4⟩ := X3.virtualBack hx (y := (⟨"com/example/prose_to_query/prosetoquery/retrieval/ExactSum", "value", "()D"⟩ : MethodName)) (z := (⟨"com/example/prose_to_query/prosetoquery/retrieval/ExactSum", "value", "()D"⟩ : MethodName)) hown (mvT hZ (hw _ (List.mem_of_getElem? (i := 12) rfl))) (mvT hZ (hw _ (List.mem_of_getElem? (i := 13) rfl))) (notFace_of_selects (args := #[]) (mvT hZ (hw _ (List.mem_of_getElem? (i := 15) rfl)))) (mvT hZ (hw _ (List.mem_of_getElem? (i := 15) rfl))) (mvT hZ (hw _ (List.mem_of_getElem? (i := 14) rfl))) (by decide) (backOf (W := 0) (rm3 l Z a0 hw [] b2 0 ar kc 0 0 0 0 [] T3.heap n0 Zs3 Fp Fs Va own_res0 (by decide) trivial) hZ (hw _ (List.mem_of_getElem? (i := 16) rfl)) (hw _ (List.mem_of_getElem? (i := 2) rfl)) (by decide) (by decide)) q4a q4c (g := (mkF m 22 #[.val (.long p1), .second, .val (.long p2), .second, .val (.long p3), .second, .val (.long p4), .second, .val (.int p5), .val (.ref b2), .unset, .unset, .unset, .unset, .unset, .unset, .unset, .unset, .unset, .unset, .unset, .unset, .unset, .unset, .unset, .unset] [(.ref b2)])) rfl (by rw [hml]; rfl) (Steps.refl _) (argsL := []) (rest := []) (lenOf pd_2 rfl) rfl (by show 2 * 0 + _ ≤ _; exact Nat.le_of_eq rfl) (hb hby at_22) (fun _ _ => ⟨rfl, rfl, (by decide : 2 + 0 ≤ _), (by decide : 6 + 0 ≤ _)⟩)
    dsimp only [Pt.U, Pt.locs, Pt.cells, Pt.slots] at X4 l4 y4 z4 st4 hQ4
    subst l4 y4 z4
    obtain ⟨rfl, Nq4, e4⟩ := hQ4
    have N4 := Fr.app N3 Nq4
    obtain ⟨fs, hr, hrun, hended, hW, hsame⟩ := X4.leave (v := some (.int (1 : Int32))) (fun h => by rw [Bd.returns] at h; cases h) hlk
    refine ⟨_, _, ?_, hrun, hended, _, _, rfl, ?_, ⟨_, rfl⟩, hW, hsame.mono (by decide) (by decide)⟩
    · refine hA0 _ ?_
      refine k1 _ ?_
      refine own_f_ifNo X0.here hx (hb hby at_8) ((if0 _ _).trans (teq (hc0)).2) (rfl : _ = 11) ?_
      refine st2 _ ?_
      show Steps p.tables e below (T2.setTop (mkF m 14 #[.val (.long p1), .second, .val (.long p2), .second, .val (.long p3), .second, .val (.long p4), .second, .val (.int p5), .unset, .unset, .unset, .unset, .unset, .unset, .unset, .unset, .unset, .unset, .unset, .unset, .unset, .unset, .unset, .unset, .unset] [(.ref b2)])) _
      refine own_f_dup X2.here hx (hb hby at_14) rfl (rfl : _ = 15) ?_
      refine st3.trans ?_
      show Steps p.tables e below (T3.setTop (mkF m 18 #[.val (.long p1), .second, .val (.long p2), .second, .val (.long p3), .second, .val (.long p4), .second, .val (.int p5), .unset, .unset, .unset, .unset, .unset, .unset, .unset, .unset, .unset, .unset, .unset, .unset, .unset, .unset, .unset, .unset, .unset] [(.ref b2)])) _
      refine own_f_astore X3.here hx (hb hby at_18) rfl (rfl : storeLocals _ _ _ = some #[.val (.long p1), .second, .val (.long p2), .second, .val (.long p3), .second, .val (.long p4), .second, .val (.int p5), .val (.ref b2), .unset, .unset, .unset, .unset, .unset, .unset, .unset, .unset, .unset, .unset, .unset, .unset, .unset, .unset, .unset, .unset]) (rfl : _ = 20) ?_
      refine own_f_aload X3.here hx (hb hby at_20) rfl rfl (rfl : _ = 22) ?_
      refine st4.trans ?_
      show Steps p.tables e below (T4.setTop (mkF m 25 #[.val (.long p1), .second, .val (.long p2), .second, .val (.long p3), .second, .val (.long p4), .second, .val (.int p5), .val (.ref b2), .unset, .unset, .unset, .unset, .unset, .unset, .unset, .unset, .unset, .unset, .unset, .unset, .unset, .unset, .unset, .unset] [(.double (own_value []))])) _
      refine own_f_dconst0 X4.here hx (hb hby at_25) (rfl : _ = (0 : UInt64)) (rfl : _ = 26) ?_
      refine own_f_dcmp X4.here hx (hb hby at_26) rfl (rfl : _ = 27) ?_
      refine own_f_ifNo X4.here hx (hb hby at_27) ((if0 _ _).trans (teq (own_val0)).2) (rfl : _ = 30) ?_
      refine own_f_iconst X4.here hx (hb hby at_30) (rfl : _ = (1 : Int32)) (rfl : _ = 31) ?_
      refine own_f_goto X4.here hx (hb hby at_31) (by decide) (by decide : _ = 35) ?_
      exact retN X4 hx (t := .boolean) Bd.returns (by simp) (hb hby at_35) hr
    · show Q0 Z p1 p2 p3 p4 p5 h0 n0 _ T4.heap _
      rw [e4]
      exact ⟨rfl, N4⟩
  · have k5 : ∀ t_, Steps p.tables e below (s₁.setTop (mkF m 43 #[.val (.long p1), .second, .val (.long p2), .second, .val (.long p3), .second, .val (.long p4), .second, .val (.int p5), .unset, .unset, .unset, .unset, .unset, .unset, .unset, .unset, .unset, .unset, .unset, .unset, .unset, .unset, .unset, .unset, .unset] [(.int (((p5.toUInt32 >>> ((11 : Int32) &&& 31).toUInt32).toInt32) &&& (1 : Int32)))])) t_ → Steps p.tables e below A t_ := by
      intro t_ ht_
      refine k1 t_ ?_
      refine own_f_ifYes X0.here hx (hb hby at_8) ((if0 _ _).trans (feq (hc0)).2) (by decide) (by decide : _ = 36) ?_
      refine own_f_iload X0.here hx (hb hby at_36) rfl (rfl : _ = 38) ?_
      refine own_f_bipush X0.here hx (hb hby at_38) (rfl : _ = (11 : Int32)) (rfl : _ = 40) ?_
      refine own_f_iushr X0.here hx (hb hby at_40) (rfl : _ = 41) ?_
      refine own_f_iconst X0.here hx (hb hby at_41) (rfl : _ = (1 : Int32)) (rfl : _ = 42) ?_
      refine own_f_iand X0.here hx (hb hby at_42) rfl (rfl : _ = 43) ?_
      exact ht_
    by_cases hc1 : (((p5.toUInt32 >>> ((11 : Int32) &&& 31).toUInt32).toInt32) &&& (1 : Int32)) = (0 : Int32)
    · obtain ⟨_, _, ⟨T35, L35, k35_, n35⟩, -, X35, ⟨Lc35, hQ35, l35, y35, z35⟩, st35⟩ := Jvm.LawKit.callS X0 hx (y := (⟨"com/example/prose_to_query/prosetoquery/retrieval/ExactSumValuePinLaw", "big", "(J)J"⟩ : MethodName)) hown (mvT hZ (hw _ (List.mem_of_getElem? (i := 19) rfl))) (mvT hZ (hw _ (List.mem_of_getElem? (i := 20) rfl))) (mvT hZ (hw _ (List.mem_of_getElem? (i := 21) rfl))) (mvT hZ (hw _ (List.mem_of_getElem? (i := 22) rfl))) (by decide) (backOf (W := 0) (rm5 l Z a0 hw [] p1  h0 n0 Z0) hZ (hw _ (List.mem_of_getElem? (i := 22) rfl)) (hw _ (List.mem_of_getElem? (i := 21) rfl)) (by decide) (by decide)) (g := (mkF m 68 #[.val (.long p1), .second, .val (.long p2), .second, .val (.long p3), .second, .val (.long p4), .second, .val (.int p5), .val (.int (0 : Int32)), .unset, .unset, .unset, .unset, .unset, .unset, .unset, .unset, .unset, .unset, .unset, .unset, .unset, .unset, .unset, .unset] [(.long p1)])) rfl (by rw [hml]; rfl) (argsL := [(.long p1)]) (rest := []) (lenOf pd_3 rfl) rfl (by show 2 * 0 + _ ≤ _; exact Nat.le_of_eq rfl) (hb hby at_68) (fun _ _ => ⟨rfl, e0, (by decide : 0 + 0 ≤ _), (by decide : 0 + 0 ≤ _)⟩)
      dsimp only [Pt.U, Pt.locs, Pt.cells, Pt.slots] at X35 l35 y35 z35 st35 hQ35
      subst l35 y35 z35
      obtain ⟨t1, rfl, Nq35, eht1, ht1⟩ := hQ35
      have N35 := Fr.app N0 Nq35
      obtain ⟨_, _, ⟨T36, L36, k36_, n36⟩, -, X36, ⟨Lc36, hQ36, l36, y36, z36⟩, st36⟩ := Jvm.LawKit.callS X35 hx (y := (⟨"com/example/prose_to_query/prosetoquery/retrieval/ExactSumValuePinLaw", "mid", "(J)J"⟩ : MethodName)) hown (mvT hZ (hw _ (List.mem_of_getElem? (i := 25) rfl))) (mvT hZ (hw _ (List.mem_of_getElem? (i := 26) rfl))) (mvT hZ (hw _ (List.mem_of_getElem? (i := 21) rfl))) (mvT hZ (hw _ (List.mem_of_getElem? (i := 27) rfl))) (by decide) (backOf (W := 0) (rm4 l Z a0 hw [] p2  h0 n0 Z0) hZ (hw _ (List.mem_of_getElem? (i := 27) rfl)) (hw _ (List.mem_of_getElem? (i := 21) rfl)) (by decide) (by decide)) (g := (mkF m 74 #[.val (.long p1), .second, .val (.long p2), .second, .val (.long p3), .second, .val (.long p4), .second, .val (.int p5), .val (.int (0 : Int32)), .val (.long t1), .second, .unset, .unset, .unset, .unset, .unset, .unset, .unset, .unset, .unset, .unset, .unset, .unset, .unset, .unset] [(.long p2)])) rfl (by rw [hml]; rfl) (argsL := [(.long p2)]) (rest := []) (lenOf pd_3 rfl) rfl (by show 2 * 0 + _ ≤ _; exact Nat.le_of_eq rfl) (hb hby at_74) (fun _ _ => ⟨rfl, eht1, (by decide : 0 + 0 ≤ _), (by decide : 0 + 0 ≤ _)⟩)
      dsimp only [Pt.U, Pt.locs, Pt.cells, Pt.slots] at X36 l36 y36 z36 st36 hQ36
      subst l36 y36 z36
      obtain ⟨t2, rfl, Nq36, eht2, ht2⟩ := hQ36
      have N36 := Fr.app N35 Nq36
      obtain ⟨_, _, ⟨T37, L37, k37_, n37⟩, -, X37, ⟨Lc37, hQ37, l37, y37, z37⟩, st37⟩ := Jvm.LawKit.callS X36 hx (y := (⟨"com/example/prose_to_query/prosetoquery/retrieval/ExactSumValuePinLaw", "mid", "(J)J"⟩ : MethodName)) hown (mvT hZ (hw _ (List.mem_of_getElem? (i := 25) rfl))) (mvT hZ (hw _ (List.mem_of_getElem? (i := 26) rfl))) (mvT hZ (hw _ (List.mem_of_getElem? (i := 21) rfl))) (mvT hZ (hw _ (List.mem_of_getElem? (i := 27) rfl))) (by decide) (backOf (W := 0) (rm4 l Z a0 hw [] p3  h0 n0 Z0) hZ (hw _ (List.mem_of_getElem? (i := 27) rfl)) (hw _ (List.mem_of_getElem? (i := 21) rfl)) (by decide) (by decide)) (g := (mkF m 81 #[.val (.long p1), .second, .val (.long p2), .second, .val (.long p3), .second, .val (.long p4), .second, .val (.int p5), .val (.int (0 : Int32)), .val (.long t1), .second, .val (.long t2), .second, .unset, .unset, .unset, .unset, .unset, .unset, .unset, .unset, .unset, .unset, .unset, .unset] [(.long p3)])) rfl (by rw [hml]; rfl) (argsL := [(.long p3)]) (rest := []) (lenOf pd_3 rfl) rfl (by show 2 * 0 + _ ≤ _; exact Nat.le_of_eq rfl) (hb hby at_81) (fun _ _ => ⟨rfl, eht2, (by decide : 0 + 0 ≤ _), (by decide : 0 + 0 ≤ _)⟩)
      dsimp only [Pt.U, Pt.locs, Pt.cells, Pt.slots] at X37 l37 y37 z37 st37 hQ37
      subst l37 y37 z37
      obtain ⟨t3, rfl, Nq37, eht3, ht3⟩ := hQ37
      have N37 := Fr.app N36 Nq37
      have k38 : ∀ t_, Steps p.tables e below (T37.setTop (mkF m 103 #[.val (.long p1), .second, .val (.long p2), .second, .val (.long p3), .second, .val (.long p4), .second, .val (.int p5), .val (.int (0 : Int32)), .val (.long t1), .second, .val (.long t2), .second, .val (.long t3), .second, .val (.int ((p4.toInt32) >>> ((12 : Int32) &&& 31))), .unset, .unset, .unset, .unset, .unset, .unset, .unset, .unset, .unset] [])) t_ → Steps p.tables e below A t_ := by
        intro t_ ht_
        refine k5 t_ ?_
        refine own_f_ifYes X0.here hx (hb hby at_43) ((if0 _ _).trans (teq (hc1)).1) (by decide) (by decide : _ = 50) ?_
        refine own_f_iconst X0.here hx (hb hby at_50) (rfl : _ = (0 : Int32)) (rfl : _ = 51) ?_
        refine own_f_istore X0.here hx (hb hby at_51) (rfl : storeLocals _ _ _ = some #[.val (.long p1), .second, .val (.long p2), .second, .val (.long p3), .second, .val (.long p4), .second, .val (.int p5), .val (.int (0 : Int32)), .unset, .unset, .unset, .unset, .unset, .unset, .unset, .unset, .unset, .unset, .unset, .unset, .unset, .unset, .unset, .unset]) (rfl : _ = 53) ?_
        refine own_f_iload X0.here hx (hb hby at_53) rfl (rfl : _ = 55) ?_
        refine own_f_ifYes X0.here hx (hb hby at_55) ((if0 _ _).trans (teq (by decide)).1) (by decide) (by decide : _ = 67) ?_
        refine own_f_lloadN X0.here hx (hb hby at_67) rfl (rfl : _ = 68) ?_
        refine st35 _ ?_
        show Steps p.tables e below (T35.setTop (mkF m 71 #[.val (.long p1), .second, .val (.long p2), .second, .val (.long p3), .second, .val (.long p4), .second, .val (.int p5), .val (.int (0 : Int32)), .unset, .unset, .unset, .unset, .unset, .unset, .unset, .unset, .unset, .unset, .unset, .unset, .unset, .unset, .unset, .unset] [(.long t1)])) t_
        refine own_f_lstore X35.here hx (hb hby at_71) (rfl : storeLocals _ _ _ = some #[.val (.long p1), .second, .val (.long p2), .second, .val (.long p3), .second, .val (.long p4), .second, .val (.int p5), .val (.int (0 : Int32)), .val (.long t1), .second, .unset, .unset, .unset, .unset, .unset, .unset, .unset, .unset, .unset, .unset, .unset, .unset, .unset, .unset]) (rfl : _ = 73) ?_
        refine own_f_lloadN X35.here hx (hb hby at_73) rfl (rfl : _ = 74) ?_
        refine st36 _ ?_
        show Steps p.tables e below (T36.setTop (mkF m 77 #[.val (.long p1), .second, .val (.long p2), .second, .val (.long p3), .second, .val (.long p4), .second, .val (.int p5), .val (.int (0 : Int32)), .val (.long t1), .second, .unset, .unset, .unset, .unset, .unset, .unset, .unset, .unset, .unset, .unset, .unset, .unset, .unset, .unset] [(.long t2)])) t_
        refine own_f_lstore X36.here hx (hb hby at_77) (rfl : storeLocals _ _ _ = some #[.val (.long p1), .second, .val (.long p2), .second, .val (.long p3), .second, .val (.long p4), .second, .val (.int p5), .val (.int (0 : Int32)), .val (.long t1), .second, .val (.long t2), .second, .unset, .unset, .unset, .unset, .unset, .unset, .unset, .unset, .unset, .unset, .unset, .unset]) (rfl : _ = 79) ?_
        refine own_f_lload X36.here hx (hb hby at_79) rfl (rfl : _ = 81) ?_
        refine st37 _ ?_
        show Steps p.tables e below (T37.setTop (mkF m 84 #[.val (.long p1), .second, .val (.long p2), .second, .val (.long p3), .second, .val (.long p4), .second, .val (.int p5), .val (.int (0 : Int32)), .val (.long t1), .second, .val (.long t2), .second, .unset, .unset, .unset, .unset, .unset, .unset, .unset, .unset, .unset, .unset, .unset, .unset] [(.long t3)])) t_
        refine own_f_lstore X37.here hx (hb hby at_84) (rfl : storeLocals _ _ _ = some #[.val (.long p1), .second, .val (.long p2), .second, .val (.long p3), .second, .val (.long p4), .second, .val (.int p5), .val (.int (0 : Int32)), .val (.long t1), .second, .val (.long t2), .second, .val (.long t3), .second, .unset, .unset, .unset, .unset, .unset, .unset, .unset, .unset, .unset, .unset]) (rfl : _ = 86) ?_
        refine own_f_iload X37.here hx (hb hby at_86) rfl (rfl : _ = 88) ?_
        refine own_f_ifYes X37.here hx (hb hby at_88) ((if0 _ _).trans (teq (by decide)).1) (by decide) (by decide : _ = 95) ?_
        refine own_f_lload X37.here hx (hb hby at_95) rfl (rfl : _ = 97) ?_
        refine own_f_l2i X37.here hx (hb hby at_97) (rfl : _ = 98) ?_
        refine own_f_bipush X37.here hx (hb hby at_98) (rfl : _ = (12 : Int32)) (rfl : _ = 100) ?_
        refine own_f_ishr X37.here hx (hb hby at_100) (rfl : _ = 101) ?_
        refine own_f_istore X37.here hx (hb hby at_101) (rfl : storeLocals _ _ _ = some #[.val (.long p1), .second, .val (.long p2), .second, .val (.long p3), .second, .val (.long p4), .second, .val (.int p5), .val (.int (0 : Int32)), .val (.long t1), .second, .val (.long t2), .second, .val (.long t3), .second, .val (.int ((p4.toInt32) >>> ((12 : Int32) &&& 31))), .unset, .unset, .unset, .unset, .unset, .unset, .unset, .unset, .unset]) (rfl : _ = 103) ?_
        exact ht_
      obtain ⟨mq, hmq⟩ : ∃ z : Int32, z = ((p4.toInt32) >>> ((12 : Int32) &&& 31)) := ⟨_, rfl⟩
      rw [← hmq] at k38
      have hM := own_mm hmq
      have k39 : ∀ t_, Steps p.tables e below (T37.setTop (mkF m 118 #[.val (.long p1), .second, .val (.long p2), .second, .val (.long p3), .second, .val (.long p4), .second, .val (.int p5), .val (.int (0 : Int32)), .val (.long t1), .second, .val (.long t2), .second, .val (.long t3), .second, .val (.int mq), .val (.int ((20 : Int32) + ((((p4.toUInt64 >>> ((32 : Int32) &&& 0x3f).toInt64.toUInt64).toInt64) - (((p4.toUInt64 >>> ((32 : Int32) &&& 0x3f).toInt64.toUInt64).toInt64) / (43 : Int64)) * (43 : Int64)).toInt32))), .unset, .unset, .unset, .unset, .unset, .unset, .unset, .unset] [])) t_ → Steps p.tables e below A t_ := by
        intro t_ ht_
        refine k38 t_ ?_
        refine own_f_bipush X37.here hx (hb hby at_103) (rfl : _ = (20 : Int32)) (rfl : _ = 105) ?_
        refine own_f_lload X37.here hx (hb hby at_105) rfl (rfl : _ = 107) ?_
        refine own_f_bipush X37.here hx (hb hby at_107) (rfl : _ = (32 : Int32)) (rfl : _ = 109) ?_
        refine own_f_lushr X37.here hx (hb hby at_109) (rfl : _ = 110) ?_
        refine own_f_ldc2Long X37 hx hown (mvT hZ (hw _ (List.mem_of_getElem? (i := 29) rfl))) (hb hby at_110) (rfl : _ = 113) ?_
        refine own_f_lrem X37.here hx (hb hby at_113) (by decide) (rfl : _ = 114) ?_
        refine own_f_l2i X37.here hx (hb hby at_114) (rfl : _ = 115) ?_
        refine own_f_iadd X37.here hx (hb hby at_115) rfl (rfl : _ = 116) ?_
        refine own_f_istore X37.here hx (hb hby at_116) (rfl : storeLocals _ _ _ = some #[.val (.long p1), .second, .val (.long p2), .second, .val (.long p3), .second, .val (.long p4), .second, .val (.int p5), .val (.int (0 : Int32)), .val (.long t1), .second, .val (.long t2), .second, .val (.long t3), .second, .val (.int mq), .val (.int ((20 : Int32) + ((((p4.toUInt64 >>> ((32 : Int32) &&& 0x3f).toInt64.toUInt64).toInt64) - (((p4.toUInt64 >>> ((32 : Int32) &&& 0x3f).toInt64.toUInt64).toInt64) / (43 : Int64)) * (43 : Int64)).toInt32))), .unset, .unset, .unset, .unset, .unset, .unset, .unset, .unset]) (rfl : _ = 118) ?_
        exact ht_
      obtain ⟨eq, heq⟩ : ∃ z : Int32, z = ((20 : Int32) + ((((p4.toUInt64 >>> ((32 : Int32) &&& 0x3f).toInt64.toUInt64).toInt64) - (((p4.toUInt64 >>> ((32 : Int32) &&& 0x3f).toInt64.toUInt64).toInt64) / (43 : Int64)) * (43 : Int64)).toInt32)) := ⟨_, rfl⟩
      rw [← heq] at k39
      obtain ⟨he1, he2⟩ := own_ee heq
      have hT := own_tiny (m := mq) he1 he2 hM
      have hT2 := own_tiny_b (m := Int32.toInt mq) (e := eq.toInt.toNat) (by omega) (by omega) hM
      have k40 : ∀ t_, Steps p.tables e below (T37.setTop (mkF m 129 #[.val (.long p1), .second, .val (.long p2), .second, .val (.long p3), .second, .val (.long p4), .second, .val (.int p5), .val (.int (0 : Int32)), .val (.long t1), .second, .val (.long t2), .second, .val (.long t3), .second, .val (.int mq), .val (.int eq), .val (.double (FP.ddiv (FP.i2d mq) (FP.l2d ((1 : Int64) <<< (eq &&& 0x3f).toInt64)))), .second, .unset, .unset, .unset, .unset, .unset, .unset] [])) t_ → Steps p.tables e below A t_ := by
        intro t_ ht_
        refine k39 t_ ?_
        refine own_f_iload X37.here hx (hb hby at_118) rfl (rfl : _ = 120) ?_
        refine own_f_i2d X37.here hx (hb hby at_120) rfl (rfl : _ = 121) ?_
        refine own_f_lconst X37.here hx (hb hby at_121) (rfl : _ = (1 : Int64)) (rfl : _ = 122) ?_
        refine own_f_iload X37.here hx (hb hby at_122) rfl (rfl : _ = 124) ?_
        refine own_f_lshl X37.here hx (hb hby at_124) (rfl : _ = 125) ?_
        refine own_f_l2d X37.here hx (hb hby at_125) rfl (rfl : _ = 126) ?_
        refine own_f_ddiv X37.here hx (hb hby at_126) (own_V_nn hT) rfl (rfl : _ = 127) ?_
        refine own_f_dstore X37.here hx (hb hby at_127) (rfl : storeLocals _ _ _ = some #[.val (.long p1), .second, .val (.long p2), .second, .val (.long p3), .second, .val (.long p4), .second, .val (.int p5), .val (.int (0 : Int32)), .val (.long t1), .second, .val (.long t2), .second, .val (.long t3), .second, .val (.int mq), .val (.int eq), .val (.double (FP.ddiv (FP.i2d mq) (FP.l2d ((1 : Int64) <<< (eq &&& 0x3f).toInt64)))), .second, .unset, .unset, .unset, .unset, .unset, .unset]) (rfl : _ = 129) ?_
        exact ht_
      obtain ⟨ty, hty⟩ : ∃ z : UInt64, z = (FP.ddiv (FP.i2d mq) (FP.l2d ((1 : Int64) <<< (eq &&& 0x3f).toInt64))) := ⟨_, rfl⟩
      rw [← hty] at k40
      replace hT : own_V ty (Int32.toInt mq * own_p (1074 - eq.toInt.toNat)) := by rw [hty]; exact hT
      have hB1 := own_big_b ht1
      have hV1 := own_big_V ht1
      have hB1' : (t1.toInt.natAbs : Int) ≤ 576460752303423488 := by omega
      have hQ := own_q4 hV1 ht2 ht3 hT hB1' hT2
      obtain ⟨T41, h41, c41, X41, e41, E41, A41, st41⟩ := newP X37 hx hZ (hw _ (List.mem_of_getElem? (i := 9) rfl)) eht3 (g := (mkF m 130 #[.val (.long p1), .second, .val (.long p2), .second, .val (.long p3), .second, .val (.long p4), .second, .val (.int p5), .val (.int (0 : Int32)), .val (.long t1), .second, .val (.long t2), .second, .val (.long t3), .second, .val (.int mq), .val (.int eq), .val (.double ty), .second, .unset, .unset, .unset, .unset, .unset, .unset] [(.int (4 : Int32))])) rfl (hb hby at_130) rfl (by decide) (cap := 4) (by decide) (by decide) (by decide) (by decide)
      obtain ⟨b41, g41⟩ : ∃ z, z = h0.size := ⟨_, rfl⟩
      rw [← g41] at A41 st41
      have g_b41 : n0 ≤ b41 := Nat.le_trans Z0 (Nat.le_of_eq g41.symm)
      have Zs41 := Nat.le_trans Z0 E41.1
      have V_b41 : Arv Z h41 b41 c41 .double (4 : Int32) [(.double (0 : UInt64)), (.double (0 : UInt64)), (.double (0 : UInt64)), (.double (0 : UInt64))] (.double (0 : UInt64)) := (Arv.new A41 (by decide)).pad (pad_rep [] (.double (0 : UInt64)) 4)
      obtain ⟨cl42, Ar42, q42, Sz42, Ng42, Hs42, Gs42⟩ := V_b41
      have hin42 : ¬ ((0 : Int32) < 0 ∨ cl42.slots.size ≤ ((0 : Int32)).toNatClampNeg) := inb_of Sz42 ⟨by decide, by decide⟩
      obtain ⟨T43, h43, X43, e43, W43, st43⟩ := stD X41 hx hZ e41 Ar42 (j := (0 : Int32)) hin42 (g := (mkF m 140 #[.val (.long p1), .second, .val (.long p2), .second, .val (.long p3), .second, .val (.long p4), .second, .val (.int p5), .val (.int (0 : Int32)), .val (.long t1), .second, .val (.long t2), .second, .val (.long t3), .second, .val (.int mq), .val (.int eq), .val (.double ty), .second, .val (.ref b41), .unset, .unset, .unset, .unset, .unset] [(.double (FP.l2d t1)), (.int (0 : Int32)), (.ref b41)])) rfl rfl (hb hby at_140)
      have Zs43 := Nat.le_trans Zs41 (Keep.of_wr W43).1
      have V_b41 : Arv Z h43 b41 c41 .double (4 : Int32) [(.double (FP.l2d t1)), (.double (0 : UInt64)), (.double (0 : UInt64)), (.double (0 : UInt64))] (.double (0 : UInt64)) := Arv.set Ar42 q42 Sz42 Ng42 Hs42 Gs42 rfl W43 0 rfl (Nat.le_of_ble_eq_true rfl)
      have N43 := Fr.snoc X43 N37 g_b41
      obtain ⟨cl44, Ar44, q44, Sz44, Ng44, Hs44, Gs44⟩ := V_b41
      have hin44 : ¬ ((1 : Int32) < 0 ∨ cl44.slots.size ≤ ((1 : Int32)).toNatClampNeg) := inb_of Sz44 ⟨by decide, by decide⟩
      obtain ⟨T45, h45, X45, e45, W45, st45⟩ := stD X43 hx hZ e43 Ar44 (j := (1 : Int32)) hin44 (g := (mkF m 147 #[.val (.long p1), .second, .val (.long p2), .second, .val (.long p3), .second, .val (.long p4), .second, .val (.int p5), .val (.int (0 : Int32)), .val (.long t1), .second, .val (.long t2), .second, .val (.long t3), .second, .val (.int mq), .val (.int eq), .val (.double ty), .second, .val (.ref b41), .unset, .unset, .unset, .unset, .unset] [(.double (FP.l2d t2)), (.int (1 : Int32)), (.ref b41)])) rfl rfl (hb hby at_147)
      have Zs45 := Nat.le_trans Zs43 (Keep.of_wr W45).1
      have V_b41 : Arv Z h45 b41 c41 .double (4 : Int32) [(.double (FP.l2d t1)), (.double (FP.l2d t2)), (.double (0 : UInt64)), (.double (0 : UInt64))] (.double (0 : UInt64)) := Arv.set Ar44 q44 Sz44 Ng44 Hs44 Gs44 rfl W45 1 rfl (Nat.le_of_ble_eq_true rfl)
      have N45 := Fr.snoc X45 N43 g_b41
      obtain ⟨cl46, Ar46, q46, Sz46, Ng46, Hs46, Gs46⟩ := V_b41
      have hin46 : ¬ ((2 : Int32) < 0 ∨ cl46.slots.size ≤ ((2 : Int32)).toNatClampNeg) := inb_of Sz46 ⟨by decide, by decide⟩
      obtain ⟨T47, h47, X47, e47, W47, st47⟩ := stD X45 hx hZ e45 Ar46 (j := (2 : Int32)) hin46 (g := (mkF m 154 #[.val (.long p1), .second, .val (.long p2), .second, .val (.long p3), .second, .val (.long p4), .second, .val (.int p5), .val (.int (0 : Int32)), .val (.long t1), .second, .val (.long t2), .second, .val (.long t3), .second, .val (.int mq), .val (.int eq), .val (.double ty), .second, .val (.ref b41), .unset, .unset, .unset, .unset, .unset] [(.double (FP.l2d t3)), (.int (2 : Int32)), (.ref b41)])) rfl rfl (hb hby at_154)
      have Zs47 := Nat.le_trans Zs45 (Keep.of_wr W47).1
      have V_b41 : Arv Z h47 b41 c41 .double (4 : Int32) [(.double (FP.l2d t1)), (.double (FP.l2d t2)), (.double (FP.l2d t3)), (.double (0 : UInt64))] (.double (0 : UInt64)) := Arv.set Ar46 q46 Sz46 Ng46 Hs46 Gs46 rfl W47 2 rfl (Nat.le_of_ble_eq_true rfl)
      have N47 := Fr.snoc X47 N45 g_b41
      obtain ⟨cl48, Ar48, q48, Sz48, Ng48, Hs48, Gs48⟩ := V_b41
      have hin48 : ¬ ((3 : Int32) < 0 ∨ cl48.slots.size ≤ ((3 : Int32)).toNatClampNeg) := inb_of Sz48 ⟨by decide, by decide⟩
      obtain ⟨T49, h49, X49, e49, W49, st49⟩ := stD X47 hx hZ e47 Ar48 (j := (3 : Int32)) hin48 (g := (mkF m 160 #[.val (.long p1), .second, .val (.long p2), .second, .val (.long p3), .second, .val (.long p4), .second, .val (.int p5), .val (.int (0 : Int32)), .val (.long t1), .second, .val (.long t2), .second, .val (.long t3), .second, .val (.int mq), .val (.int eq), .val (.double ty), .second, .val (.ref b41), .unset, .unset, .unset, .unset, .unset] [(.double ty), (.int (3 : Int32)), (.ref b41)])) rfl rfl (hb hby at_160)
      have Zs49 := Nat.le_trans Zs47 (Keep.of_wr W49).1
      have V_b41 : Arv Z h49 b41 c41 .double (4 : Int32) [(.double (FP.l2d t1)), (.double (FP.l2d t2)), (.double (FP.l2d t3)), (.double ty)] (.double (0 : UInt64)) := Arv.set Ar48 q48 Sz48 Ng48 Hs48 Gs48 rfl W49 3 rfl (Nat.le_of_ble_eq_true rfl)
      have N49 := Fr.snoc X49 N47 g_b41
      obtain ⟨_, _, ⟨T50, L50, k50_, n50⟩, -, X50, ⟨Lc50, hQ50, l50, y50, z50⟩, st50⟩ := Jvm.LawKit.callS X49 hx (y := (⟨"com/example/prose_to_query/prosetoquery/retrieval/ExactSumValuePinLaw", "swap", "([DII)V"⟩ : MethodName)) hown (mvT hZ (hw _ (List.mem_of_getElem? (i := 30) rfl))) (mvT hZ (hw _ (List.mem_of_getElem? (i := 31) rfl))) (mvT hZ (hw _ (List.mem_of_getElem? (i := 21) rfl))) (mvT hZ (hw _ (List.mem_of_getElem? (i := 32) rfl))) (by decide) (backOf (W := 0) (rm6 l Z a0 hw [] b41 (p5 &&& (3 : Int32)) (((p5.toUInt32 >>> ((2 : Int32) &&& 31).toUInt32).toInt32) &&& (3 : Int32)) c41 (FP.l2d t1) (FP.l2d t2) (FP.l2d t3) ty h49 n0 Zs49 V_b41 g_b41 (own_and3 _) (own_and3 _)) hZ (hw _ (List.mem_of_getElem? (i := 32) rfl)) (hw _ (List.mem_of_getElem? (i := 21) rfl)) (by decide) (by decide)) (g := (mkF m 173 #[.val (.long p1), .second, .val (.long p2), .second, .val (.long p3), .second, .val (.long p4), .second, .val (.int p5), .val (.int (0 : Int32)), .val (.long t1), .second, .val (.long t2), .second, .val (.long t3), .second, .val (.int mq), .val (.int eq), .val (.double ty), .second, .val (.ref b41), .unset, .unset, .unset, .unset, .unset] [(.int (((p5.toUInt32 >>> ((2 : Int32) &&& 31).toUInt32).toInt32) &&& (3 : Int32))), (.int (p5 &&& (3 : Int32))), (.ref b41)])) rfl (by rw [hml]; rfl) (argsL := [(.ref b41), (.int (p5 &&& (3 : Int32))), (.int (((p5.toUInt32 >>> ((2 : Int32) &&& 31).toUInt32).toInt32) &&& (3 : Int32)))]) (rest := []) (lenOf pd_4 rfl) rfl (by show 2 * 0 + _ ≤ _; exact Nat.le_of_eq rfl) (hb hby at_173) (fun _ _ => ⟨rfl, e49, (by decide : 1 + 0 ≤ _), (by decide : 4 + 0 ≤ _)⟩)
      dsimp only [Pt.U, Pt.locs, Pt.cells, Pt.slots] at X50 l50 y50 z50 st50 hQ50
      subst l50 y50 z50
      obtain ⟨s0_0, s0_1, s0_2, s0_3, rfl, Nq50, Ks0, Vs0, Pm0⟩ := hQ50
      have N50 := Fr.app N49 Nq50
      have Zs50 := Nat.le_trans Zs49 Ks0.1
      replace hQ := Pm0 _ hQ
      obtain ⟨_, _, ⟨T51, L51, k51_, n51⟩, -, X51, ⟨Lc51, hQ51, l51, y51, z51⟩, st51⟩ := Jvm.LawKit.callS X50 hx (y := (⟨"com/example/prose_to_query/prosetoquery/retrieval/ExactSumValuePinLaw", "swap", "([DII)V"⟩ : MethodName)) hown (mvT hZ (hw _ (List.mem_of_getElem? (i := 30) rfl))) (mvT hZ (hw _ (List.mem_of_getElem? (i := 31) rfl))) (mvT hZ (hw _ (List.mem_of_getElem? (i := 21) rfl))) (mvT hZ (hw _ (List.mem_of_getElem? (i := 32) rfl))) (by decide) (backOf (W := 0) (rm6 l Z a0 hw [] b41 (((p5.toUInt32 >>> ((4 : Int32) &&& 31).toUInt32).toInt32) &&& (3 : Int32)) (((p5.toUInt32 >>> ((6 : Int32) &&& 31).toUInt32).toInt32) &&& (3 : Int32)) c41 s0_0 s0_1 s0_2 s0_3 T50.heap n0 Zs50 Vs0 g_b41 (own_and3 _) (own_and3 _)) hZ (hw _ (List.mem_of_getElem? (i := 32) rfl)) (hw _ (List.mem_of_getElem? (i := 21) rfl)) (by decide) (by decide)) (g := (mkF m 191 #[.val (.long p1), .second, .val (.long p2), .second, .val (.long p3), .second, .val (.long p4), .second, .val (.int p5), .val (.int (0 : Int32)), .val (.long t1), .second, .val (.long t2), .second, .val (.long t3), .second, .val (.int mq), .val (.int eq), .val (.double ty), .second, .val (.ref b41), .unset, .unset, .unset, .unset, .unset] [(.int (((p5.toUInt32 >>> ((6 : Int32) &&& 31).toUInt32).toInt32) &&& (3 : Int32))), (.int (((p5.toUInt32 >>> ((4 : Int32) &&& 31).toUInt32).toInt32) &&& (3 : Int32))), (.ref b41)])) rfl (by rw [hml]; rfl) (argsL := [(.ref b41), (.int (((p5.toUInt32 >>> ((4 : Int32) &&& 31).toUInt32).toInt32) &&& (3 : Int32))), (.int (((p5.toUInt32 >>> ((6 : Int32) &&& 31).toUInt32).toInt32) &&& (3 : Int32)))]) (rest := []) (lenOf pd_4 rfl) rfl (by show 2 * 0 + _ ≤ _; exact Nat.le_of_eq rfl) (hb hby at_191) (fun _ _ => ⟨rfl, rfl, (by decide : 1 + 0 ≤ _), (by decide : 4 + 0 ≤ _)⟩)
      dsimp only [Pt.U, Pt.locs, Pt.cells, Pt.slots] at X51 l51 y51 z51 st51 hQ51
      subst l51 y51 z51
      obtain ⟨s1_0, s1_1, s1_2, s1_3, rfl, Nq51, Ks1, Vs1, Pm1⟩ := hQ51
      have N51 := Fr.app N50 Nq51
      have Zs51 := Nat.le_trans Zs50 Ks1.1
      replace hQ := Pm1 _ hQ
      obtain ⟨_, _, ⟨T52, L52, k52_, n52⟩, -, X52, ⟨Lc52, hQ52, l52, y52, z52⟩, st52⟩ := Jvm.LawKit.callS X51 hx (y := (⟨"com/example/prose_to_query/prosetoquery/retrieval/ExactSumValuePinLaw", "swap", "([DII)V"⟩ : MethodName)) hown (mvT hZ (hw _ (List.mem_of_getElem? (i := 30) rfl))) (mvT hZ (hw _ (List.mem_of_getElem? (i := 31) rfl))) (mvT hZ (hw _ (List.mem_of_getElem? (i := 21) rfl))) (mvT hZ (hw _ (List.mem_of_getElem? (i := 32) rfl))) (by decide) (backOf (W := 0) (rm6 l Z a0 hw [] b41 (((p5.toUInt32 >>> ((8 : Int32) &&& 31).toUInt32).toInt32) &&& (3 : Int32)) (((p5.toUInt32 >>> ((10 : Int32) &&& 31).toUInt32).toInt32) &&& (3 : Int32)) c41 s1_0 s1_1 s1_2 s1_3 T51.heap n0 Zs51 Vs1 g_b41 (own_and3 _) (own_and3 _)) hZ (hw _ (List.mem_of_getElem? (i := 32) rfl)) (hw _ (List.mem_of_getElem? (i := 21) rfl)) (by decide) (by decide)) (g := (mkF m 210 #[.val (.long p1), .second, .val (.long p2), .second, .val (.long p3), .second, .val (.long p4), .second, .val (.int p5), .val (.int (0 : Int32)), .val (.long t1), .second, .val (.long t2), .second, .val (.long t3), .second, .val (.int mq), .val (.int eq), .val (.double ty), .second, .val (.ref b41), .unset, .unset, .unset, .unset, .unset] [(.int (((p5.toUInt32 >>> ((10 : Int32) &&& 31).toUInt32).toInt32) &&& (3 : Int32))), (.int (((p5.toUInt32 >>> ((8 : Int32) &&& 31).toUInt32).toInt32) &&& (3 : Int32))), (.ref b41)])) rfl (by rw [hml]; rfl) (argsL := [(.ref b41), (.int (((p5.toUInt32 >>> ((8 : Int32) &&& 31).toUInt32).toInt32) &&& (3 : Int32))), (.int (((p5.toUInt32 >>> ((10 : Int32) &&& 31).toUInt32).toInt32) &&& (3 : Int32)))]) (rest := []) (lenOf pd_4 rfl) rfl (by show 2 * 0 + _ ≤ _; exact Nat.le_of_eq rfl) (hb hby at_210) (fun _ _ => ⟨rfl, rfl, (by decide : 1 + 0 ≤ _), (by decide : 4 + 0 ≤ _)⟩)
      dsimp only [Pt.U, Pt.locs, Pt.cells, Pt.slots] at X52 l52 y52 z52 st52 hQ52
      subst l52 y52 z52
      obtain ⟨s2_0, s2_1, s2_2, s2_3, rfl, Nq52, Ks2, Vs2, Pm2⟩ := hQ52
      have N52 := Fr.app N51 Nq52
      have Zs52 := Nat.le_trans Zs51 Ks2.1
      replace hQ := Pm2 _ hQ
      obtain ⟨T53, h53, X53, e53, E53, A53, D53, -, st53⟩ := newO X52 hx hZ hown (hw _ (List.mem_of_getElem? (i := 0) rfl)) (hw _ (List.mem_of_getElem? (i := 1) rfl)) (hw _ (List.mem_of_getElem? (i := 2) rfl)) rfl (g := (mkF m 213 #[.val (.long p1), .second, .val (.long p2), .second, .val (.long p3), .second, .val (.long p4), .second, .val (.int p5), .val (.int (0 : Int32)), .val (.long t1), .second, .val (.long t2), .second, .val (.long t3), .second, .val (.int mq), .val (.int eq), .val (.double ty), .second, .val (.ref b41), .unset, .unset, .unset, .unset, .unset] [])) rfl (hb hby at_213) (by decide) (by decide)
      obtain ⟨b53, g53⟩ : ∃ z, z = T52.heap.size := ⟨_, rfl⟩
      rw [← g53] at A53 D53 st53
      have ne_b41_b53 : b41 ≠ b53 := Nat.ne_of_lt (Nat.lt_of_lt_of_le Vs2.lt (Nat.le_of_eq g53.symm))
      have g_b53 : n0 ≤ b53 := Nat.le_trans Zs52 (Nat.le_of_eq g53.symm)
      replace Vs2 := Vs2.ext E53
      have Zs53 := Nat.le_trans Zs52 E53.1
      have Ex_b53 := A53
      have F_partials_b53 : Fld Z h53 b53 "com/example/prose_to_query/prosetoquery/retrieval/ExactSum" "partials" "[D" .null := D53 (Or.inl (hw _ (List.mem_of_getElem? (i := 11) rfl))) (ty := (.array .double)) (by decide)
      have F_size_b53 : Fld Z h53 b53 "com/example/prose_to_query/prosetoquery/retrieval/ExactSum" "size" "I" (.int (0 : Int32)) := D53 (Or.inl (hw _ (List.mem_of_getElem? (i := 18) rfl))) (ty := .int) (by decide)
      obtain ⟨n0_, l1, n1, l2, n2, l3, n3, l4, vn, hV⟩ := own_four_Q hQ
      obtain ⟨_, _, ⟨T54, L54, k54_, n54⟩, -, X54, ⟨Lc54, hQ54, l54, y54, z54⟩, st54⟩ := X53.specialBack hx (y := (⟨"com/example/prose_to_query/prosetoquery/retrieval/ExactSum", "<init>", "()V"⟩ : MethodName)) rfl hown (mvT hZ (hw _ (List.mem_of_getElem? (i := 3) rfl))) (mvT hZ (hw _ (List.mem_of_getElem? (i := 4) rfl))) (mvT hZ (hw _ (List.mem_of_getElem? (i := 5) rfl))) (by decide) (backOf (W := 1) (rm1 l Z a0 hw [] b53 _ h53 n0 Zs53 Ex_b53 F_partials_b53 F_size_b53 g_b53) hZ (hw _ (List.mem_of_getElem? (i := 5) rfl)) (hw _ (List.mem_of_getElem? (i := 2) rfl)) (by decide) (by decide)) (g := (mkF m 217 #[.val (.long p1), .second, .val (.long p2), .second, .val (.long p3), .second, .val (.long p4), .second, .val (.int p5), .val (.int (0 : Int32)), .val (.long t1), .second, .val (.long t2), .second, .val (.long t3), .second, .val (.int mq), .val (.int eq), .val (.double ty), .second, .val (.ref b41), .unset, .unset, .unset, .unset, .unset] [(.ref b53), (.ref b53)])) rfl (by rw [hml]; rfl) (Steps.refl _) (a := b53) (argsL := []) (rest := [(.ref b53)]) (lenOf pd_1 rfl) rfl (by show 2 * 0 + _ ≤ _; exact Nat.le_of_eq rfl) (hb hby at_217) (fun _ _ => ⟨rfl, e53, (by decide : 2 + 1 ≤ _), (by decide : 6 + 4 ≤ _)⟩)
      dsimp only [Pt.U, Pt.locs, Pt.cells, Pt.slots] at X54 l54 y54 z54 st54 hQ54
      subst l54 y54 z54
      obtain ⟨ar, kc, rfl, Nq54, K1, Fp, Fs, Va, Ear, Gar⟩ := hQ54
      have N54 := Fr.app N52 Nq54
      have ne_b53_ar : b53 ≠ ar := Nat.ne_of_lt (Nat.lt_of_lt_of_le Ex_b53.lt Gar)
      have g_ar : n0 ≤ ar := Nat.le_trans Zs53 Gar
      have ne_b41_ar : b41 ≠ ar := Nat.ne_of_lt (Nat.lt_of_lt_of_le Vs2.lt Gar)
      replace Vs2 := Vs2.keep K1 (by simpa using ne_b41_b53)
      replace Ex_b53 := Ex_b53.keep K1
      have Zs54 := Nat.le_trans Zs53 K1.1
      obtain ⟨cl55, Ar55, -, Sz55, Ng55, Hs55, -⟩ := id Vs2
      have hin55 : ¬ ((0 : Int32) < 0 ∨ cl55.slots.size ≤ ((0 : Int32)).toNatClampNeg) := inb_of Sz55 ⟨by decide, by decide⟩
      have hat55 : cl55.slots[((0 : Int32)).toNatClampNeg]? = some (.double s2_0) := Hs55 _ (Nat.lt_of_not_le fun q => hin55 (Or.inr q))
      obtain ⟨cq56, kq56, q56a, q56b, q56c⟩ := isOf hZ rfl Ex_b53
      obtain ⟨_, _, ⟨T56, L56, k56_, n56⟩, -, X56, ⟨Lc56, hQ56, l56, y56, z56⟩, st56⟩ := X54.virtualBack hx (y := (⟨"com/example/prose_to_query/prosetoquery/retrieval/ExactSum", "add", "(D)V"⟩ : MethodName)) (z := (⟨"com/example/prose_to_query/prosetoquery/retrieval/ExactSum", "add", "(D)V"⟩ : MethodName)) hown (mvT hZ (hw _ (List.mem_of_getElem? (i := 33) rfl))) (mvT hZ (hw _ (List.mem_of_getElem? (i := 34) rfl))) (notFace_of_selects (args := #[]) (mvT hZ (hw _ (List.mem_of_getElem? (i := 36) rfl)))) (mvT hZ (hw _ (List.mem_of_getElem? (i := 36) rfl))) (mvT hZ (hw _ (List.mem_of_getElem? (i := 35) rfl))) (by decide) (backOf (W := 0) (rm2 l Z a0 hw [] b53 s2_0 0 ar kc 0 0 0 0 [] T54.heap n0 Zs54 Ex_b53 Fp Fs Va ne_b53_ar g_b53 g_ar own_res0 (by decide) n0_) hZ (hw _ (List.mem_of_getElem? (i := 37) rfl)) (hw _ (List.mem_of_getElem? (i := 2) rfl)) (by decide) (by decide)) q56a q56c (g := (mkF m 228 #[.val (.long p1), .second, .val (.long p2), .second, .val (.long p3), .second, .val (.long p4), .second, .val (.int p5), .val (.int (0 : Int32)), .val (.long t1), .second, .val (.long t2), .second, .val (.long t3), .second, .val (.int mq), .val (.int eq), .val (.double ty), .second, .val (.ref b41), .val (.ref b53), .unset, .unset, .unset, .unset] [(.double s2_0), (.ref b53)])) rfl (by rw [hml]; rfl) (Steps.refl _) (argsL := [(.double s2_0)]) (rest := []) (lenOf pd_5 rfl) rfl (by show 2 * 0 + _ ≤ _; exact Nat.le_of_eq rfl) (hb hby at_228) (fun _ _ => ⟨rfl, rfl, (by decide : 3 + 0 ≤ _), (by decide : 10 + 0 ≤ _)⟩)
      dsimp only [Pt.U, Pt.locs, Pt.cells, Pt.slots] at X56 l56 y56 z56 st56 hQ56
      subst l56 y56 z56
      obtain ⟨kx0, rx0_0, rx0_1, rx0_2, rx0_3, rfl, Nq56, Kx0, Fpx0, Fsx0, Vax0, Rx0⟩ := hQ56
      have N56 := Fr.app N54 Nq56
      replace Vs2 := Vs2.keep Kx0 (by simp; exact ⟨ne_b41_b53, ne_b41_ar⟩)
      replace Ex_b53 := Ex_b53.keep Kx0
      replace Ear := Ear.keep Kx0
      have Zs56 := Nat.le_trans Zs54 Kx0.1
      obtain ⟨cl57, Ar57, -, Sz57, Ng57, Hs57, -⟩ := id Vs2
      have hin57 : ¬ ((1 : Int32) < 0 ∨ cl57.slots.size ≤ ((1 : Int32)).toNatClampNeg) := inb_of Sz57 ⟨by decide, by decide⟩
      have hat57 : cl57.slots[((1 : Int32)).toNatClampNeg]? = some (.double s2_1) := Hs57 _ (Nat.lt_of_not_le fun q => hin57 (Or.inr q))
      obtain ⟨cq58, kq58, q58a, q58b, q58c⟩ := isOf hZ rfl Ex_b53
      obtain ⟨_, _, ⟨T58, L58, k58_, n58⟩, -, X58, ⟨Lc58, hQ58, l58, y58, z58⟩, st58⟩ := X56.virtualBack hx (y := (⟨"com/example/prose_to_query/prosetoquery/retrieval/ExactSum", "add", "(D)V"⟩ : MethodName)) (z := (⟨"com/example/prose_to_query/prosetoquery/retrieval/ExactSum", "add", "(D)V"⟩ : MethodName)) hown (mvT hZ (hw _ (List.mem_of_getElem? (i := 33) rfl))) (mvT hZ (hw _ (List.mem_of_getElem? (i := 34) rfl))) (notFace_of_selects (args := #[]) (mvT hZ (hw _ (List.mem_of_getElem? (i := 36) rfl)))) (mvT hZ (hw _ (List.mem_of_getElem? (i := 36) rfl))) (mvT hZ (hw _ (List.mem_of_getElem? (i := 35) rfl))) (by decide) (backOf (W := 0) (rm2 l Z a0 hw [] b53 s2_1 kx0 ar kc rx0_0 rx0_1 rx0_2 rx0_3 (own_ins [] s2_0) T56.heap n0 Zs56 Ex_b53 Fpx0 Fsx0 Vax0 ne_b53_ar g_b53 g_ar Rx0 l1 n1) hZ (hw _ (List.mem_of_getElem? (i := 37) rfl)) (hw _ (List.mem_of_getElem? (i := 2) rfl)) (by decide) (by decide)) q58a q58c (g := (mkF m 237 #[.val (.long p1), .second, .val (.long p2), .second, .val (.long p3), .second, .val (.long p4), .second, .val (.int p5), .val (.int (0 : Int32)), .val (.long t1), .second, .val (.long t2), .second, .val (.long t3), .second, .val (.int mq), .val (.int eq), .val (.double ty), .second, .val (.ref b41), .val (.ref b53), .unset, .unset, .unset, .unset] [(.double s2_1), (.ref b53)])) rfl (by rw [hml]; rfl) (Steps.refl _) (argsL := [(.double s2_1)]) (rest := []) (lenOf pd_5 rfl) rfl (by show 2 * 0 + _ ≤ _; exact Nat.le_of_eq rfl) (hb hby at_237) (fun _ _ => ⟨rfl, rfl, (by decide : 3 + 0 ≤ _), (by decide : 10 + 0 ≤ _)⟩)
      dsimp only [Pt.U, Pt.locs, Pt.cells, Pt.slots] at X58 l58 y58 z58 st58 hQ58
      subst l58 y58 z58
      obtain ⟨kx1, rx1_0, rx1_1, rx1_2, rx1_3, rfl, Nq58, Kx1, Fpx1, Fsx1, Vax1, Rx1⟩ := hQ58
      have N58 := Fr.app N56 Nq58
      replace Vs2 := Vs2.keep Kx1 (by simp; exact ⟨ne_b41_b53, ne_b41_ar⟩)
      replace Ex_b53 := Ex_b53.keep Kx1
      replace Ear := Ear.keep Kx1
      have Zs58 := Nat.le_trans Zs56 Kx1.1
      obtain ⟨cl59, Ar59, -, Sz59, Ng59, Hs59, -⟩ := id Vs2
      have hin59 : ¬ ((2 : Int32) < 0 ∨ cl59.slots.size ≤ ((2 : Int32)).toNatClampNeg) := inb_of Sz59 ⟨by decide, by decide⟩
      have hat59 : cl59.slots[((2 : Int32)).toNatClampNeg]? = some (.double s2_2) := Hs59 _ (Nat.lt_of_not_le fun q => hin59 (Or.inr q))
      obtain ⟨cq60, kq60, q60a, q60b, q60c⟩ := isOf hZ rfl Ex_b53
      obtain ⟨_, _, ⟨T60, L60, k60_, n60⟩, -, X60, ⟨Lc60, hQ60, l60, y60, z60⟩, st60⟩ := X58.virtualBack hx (y := (⟨"com/example/prose_to_query/prosetoquery/retrieval/ExactSum", "add", "(D)V"⟩ : MethodName)) (z := (⟨"com/example/prose_to_query/prosetoquery/retrieval/ExactSum", "add", "(D)V"⟩ : MethodName)) hown (mvT hZ (hw _ (List.mem_of_getElem? (i := 33) rfl))) (mvT hZ (hw _ (List.mem_of_getElem? (i := 34) rfl))) (notFace_of_selects (args := #[]) (mvT hZ (hw _ (List.mem_of_getElem? (i := 36) rfl)))) (mvT hZ (hw _ (List.mem_of_getElem? (i := 36) rfl))) (mvT hZ (hw _ (List.mem_of_getElem? (i := 35) rfl))) (by decide) (backOf (W := 0) (rm2 l Z a0 hw [] b53 s2_2 kx1 ar kc rx1_0 rx1_1 rx1_2 rx1_3 (own_ins (own_ins [] s2_0) s2_1) T58.heap n0 Zs58 Ex_b53 Fpx1 Fsx1 Vax1 ne_b53_ar g_b53 g_ar Rx1 l2 n2) hZ (hw _ (List.mem_of_getElem? (i := 37) rfl)) (hw _ (List.mem_of_getElem? (i := 2) rfl)) (by decide) (by decide)) q60a q60c (g := (mkF m 246 #[.val (.long p1), .second, .val (.long p2), .second, .val (.long p3), .second, .val (.long p4), .second, .val (.int p5), .val (.int (0 : Int32)), .val (.long t1), .second, .val (.long t2), .second, .val (.long t3), .second, .val (.int mq), .val (.int eq), .val (.double ty), .second, .val (.ref b41), .val (.ref b53), .unset, .unset, .unset, .unset] [(.double s2_2), (.ref b53)])) rfl (by rw [hml]; rfl) (Steps.refl _) (argsL := [(.double s2_2)]) (rest := []) (lenOf pd_5 rfl) rfl (by show 2 * 0 + _ ≤ _; exact Nat.le_of_eq rfl) (hb hby at_246) (fun _ _ => ⟨rfl, rfl, (by decide : 3 + 0 ≤ _), (by decide : 10 + 0 ≤ _)⟩)
      dsimp only [Pt.U, Pt.locs, Pt.cells, Pt.slots] at X60 l60 y60 z60 st60 hQ60
      subst l60 y60 z60
      obtain ⟨kx2, rx2_0, rx2_1, rx2_2, rx2_3, rfl, Nq60, Kx2, Fpx2, Fsx2, Vax2, Rx2⟩ := hQ60
      have N60 := Fr.app N58 Nq60
      replace Vs2 := Vs2.keep Kx2 (by simp; exact ⟨ne_b41_b53, ne_b41_ar⟩)
      replace Ex_b53 := Ex_b53.keep Kx2
      replace Ear := Ear.keep Kx2
      have Zs60 := Nat.le_trans Zs58 Kx2.1
      obtain ⟨cl61, Ar61, -, Sz61, Ng61, Hs61, -⟩ := id Vs2
      have hin61 : ¬ ((3 : Int32) < 0 ∨ cl61.slots.size ≤ ((3 : Int32)).toNatClampNeg) := inb_of Sz61 ⟨by decide, by decide⟩
      have hat61 : cl61.slots[((3 : Int32)).toNatClampNeg]? = some (.double s2_3) := Hs61 _ (Nat.lt_of_not_le fun q => hin61 (Or.inr q))
      obtain ⟨cq62, kq62, q62a, q62b, q62c⟩ := isOf hZ rfl Ex_b53
      obtain ⟨_, _, ⟨T62, L62, k62_, n62⟩, -, X62, ⟨Lc62, hQ62, l62, y62, z62⟩, st62⟩ := X60.virtualBack hx (y := (⟨"com/example/prose_to_query/prosetoquery/retrieval/ExactSum", "add", "(D)V"⟩ : MethodName)) (z := (⟨"com/example/prose_to_query/prosetoquery/retrieval/ExactSum", "add", "(D)V"⟩ : MethodName)) hown (mvT hZ (hw _ (List.mem_of_getElem? (i := 33) rfl))) (mvT hZ (hw _ (List.mem_of_getElem? (i := 34) rfl))) (notFace_of_selects (args := #[]) (mvT hZ (hw _ (List.mem_of_getElem? (i := 36) rfl)))) (mvT hZ (hw _ (List.mem_of_getElem? (i := 36) rfl))) (mvT hZ (hw _ (List.mem_of_getElem? (i := 35) rfl))) (by decide) (backOf (W := 0) (rm2 l Z a0 hw [] b53 s2_3 kx2 ar kc rx2_0 rx2_1 rx2_2 rx2_3 (own_ins (own_ins (own_ins [] s2_0) s2_1) s2_2) T60.heap n0 Zs60 Ex_b53 Fpx2 Fsx2 Vax2 ne_b53_ar g_b53 g_ar Rx2 l3 n3) hZ (hw _ (List.mem_of_getElem? (i := 37) rfl)) (hw _ (List.mem_of_getElem? (i := 2) rfl)) (by decide) (by decide)) q62a q62c (g := (mkF m 255 #[.val (.long p1), .second, .val (.long p2), .second, .val (.long p3), .second, .val (.long p4), .second, .val (.int p5), .val (.int (0 : Int32)), .val (.long t1), .second, .val (.long t2), .second, .val (.long t3), .second, .val (.int mq), .val (.int eq), .val (.double ty), .second, .val (.ref b41), .val (.ref b53), .unset, .unset, .unset, .unset] [(.double s2_3), (.ref b53)])) rfl (by rw [hml]; rfl) (Steps.refl _) (argsL := [(.double s2_3)]) (rest := []) (lenOf pd_5 rfl) rfl (by show 2 * 0 + _ ≤ _; exact Nat.le_of_eq rfl) (hb hby at_255) (fun _ _ => ⟨rfl, rfl, (by decide : 3 + 0 ≤ _), (by decide : 10 + 0 ≤ _)⟩)
      dsimp only [Pt.U, Pt.locs, Pt.cells, Pt.slots] at X62 l62 y62 z62 st62 hQ62
      subst l62 y62 z62
      obtain ⟨kx3, rx3_0, rx3_1, rx3_2, rx3_3, rfl, Nq62, Kx3, Fpx3, Fsx3, Vax3, Rx3⟩ := hQ62
      have N62 := Fr.app N60 Nq62
      replace Vs2 := Vs2.keep Kx3 (by simp; exact ⟨ne_b41_b53, ne_b41_ar⟩)
      replace Ex_b53 := Ex_b53.keep Kx3
      replace Ear := Ear.keep Kx3
      have Zs62 := Nat.le_trans Zs60 Kx3.1
      have k63 : ∀ t_, Steps p.tables e below (T62.setTop (mkF m 268 #[.val (.long p1), .second, .val (.long p2), .second, .val (.long p3), .second, .val (.long p4), .second, .val (.int p5), .val (.int (0 : Int32)), .val (.long t1), .second, .val (.long t2), .second, .val (.long t3), .second, .val (.int mq), .val (.int eq), .val (.double ty), .second, .val (.ref b41), .val (.ref b53), .val (.long ((t1 + t2) + t3)), .second, .unset, .unset] [])) t_ → Steps p.tables e below A t_ := by
        intro t_ ht_
        refine k40 t_ ?_
        refine own_f_iconst X37.here hx (hb hby at_129) (rfl : _ = (4 : Int32)) (rfl : _ = 130) ?_
        refine st41 _ ?_
        show Steps p.tables e below (T41.setTop (mkF m 132 #[.val (.long p1), .second, .val (.long p2), .second, .val (.long p3), .second, .val (.long p4), .second, .val (.int p5), .val (.int (0 : Int32)), .val (.long t1), .second, .val (.long t2), .second, .val (.long t3), .second, .val (.int mq), .val (.int eq), .val (.double ty), .second, .unset, .unset, .unset, .unset, .unset, .unset] [(.ref b41)])) t_
        refine own_f_astore X41.here hx (hb hby at_132) rfl (rfl : storeLocals _ _ _ = some #[.val (.long p1), .second, .val (.long p2), .second, .val (.long p3), .second, .val (.long p4), .second, .val (.int p5), .val (.int (0 : Int32)), .val (.long t1), .second, .val (.long t2), .second, .val (.long t3), .second, .val (.int mq), .val (.int eq), .val (.double ty), .second, .val (.ref b41), .unset, .unset, .unset, .unset, .unset]) (rfl : _ = 134) ?_
        refine own_f_aload X41.here hx (hb hby at_134) rfl rfl (rfl : _ = 136) ?_
        refine own_f_iconst X41.here hx (hb hby at_136) (rfl : _ = (0 : Int32)) (rfl : _ = 137) ?_
        refine own_f_lload X41.here hx (hb hby at_137) rfl (rfl : _ = 139) ?_
        refine own_f_l2d X41.here hx (hb hby at_139) rfl (rfl : _ = 140) ?_
        refine st43 _ ?_
        show Steps p.tables e below (T43.setTop (mkF m 141 #[.val (.long p1), .second, .val (.long p2), .second, .val (.long p3), .second, .val (.long p4), .second, .val (.int p5), .val (.int (0 : Int32)), .val (.long t1), .second, .val (.long t2), .second, .val (.long t3), .second, .val (.int mq), .val (.int eq), .val (.double ty), .second, .val (.ref b41), .unset, .unset, .unset, .unset, .unset] [])) t_
        refine own_f_aload X43.here hx (hb hby at_141) rfl rfl (rfl : _ = 143) ?_
        refine own_f_iconst X43.here hx (hb hby at_143) (rfl : _ = (1 : Int32)) (rfl : _ = 144) ?_
        refine own_f_lload X43.here hx (hb hby at_144) rfl (rfl : _ = 146) ?_
        refine own_f_l2d X43.here hx (hb hby at_146) rfl (rfl : _ = 147) ?_
        refine st45 _ ?_
        show Steps p.tables e below (T45.setTop (mkF m 148 #[.val (.long p1), .second, .val (.long p2), .second, .val (.long p3), .second, .val (.long p4), .second, .val (.int p5), .val (.int (0 : Int32)), .val (.long t1), .second, .val (.long t2), .second, .val (.long t3), .second, .val (.int mq), .val (.int eq), .val (.double ty), .second, .val (.ref b41), .unset, .unset, .unset, .unset, .unset] [])) t_
        refine own_f_aload X45.here hx (hb hby at_148) rfl rfl (rfl : _ = 150) ?_
        refine own_f_iconst X45.here hx (hb hby at_150) (rfl : _ = (2 : Int32)) (rfl : _ = 151) ?_
        refine own_f_lload X45.here hx (hb hby at_151) rfl (rfl : _ = 153) ?_
        refine own_f_l2d X45.here hx (hb hby at_153) rfl (rfl : _ = 154) ?_
        refine st47 _ ?_
        show Steps p.tables e below (T47.setTop (mkF m 155 #[.val (.long p1), .second, .val (.long p2), .second, .val (.long p3), .second, .val (.long p4), .second, .val (.int p5), .val (.int (0 : Int32)), .val (.long t1), .second, .val (.long t2), .second, .val (.long t3), .second, .val (.int mq), .val (.int eq), .val (.double ty), .second, .val (.ref b41), .unset, .unset, .unset, .unset, .unset] [])) t_
        refine own_f_aload X47.here hx (hb hby at_155) rfl rfl (rfl : _ = 157) ?_
        refine own_f_iconst X47.here hx (hb hby at_157) (rfl : _ = (3 : Int32)) (rfl : _ = 158) ?_
        refine own_f_dload X47.here hx (hb hby at_158) rfl (rfl : _ = 160) ?_
        refine st49 _ ?_
        show Steps p.tables e below (T49.setTop (mkF m 161 #[.val (.long p1), .second, .val (.long p2), .second, .val (.long p3), .second, .val (.long p4), .second, .val (.int p5), .val (.int (0 : Int32)), .val (.long t1), .second, .val (.long t2), .second, .val (.long t3), .second, .val (.int mq), .val (.int eq), .val (.double ty), .second, .val (.ref b41), .unset, .unset, .unset, .unset, .unset] [])) t_
        refine own_f_aload X49.here hx (hb hby at_161) rfl rfl (rfl : _ = 163) ?_
        refine own_f_iload X49.here hx (hb hby at_163) rfl (rfl : _ = 165) ?_
        refine own_f_iconst X49.here hx (hb hby at_165) (rfl : _ = (3 : Int32)) (rfl : _ = 166) ?_
        refine own_f_iand X49.here hx (hb hby at_166) rfl (rfl : _ = 167) ?_
        refine own_f_iload X49.here hx (hb hby at_167) rfl (rfl : _ = 169) ?_
        refine own_f_iconst X49.here hx (hb hby at_169) (rfl : _ = (2 : Int32)) (rfl : _ = 170) ?_
        refine own_f_iushr X49.here hx (hb hby at_170) (rfl : _ = 171) ?_
        refine own_f_iconst X49.here hx (hb hby at_171) (rfl : _ = (3 : Int32)) (rfl : _ = 172) ?_
        refine own_f_iand X49.here hx (hb hby at_172) rfl (rfl : _ = 173) ?_
        refine st50 _ ?_
        show Steps p.tables e below (T50.setTop (mkF m 176 #[.val (.long p1), .second, .val (.long p2), .second, .val (.long p3), .second, .val (.long p4), .second, .val (.int p5), .val (.int (0 : Int32)), .val (.long t1), .second, .val (.long t2), .second, .val (.long t3), .second, .val (.int mq), .val (.int eq), .val (.double ty), .second, .val (.ref b41), .unset, .unset, .unset, .unset, .unset] [])) t_
        refine own_f_aload X50.here hx (hb hby at_176) rfl rfl (rfl : _ = 178) ?_
        refine own_f_iload X50.here hx (hb hby at_178) rfl (rfl : _ = 180) ?_
        refine own_f_iconst X50.here hx (hb hby at_180) (rfl : _ = (4 : Int32)) (rfl : _ = 181) ?_
        refine own_f_iushr X50.here hx (hb hby at_181) (rfl : _ = 182) ?_
        refine own_f_iconst X50.here hx (hb hby at_182) (rfl : _ = (3 : Int32)) (rfl : _ = 183) ?_
        refine own_f_iand X50.here hx (hb hby at_183) rfl (rfl : _ = 184) ?_
        refine own_f_iload X50.here hx (hb hby at_184) rfl (rfl : _ = 186) ?_
        refine own_f_bipush X50.here hx (hb hby at_186) (rfl : _ = (6 : Int32)) (rfl : _ = 188) ?_
        refine own_f_iushr X50.here hx (hb hby at_188) (rfl : _ = 189) ?_
        refine own_f_iconst X50.here hx (hb hby at_189) (rfl : _ = (3 : Int32)) (rfl : _ = 190) ?_
        refine own_f_iand X50.here hx (hb hby at_190) rfl (rfl : _ = 191) ?_
        refine st51 _ ?_
        show Steps p.tables e below (T51.setTop (mkF m 194 #[.val (.long p1), .second, .val (.long p2), .second, .val (.long p3), .second, .val (.long p4), .second, .val (.int p5), .val (.int (0 : Int32)), .val (.long t1), .second, .val (.long t2), .second, .val (.long t3), .second, .val (.int mq), .val (.int eq), .val (.double ty), .second, .val (.ref b41), .unset, .unset, .unset, .unset, .unset] [])) t_
        refine own_f_aload X51.here hx (hb hby at_194) rfl rfl (rfl : _ = 196) ?_
        refine own_f_iload X51.here hx (hb hby at_196) rfl (rfl : _ = 198) ?_
        refine own_f_bipush X51.here hx (hb hby at_198) (rfl : _ = (8 : Int32)) (rfl : _ = 200) ?_
        refine own_f_iushr X51.here hx (hb hby at_200) (rfl : _ = 201) ?_
        refine own_f_iconst X51.here hx (hb hby at_201) (rfl : _ = (3 : Int32)) (rfl : _ = 202) ?_
        refine own_f_iand X51.here hx (hb hby at_202) rfl (rfl : _ = 203) ?_
        refine own_f_iload X51.here hx (hb hby at_203) rfl (rfl : _ = 205) ?_
        refine own_f_bipush X51.here hx (hb hby at_205) (rfl : _ = (10 : Int32)) (rfl : _ = 207) ?_
        refine own_f_iushr X51.here hx (hb hby at_207) (rfl : _ = 208) ?_
        refine own_f_iconst X51.here hx (hb hby at_208) (rfl : _ = (3 : Int32)) (rfl : _ = 209) ?_
        refine own_f_iand X51.here hx (hb hby at_209) rfl (rfl : _ = 210) ?_
        refine st52 _ ?_
        show Steps p.tables e below (T52.setTop (mkF m 213 #[.val (.long p1), .second, .val (.long p2), .second, .val (.long p3), .second, .val (.long p4), .second, .val (.int p5), .val (.int (0 : Int32)), .val (.long t1), .second, .val (.long t2), .second, .val (.long t3), .second, .val (.int mq), .val (.int eq), .val (.double ty), .second, .val (.ref b41), .unset, .unset, .unset, .unset, .unset] [])) t_
        refine st53 _ ?_
        show Steps p.tables e below (T53.setTop (mkF m 216 #[.val (.long p1), .second, .val (.long p2), .second, .val (.long p3), .second, .val (.long p4), .second, .val (.int p5), .val (.int (0 : Int32)), .val (.long t1), .second, .val (.long t2), .second, .val (.long t3), .second, .val (.int mq), .val (.int eq), .val (.double ty), .second, .val (.ref b41), .unset, .unset, .unset, .unset, .unset] [(.ref b53)])) t_
        refine own_f_dup X53.here hx (hb hby at_216) rfl (rfl : _ = 217) ?_
        refine st54.trans ?_
        show Steps p.tables e below (T54.setTop (mkF m 220 #[.val (.long p1), .second, .val (.long p2), .second, .val (.long p3), .second, .val (.long p4), .second, .val (.int p5), .val (.int (0 : Int32)), .val (.long t1), .second, .val (.long t2), .second, .val (.long t3), .second, .val (.int mq), .val (.int eq), .val (.double ty), .second, .val (.ref b41), .unset, .unset, .unset, .unset, .unset] [(.ref b53)])) t_
        refine own_f_astore X54.here hx (hb hby at_220) rfl (rfl : storeLocals _ _ _ = some #[.val (.long p1), .second, .val (.long p2), .second, .val (.long p3), .second, .val (.long p4), .second, .val (.int p5), .val (.int (0 : Int32)), .val (.long t1), .second, .val (.long t2), .second, .val (.long t3), .second, .val (.int mq), .val (.int eq), .val (.double ty), .second, .val (.ref b41), .val (.ref b53), .unset, .unset, .unset, .unset]) (rfl : _ = 222) ?_
        refine own_f_aload X54.here hx (hb hby at_222) rfl rfl (rfl : _ = 224) ?_
        refine own_f_aload X54.here hx (hb hby at_224) rfl rfl (rfl : _ = 226) ?_
        refine own_f_iconst X54.here hx (hb hby at_226) (rfl : _ = (0 : Int32)) (rfl : _ = 227) ?_
        refine X54.daload hx (j := (0 : Int32)) (v := (.double s2_0)) (Ar55.1) (State.isArrayOf_alike hZ.alike Ar55.2.1) Ar55.2.2 hin55 hat55 (g := (mkF m 227 #[.val (.long p1), .second, .val (.long p2), .second, .val (.long p3), .second, .val (.long p4), .second, .val (.int p5), .val (.int (0 : Int32)), .val (.long t1), .second, .val (.long t2), .second, .val (.long t3), .second, .val (.int mq), .val (.int eq), .val (.double ty), .second, .val (.ref b41), .val (.ref b53), .unset, .unset, .unset, .unset] [(.int (0 : Int32)), (.ref b41), (.ref b53)])) rfl rfl (hb hby at_227) _ ?_
        show Steps p.tables e below (T54.setTop (mkF m 228 #[.val (.long p1), .second, .val (.long p2), .second, .val (.long p3), .second, .val (.long p4), .second, .val (.int p5), .val (.int (0 : Int32)), .val (.long t1), .second, .val (.long t2), .second, .val (.long t3), .second, .val (.int mq), .val (.int eq), .val (.double ty), .second, .val (.ref b41), .val (.ref b53), .unset, .unset, .unset, .unset] [(.double s2_0), (.ref b53)])) t_
        refine st56.trans ?_
        show Steps p.tables e below (T56.setTop (mkF m 231 #[.val (.long p1), .second, .val (.long p2), .second, .val (.long p3), .second, .val (.long p4), .second, .val (.int p5), .val (.int (0 : Int32)), .val (.long t1), .second, .val (.long t2), .second, .val (.long t3), .second, .val (.int mq), .val (.int eq), .val (.double ty), .second, .val (.ref b41), .val (.ref b53), .unset, .unset, .unset, .unset] [])) t_
        refine own_f_aload X56.here hx (hb hby at_231) rfl rfl (rfl : _ = 233) ?_
        refine own_f_aload X56.here hx (hb hby at_233) rfl rfl (rfl : _ = 235) ?_
        refine own_f_iconst X56.here hx (hb hby at_235) (rfl : _ = (1 : Int32)) (rfl : _ = 236) ?_
        refine X56.daload hx (j := (1 : Int32)) (v := (.double s2_1)) (Ar57.1) (State.isArrayOf_alike hZ.alike Ar57.2.1) Ar57.2.2 hin57 hat57 (g := (mkF m 236 #[.val (.long p1), .second, .val (.long p2), .second, .val (.long p3), .second, .val (.long p4), .second, .val (.int p5), .val (.int (0 : Int32)), .val (.long t1), .second, .val (.long t2), .second, .val (.long t3), .second, .val (.int mq), .val (.int eq), .val (.double ty), .second, .val (.ref b41), .val (.ref b53), .unset, .unset, .unset, .unset] [(.int (1 : Int32)), (.ref b41), (.ref b53)])) rfl rfl (hb hby at_236) _ ?_
        show Steps p.tables e below (T56.setTop (mkF m 237 #[.val (.long p1), .second, .val (.long p2), .second, .val (.long p3), .second, .val (.long p4), .second, .val (.int p5), .val (.int (0 : Int32)), .val (.long t1), .second, .val (.long t2), .second, .val (.long t3), .second, .val (.int mq), .val (.int eq), .val (.double ty), .second, .val (.ref b41), .val (.ref b53), .unset, .unset, .unset, .unset] [(.double s2_1), (.ref b53)])) t_
        refine st58.trans ?_
        show Steps p.tables e below (T58.setTop (mkF m 240 #[.val (.long p1), .second, .val (.long p2), .second, .val (.long p3), .second, .val (.long p4), .second, .val (.int p5), .val (.int (0 : Int32)), .val (.long t1), .second, .val (.long t2), .second, .val (.long t3), .second, .val (.int mq), .val (.int eq), .val (.double ty), .second, .val (.ref b41), .val (.ref b53), .unset, .unset, .unset, .unset] [])) t_
        refine own_f_aload X58.here hx (hb hby at_240) rfl rfl (rfl : _ = 242) ?_
        refine own_f_aload X58.here hx (hb hby at_242) rfl rfl (rfl : _ = 244) ?_
        refine own_f_iconst X58.here hx (hb hby at_244) (rfl : _ = (2 : Int32)) (rfl : _ = 245) ?_
        refine X58.daload hx (j := (2 : Int32)) (v := (.double s2_2)) (Ar59.1) (State.isArrayOf_alike hZ.alike Ar59.2.1) Ar59.2.2 hin59 hat59 (g := (mkF m 245 #[.val (.long p1), .second, .val (.long p2), .second, .val (.long p3), .second, .val (.long p4), .second, .val (.int p5), .val (.int (0 : Int32)), .val (.long t1), .second, .val (.long t2), .second, .val (.long t3), .second, .val (.int mq), .val (.int eq), .val (.double ty), .second, .val (.ref b41), .val (.ref b53), .unset, .unset, .unset, .unset] [(.int (2 : Int32)), (.ref b41), (.ref b53)])) rfl rfl (hb hby at_245) _ ?_
        show Steps p.tables e below (T58.setTop (mkF m 246 #[.val (.long p1), .second, .val (.long p2), .second, .val (.long p3), .second, .val (.long p4), .second, .val (.int p5), .val (.int (0 : Int32)), .val (.long t1), .second, .val (.long t2), .second, .val (.long t3), .second, .val (.int mq), .val (.int eq), .val (.double ty), .second, .val (.ref b41), .val (.ref b53), .unset, .unset, .unset, .unset] [(.double s2_2), (.ref b53)])) t_
        refine st60.trans ?_
        show Steps p.tables e below (T60.setTop (mkF m 249 #[.val (.long p1), .second, .val (.long p2), .second, .val (.long p3), .second, .val (.long p4), .second, .val (.int p5), .val (.int (0 : Int32)), .val (.long t1), .second, .val (.long t2), .second, .val (.long t3), .second, .val (.int mq), .val (.int eq), .val (.double ty), .second, .val (.ref b41), .val (.ref b53), .unset, .unset, .unset, .unset] [])) t_
        refine own_f_aload X60.here hx (hb hby at_249) rfl rfl (rfl : _ = 251) ?_
        refine own_f_aload X60.here hx (hb hby at_251) rfl rfl (rfl : _ = 253) ?_
        refine own_f_iconst X60.here hx (hb hby at_253) (rfl : _ = (3 : Int32)) (rfl : _ = 254) ?_
        refine X60.daload hx (j := (3 : Int32)) (v := (.double s2_3)) (Ar61.1) (State.isArrayOf_alike hZ.alike Ar61.2.1) Ar61.2.2 hin61 hat61 (g := (mkF m 254 #[.val (.long p1), .second, .val (.long p2), .second, .val (.long p3), .second, .val (.long p4), .second, .val (.int p5), .val (.int (0 : Int32)), .val (.long t1), .second, .val (.long t2), .second, .val (.long t3), .second, .val (.int mq), .val (.int eq), .val (.double ty), .second, .val (.ref b41), .val (.ref b53), .unset, .unset, .unset, .unset] [(.int (3 : Int32)), (.ref b41), (.ref b53)])) rfl rfl (hb hby at_254) _ ?_
        show Steps p.tables e below (T60.setTop (mkF m 255 #[.val (.long p1), .second, .val (.long p2), .second, .val (.long p3), .second, .val (.long p4), .second, .val (.int p5), .val (.int (0 : Int32)), .val (.long t1), .second, .val (.long t2), .second, .val (.long t3), .second, .val (.int mq), .val (.int eq), .val (.double ty), .second, .val (.ref b41), .val (.ref b53), .unset, .unset, .unset, .unset] [(.double s2_3), (.ref b53)])) t_
        refine st62.trans ?_
        show Steps p.tables e below (T62.setTop (mkF m 258 #[.val (.long p1), .second, .val (.long p2), .second, .val (.long p3), .second, .val (.long p4), .second, .val (.int p5), .val (.int (0 : Int32)), .val (.long t1), .second, .val (.long t2), .second, .val (.long t3), .second, .val (.int mq), .val (.int eq), .val (.double ty), .second, .val (.ref b41), .val (.ref b53), .unset, .unset, .unset, .unset] [])) t_
        refine own_f_lload X62.here hx (hb hby at_258) rfl (rfl : _ = 260) ?_
        refine own_f_lload X62.here hx (hb hby at_260) rfl (rfl : _ = 262) ?_
        refine own_f_ladd X62.here hx (hb hby at_262) rfl (rfl : _ = 263) ?_
        refine own_f_lload X62.here hx (hb hby at_263) rfl (rfl : _ = 265) ?_
        refine own_f_ladd X62.here hx (hb hby at_265) rfl (rfl : _ = 266) ?_
        refine own_f_lstore X62.here hx (hb hby at_266) (rfl : storeLocals _ _ _ = some #[.val (.long p1), .second, .val (.long p2), .second, .val (.long p3), .second, .val (.long p4), .second, .val (.int p5), .val (.int (0 : Int32)), .val (.long t1), .second, .val (.long t2), .second, .val (.long t3), .second, .val (.int mq), .val (.int eq), .val (.double ty), .second, .val (.ref b41), .val (.ref b53), .val (.long ((t1 + t2) + t3)), .second, .unset, .unset]) (rfl : _ = 268) ?_
        exact ht_
      obtain ⟨ex, hex⟩ : ∃ z : Int64, z = ((t1 + t2) + t3) := ⟨_, rfl⟩
      rw [← hex] at k63
      have k64 : ∀ t_, Steps p.tables e below (T62.setTop (mkF m 270 #[.val (.long p1), .second, .val (.long p2), .second, .val (.long p3), .second, .val (.long p4), .second, .val (.int p5), .val (.int (0 : Int32)), .val (.long t1), .second, .val (.long t2), .second, .val (.long t3), .second, .val (.int mq), .val (.int eq), .val (.double ty), .second, .val (.ref b41), .val (.ref b53), .val (.long ex), .second, .unset, .unset] [(.int mq)])) t_ → Steps p.tables e below A t_ := by
        intro t_ ht_
        refine k63 t_ ?_
        refine own_f_iload X62.here hx (hb hby at_268) rfl (rfl : _ = 270) ?_
        exact ht_
      by_cases hm0 : mq = (0 : Int32)
      · obtain ⟨cq65, kq65, q65a, q65b, q65c⟩ := isOf hZ rfl Ex_b53
        obtain ⟨_, _, ⟨T65, L65, k65_, n65⟩, -, X65, ⟨Lc65, hQ65, l65, y65, z65⟩, st65⟩ := X62.virtualBack hx (y := (⟨"com/example/prose_to_query/prosetoquery/retrieval/ExactSum", "value", "()D"⟩ : MethodName)) (z := (⟨"com/example/prose_to_query/prosetoquery/retrieval/ExactSum", "value", "()D"⟩ : MethodName)) hown (mvT hZ (hw _ (List.mem_of_getElem? (i := 12) rfl))) (mvT hZ (hw _ (List.mem_of_getElem? (i := 13) rfl))) (notFace_of_selects (args := #[]) (mvT hZ (hw _ (List.mem_of_getElem? (i := 15) rfl)))) (mvT hZ (hw _ (List.mem_of_getElem? (i := 15) rfl))) (mvT hZ (hw _ (List.mem_of_getElem? (i := 14) rfl))) (by decide) (backOf (W := 0) (rm3 l Z a0 hw [] b53 kx3 ar kc rx3_0 rx3_1 rx3_2 rx3_3 (own_ins (own_ins (own_ins (own_ins [] s2_0) s2_1) s2_2) s2_3) T62.heap n0 Zs62 Fpx3 Fsx3 Vax3 Rx3 l4 vn) hZ (hw _ (List.mem_of_getElem? (i := 16) rfl)) (hw _ (List.mem_of_getElem? (i := 2) rfl)) (by decide) (by decide)) q65a q65c (g := (mkF m 321 #[.val (.long p1), .second, .val (.long p2), .second, .val (.long p3), .second, .val (.long p4), .second, .val (.int p5), .val (.int (0 : Int32)), .val (.long t1), .second, .val (.long t2), .second, .val (.long t3), .second, .val (.int mq), .val (.int eq), .val (.double ty), .second, .val (.ref b41), .val (.ref b53), .val (.long ex), .second, .val (.double (FP.l2d ex)), .second] [(.ref b53)])) rfl (by rw [hml]; rfl) (Steps.refl _) (argsL := []) (rest := []) (lenOf pd_2 rfl) rfl (by show 2 * 0 + _ ≤ _; exact Nat.le_of_eq rfl) (hb hby at_321) (fun _ _ => ⟨rfl, rfl, (by decide : 3 + 0 ≤ _), (by decide : 10 + 0 ≤ _)⟩)
        dsimp only [Pt.U, Pt.locs, Pt.cells, Pt.slots] at X65 l65 y65 z65 st65 hQ65
        subst l65 y65 z65
        obtain ⟨rfl, Nq65, e65⟩ := hQ65
        have N65 := Fr.app N62 Nq65
        obtain ⟨fs, hr, hrun, hended, hW, hsame⟩ := X65.leave (v := some (.int (1 : Int32))) (fun h => by rw [Bd.returns] at h; cases h) hlk
        refine ⟨_, _, ?_, hrun, hended, _, _, rfl, ?_, ⟨_, rfl⟩, hW, hsame.mono (by decide) (by decide)⟩
        · refine hA0 _ ?_
          refine k64 _ ?_
          refine own_f_ifNo X62.here hx (hb hby at_270) ((if0 _ _).trans (teq (hm0)).2) (rfl : _ = 273) ?_
          refine own_f_lload X62.here hx (hb hby at_273) rfl (rfl : _ = 275) ?_
          refine own_f_l2d X62.here hx (hb hby at_275) rfl (rfl : _ = 276) ?_
          refine own_f_dstore X62.here hx (hb hby at_276) (rfl : storeLocals _ _ _ = some #[.val (.long p1), .second, .val (.long p2), .second, .val (.long p3), .second, .val (.long p4), .second, .val (.int p5), .val (.int (0 : Int32)), .val (.long t1), .second, .val (.long t2), .second, .val (.long t3), .second, .val (.int mq), .val (.int eq), .val (.double ty), .second, .val (.ref b41), .val (.ref b53), .val (.long ex), .second, .val (.double (FP.l2d ex)), .second]) (rfl : _ = 278) ?_
          refine own_f_goto X62.here hx (hb hby at_278) (by decide) (by decide : _ = 319) ?_
          refine own_f_aload X62.here hx (hb hby at_319) rfl rfl (rfl : _ = 321) ?_
          refine st65.trans ?_
          show Steps p.tables e below (T65.setTop (mkF m 324 #[.val (.long p1), .second, .val (.long p2), .second, .val (.long p3), .second, .val (.long p4), .second, .val (.int p5), .val (.int (0 : Int32)), .val (.long t1), .second, .val (.long t2), .second, .val (.long t3), .second, .val (.int mq), .val (.int eq), .val (.double ty), .second, .val (.ref b41), .val (.ref b53), .val (.long ex), .second, .val (.double (FP.l2d ex)), .second] [(.double (own_value (own_ins (own_ins (own_ins (own_ins [] s2_0) s2_1) s2_2) s2_3)))])) _
          refine own_f_dload X65.here hx (hb hby at_324) rfl (rfl : _ = 326) ?_
          refine own_f_dcmp X65.here hx (hb hby at_326) rfl (rfl : _ = 327) ?_
          refine own_f_ifNo X65.here hx (hb hby at_327) ((if0 _ _).trans (teq (own_end0 hex hB1' ht2 ht3 (by rw [own_m0 hm0, Int.zero_mul]) hV)).2) (rfl : _ = 330) ?_
          refine own_f_iconst X65.here hx (hb hby at_330) (rfl : _ = (1 : Int32)) (rfl : _ = 331) ?_
          refine own_f_goto X65.here hx (hb hby at_331) (by decide) (by decide : _ = 335) ?_
          exact retN X65 hx (t := .boolean) Bd.returns (by simp) (hb hby at_335) hr
        · show Q0 Z p1 p2 p3 p4 p5 h0 n0 _ T65.heap _
          rw [e65]
          exact ⟨rfl, N65⟩
      · have k66 : ∀ t_, Steps p.tables e below (T62.setTop (mkF m 283 #[.val (.long p1), .second, .val (.long p2), .second, .val (.long p3), .second, .val (.long p4), .second, .val (.int p5), .val (.int (0 : Int32)), .val (.long t1), .second, .val (.long t2), .second, .val (.long t3), .second, .val (.int mq), .val (.int eq), .val (.double ty), .second, .val (.ref b41), .val (.ref b53), .val (.long ex), .second, .unset, .unset] [(.int mq)])) t_ → Steps p.tables e below A t_ := by
          intro t_ ht_
          refine k64 t_ ?_
          refine own_f_ifYes X62.here hx (hb hby at_270) ((if0 _ _).trans (feq (hm0)).2) (by decide) (by decide : _ = 281) ?_
          refine own_f_iload X62.here hx (hb hby at_281) rfl (rfl : _ = 283) ?_
          exact ht_
        by_cases hm1 : (0 : Int32) < mq
        · obtain ⟨hnn, hcm⟩ := own_endP hex ht1 ht2 ht3 (own_tiny_s.1 (own_mp hm1)) hT2 hV
          obtain ⟨cq67, kq67, q67a, q67b, q67c⟩ := isOf hZ rfl Ex_b53
          obtain ⟨_, _, ⟨T67, L67, k67_, n67⟩, -, X67, ⟨Lc67, hQ67, l67, y67, z67⟩, st67⟩ := X62.virtualBack hx (y := (⟨"com/example/prose_to_query/prosetoquery/retrieval/ExactSum", "value", "()D"⟩ : MethodName)) (z := (⟨"com/example/prose_to_query/prosetoquery/retrieval/ExactSum", "value", "()D"⟩ : MethodName)) hown (mvT hZ (hw _ (List.mem_of_getElem? (i := 12) rfl))) (mvT hZ (hw _ (List.mem_of_getElem? (i := 13) rfl))) (notFace_of_selects (args := #[]) (mvT hZ (hw _ (List.mem_of_getElem? (i := 15) rfl)))) (mvT hZ (hw _ (List.mem_of_getElem? (i := 15) rfl))) (mvT hZ (hw _ (List.mem_of_getElem? (i := 14) rfl))) (by decide) (backOf (W := 0) (rm3 l Z a0 hw [] b53 kx3 ar kc rx3_0 rx3_1 rx3_2 rx3_3 (own_ins (own_ins (own_ins (own_ins [] s2_0) s2_1) s2_2) s2_3) T62.heap n0 Zs62 Fpx3 Fsx3 Vax3 Rx3 l4 vn) hZ (hw _ (List.mem_of_getElem? (i := 16) rfl)) (hw _ (List.mem_of_getElem? (i := 2) rfl)) (by decide) (by decide)) q67a q67c (g := (mkF m 321 #[.val (.long p1), .second, .val (.long p2), .second, .val (.long p3), .second, .val (.long p4), .second, .val (.int p5), .val (.int (0 : Int32)), .val (.long t1), .second, .val (.long t2), .second, .val (.long t3), .second, .val (.int mq), .val (.int eq), .val (.double ty), .second, .val (.ref b41), .val (.ref b53), .val (.long ex), .second, .val (.double (FP.ddiv (FP.l2d (((2 : Int64) * ex) + (1 : Int64))) (4611686018427387904 : UInt64))), .second] [(.ref b53)])) rfl (by rw [hml]; rfl) (Steps.refl _) (argsL := []) (rest := []) (lenOf pd_2 rfl) rfl (by show 2 * 0 + _ ≤ _; exact Nat.le_of_eq rfl) (hb hby at_321) (fun _ _ => ⟨rfl, rfl, (by decide : 3 + 0 ≤ _), (by decide : 10 + 0 ≤ _)⟩)
          dsimp only [Pt.U, Pt.locs, Pt.cells, Pt.slots] at X67 l67 y67 z67 st67 hQ67
          subst l67 y67 z67
          obtain ⟨rfl, Nq67, e67⟩ := hQ67
          have N67 := Fr.app N62 Nq67
          obtain ⟨fs, hr, hrun, hended, hW, hsame⟩ := X67.leave (v := some (.int (1 : Int32))) (fun h => by rw [Bd.returns] at h; cases h) hlk
          refine ⟨_, _, ?_, hrun, hended, _, _, rfl, ?_, ⟨_, rfl⟩, hW, hsame.mono (by decide) (by decide)⟩
          · refine hA0 _ ?_
            refine k66 _ ?_
            refine own_f_ifNo X62.here hx (hb hby at_283) ((if0 _ _).trans (tlt (hm1)).2.2.2) (rfl : _ = 286) ?_
            refine own_f_ldc2Long X62 hx hown (mvT hZ (hw _ (List.mem_of_getElem? (i := 42) rfl))) (hb hby at_286) (rfl : _ = 289) ?_
            refine own_f_lload X62.here hx (hb hby at_289) rfl (rfl : _ = 291) ?_
            refine own_f_lmul X62.here hx (hb hby at_291) rfl (rfl : _ = 292) ?_
            refine own_f_lconst X62.here hx (hb hby at_292) (rfl : _ = (1 : Int64)) (rfl : _ = 293) ?_
            refine own_f_ladd X62.here hx (hb hby at_293) rfl (rfl : _ = 294) ?_
            refine own_f_l2d X62.here hx (hb hby at_294) rfl (rfl : _ = 295) ?_
            refine own_f_ldc2DoubleC X62 hx hown (mvT hZ (hw _ (List.mem_of_getElem? (i := 43) rfl))) (hb hby at_295) (rfl : _ = 298) ?_
            refine own_f_ddiv X62.here hx (hb hby at_298) (hnn) rfl (rfl : _ = 299) ?_
            refine own_f_dstore X62.here hx (hb hby at_299) (rfl : storeLocals _ _ _ = some #[.val (.long p1), .second, .val (.long p2), .second, .val (.long p3), .second, .val (.long p4), .second, .val (.int p5), .val (.int (0 : Int32)), .val (.long t1), .second, .val (.long t2), .second, .val (.long t3), .second, .val (.int mq), .val (.int eq), .val (.double ty), .second, .val (.ref b41), .val (.ref b53), .val (.long ex), .second, .val (.double (FP.ddiv (FP.l2d (((2 : Int64) * ex) + (1 : Int64))) (4611686018427387904 : UInt64))), .second]) (rfl : _ = 301) ?_
            refine own_f_goto X62.here hx (hb hby at_301) (by decide) (by decide : _ = 319) ?_
            refine own_f_aload X62.here hx (hb hby at_319) rfl rfl (rfl : _ = 321) ?_
            refine st67.trans ?_
            show Steps p.tables e below (T67.setTop (mkF m 324 #[.val (.long p1), .second, .val (.long p2), .second, .val (.long p3), .second, .val (.long p4), .second, .val (.int p5), .val (.int (0 : Int32)), .val (.long t1), .second, .val (.long t2), .second, .val (.long t3), .second, .val (.int mq), .val (.int eq), .val (.double ty), .second, .val (.ref b41), .val (.ref b53), .val (.long ex), .second, .val (.double (FP.ddiv (FP.l2d (((2 : Int64) * ex) + (1 : Int64))) (4611686018427387904 : UInt64))), .second] [(.double (own_value (own_ins (own_ins (own_ins (own_ins [] s2_0) s2_1) s2_2) s2_3)))])) _
            refine own_f_dload X67.here hx (hb hby at_324) rfl (rfl : _ = 326) ?_
            refine own_f_dcmp X67.here hx (hb hby at_326) rfl (rfl : _ = 327) ?_
            refine own_f_ifNo X67.here hx (hb hby at_327) ((if0 _ _).trans (teq (hcm)).2) (rfl : _ = 330) ?_
            refine own_f_iconst X67.here hx (hb hby at_330) (rfl : _ = (1 : Int32)) (rfl : _ = 331) ?_
            refine own_f_goto X67.here hx (hb hby at_331) (by decide) (by decide : _ = 335) ?_
            exact retN X67 hx (t := .boolean) Bd.returns (by simp) (hb hby at_335) hr
          · show Q0 Z p1 p2 p3 p4 p5 h0 n0 _ T67.heap _
            rw [e67]
            exact ⟨rfl, N67⟩
        · obtain ⟨hnn, hcm⟩ := own_endN hex ht1 ht2 ht3 (own_tiny_s.2 (own_mn hm0 hm1)) hT2 hV
          obtain ⟨cq68, kq68, q68a, q68b, q68c⟩ := isOf hZ rfl Ex_b53
          obtain ⟨_, _, ⟨T68, L68, k68_, n68⟩, -, X68, ⟨Lc68, hQ68, l68, y68, z68⟩, st68⟩ := X62.virtualBack hx (y := (⟨"com/example/prose_to_query/prosetoquery/retrieval/ExactSum", "value", "()D"⟩ : MethodName)) (z := (⟨"com/example/prose_to_query/prosetoquery/retrieval/ExactSum", "value", "()D"⟩ : MethodName)) hown (mvT hZ (hw _ (List.mem_of_getElem? (i := 12) rfl))) (mvT hZ (hw _ (List.mem_of_getElem? (i := 13) rfl))) (notFace_of_selects (args := #[]) (mvT hZ (hw _ (List.mem_of_getElem? (i := 15) rfl)))) (mvT hZ (hw _ (List.mem_of_getElem? (i := 15) rfl))) (mvT hZ (hw _ (List.mem_of_getElem? (i := 14) rfl))) (by decide) (backOf (W := 0) (rm3 l Z a0 hw [] b53 kx3 ar kc rx3_0 rx3_1 rx3_2 rx3_3 (own_ins (own_ins (own_ins (own_ins [] s2_0) s2_1) s2_2) s2_3) T62.heap n0 Zs62 Fpx3 Fsx3 Vax3 Rx3 l4 vn) hZ (hw _ (List.mem_of_getElem? (i := 16) rfl)) (hw _ (List.mem_of_getElem? (i := 2) rfl)) (by decide) (by decide)) q68a q68c (g := (mkF m 321 #[.val (.long p1), .second, .val (.long p2), .second, .val (.long p3), .second, .val (.long p4), .second, .val (.int p5), .val (.int (0 : Int32)), .val (.long t1), .second, .val (.long t2), .second, .val (.long t3), .second, .val (.int mq), .val (.int eq), .val (.double ty), .second, .val (.ref b41), .val (.ref b53), .val (.long ex), .second, .val (.double (FP.ddiv (FP.l2d (((2 : Int64) * ex) - (1 : Int64))) (4611686018427387904 : UInt64))), .second] [(.ref b53)])) rfl (by rw [hml]; rfl) (Steps.refl _) (argsL := []) (rest := []) (lenOf pd_2 rfl) rfl (by show 2 * 0 + _ ≤ _; exact Nat.le_of_eq rfl) (hb hby at_321) (fun _ _ => ⟨rfl, rfl, (by decide : 3 + 0 ≤ _), (by decide : 10 + 0 ≤ _)⟩)
          dsimp only [Pt.U, Pt.locs, Pt.cells, Pt.slots] at X68 l68 y68 z68 st68 hQ68
          subst l68 y68 z68
          obtain ⟨rfl, Nq68, e68⟩ := hQ68
          have N68 := Fr.app N62 Nq68
          obtain ⟨fs, hr, hrun, hended, hW, hsame⟩ := X68.leave (v := some (.int (1 : Int32))) (fun h => by rw [Bd.returns] at h; cases h) hlk
          refine ⟨_, _, ?_, hrun, hended, _, _, rfl, ?_, ⟨_, rfl⟩, hW, hsame.mono (by decide) (by decide)⟩
          · refine hA0 _ ?_
            refine k66 _ ?_
            refine own_f_ifYes X62.here hx (hb hby at_283) ((if0 _ _).trans (flt (hm1)).2.2.2) (by decide) (by decide : _ = 304) ?_
            refine own_f_ldc2Long X62 hx hown (mvT hZ (hw _ (List.mem_of_getElem? (i := 42) rfl))) (hb hby at_304) (rfl : _ = 307) ?_
            refine own_f_lload X62.here hx (hb hby at_307) rfl (rfl : _ = 309) ?_
            refine own_f_lmul X62.here hx (hb hby at_309) rfl (rfl : _ = 310) ?_
            refine own_f_lconst X62.here hx (hb hby at_310) (rfl : _ = (1 : Int64)) (rfl : _ = 311) ?_
            refine own_f_lsub X62.here hx (hb hby at_311) rfl (rfl : _ = 312) ?_
            refine own_f_l2d X62.here hx (hb hby at_312) rfl (rfl : _ = 313) ?_
            refine own_f_ldc2DoubleC X62 hx hown (mvT hZ (hw _ (List.mem_of_getElem? (i := 43) rfl))) (hb hby at_313) (rfl : _ = 316) ?_
            refine own_f_ddiv X62.here hx (hb hby at_316) (hnn) rfl (rfl : _ = 317) ?_
            refine own_f_dstore X62.here hx (hb hby at_317) (rfl : storeLocals _ _ _ = some #[.val (.long p1), .second, .val (.long p2), .second, .val (.long p3), .second, .val (.long p4), .second, .val (.int p5), .val (.int (0 : Int32)), .val (.long t1), .second, .val (.long t2), .second, .val (.long t3), .second, .val (.int mq), .val (.int eq), .val (.double ty), .second, .val (.ref b41), .val (.ref b53), .val (.long ex), .second, .val (.double (FP.ddiv (FP.l2d (((2 : Int64) * ex) - (1 : Int64))) (4611686018427387904 : UInt64))), .second]) (rfl : _ = 319) ?_
            refine own_f_aload X62.here hx (hb hby at_319) rfl rfl (rfl : _ = 321) ?_
            refine st68.trans ?_
            show Steps p.tables e below (T68.setTop (mkF m 324 #[.val (.long p1), .second, .val (.long p2), .second, .val (.long p3), .second, .val (.long p4), .second, .val (.int p5), .val (.int (0 : Int32)), .val (.long t1), .second, .val (.long t2), .second, .val (.long t3), .second, .val (.int mq), .val (.int eq), .val (.double ty), .second, .val (.ref b41), .val (.ref b53), .val (.long ex), .second, .val (.double (FP.ddiv (FP.l2d (((2 : Int64) * ex) - (1 : Int64))) (4611686018427387904 : UInt64))), .second] [(.double (own_value (own_ins (own_ins (own_ins (own_ins [] s2_0) s2_1) s2_2) s2_3)))])) _
            refine own_f_dload X68.here hx (hb hby at_324) rfl (rfl : _ = 326) ?_
            refine own_f_dcmp X68.here hx (hb hby at_326) rfl (rfl : _ = 327) ?_
            refine own_f_ifNo X68.here hx (hb hby at_327) ((if0 _ _).trans (teq (hcm)).2) (rfl : _ = 330) ?_
            refine own_f_iconst X68.here hx (hb hby at_330) (rfl : _ = (1 : Int32)) (rfl : _ = 331) ?_
            refine own_f_goto X68.here hx (hb hby at_331) (by decide) (by decide : _ = 335) ?_
            exact retN X68 hx (t := .boolean) Bd.returns (by simp) (hb hby at_335) hr
          · show Q0 Z p1 p2 p3 p4 p5 h0 n0 _ T68.heap _
            rw [e68]
            exact ⟨rfl, N68⟩
    · obtain ⟨_, _, ⟨T6, L6, k6_, n6⟩, -, X6, ⟨Lc6, hQ6, l6, y6, z6⟩, st6⟩ := Jvm.LawKit.callS X0 hx (y := (⟨"com/example/prose_to_query/prosetoquery/retrieval/ExactSumValuePinLaw", "mid", "(J)J"⟩ : MethodName)) hown (mvT hZ (hw _ (List.mem_of_getElem? (i := 25) rfl))) (mvT hZ (hw _ (List.mem_of_getElem? (i := 26) rfl))) (mvT hZ (hw _ (List.mem_of_getElem? (i := 21) rfl))) (mvT hZ (hw _ (List.mem_of_getElem? (i := 27) rfl))) (by decide) (backOf (W := 0) (rm4 l Z a0 hw [] p1  h0 n0 Z0) hZ (hw _ (List.mem_of_getElem? (i := 27) rfl)) (hw _ (List.mem_of_getElem? (i := 21) rfl)) (by decide) (by decide)) (g := (mkF m 59 #[.val (.long p1), .second, .val (.long p2), .second, .val (.long p3), .second, .val (.long p4), .second, .val (.int p5), .val (.int (1 : Int32)), .unset, .unset, .unset, .unset, .unset, .unset, .unset, .unset, .unset, .unset, .unset, .unset, .unset, .unset, .unset, .unset] [(.long p1)])) rfl (by rw [hml]; rfl) (argsL := [(.long p1)]) (rest := []) (lenOf pd_3 rfl) rfl (by show 2 * 0 + _ ≤ _; exact Nat.le_of_eq rfl) (hb hby at_59) (fun _ _ => ⟨rfl, e0, (by decide : 0 + 0 ≤ _), (by decide : 0 + 0 ≤ _)⟩)
      dsimp only [Pt.U, Pt.locs, Pt.cells, Pt.slots] at X6 l6 y6 z6 st6 hQ6
      subst l6 y6 z6
      obtain ⟨t1, rfl, Nq6, eht1, ht1⟩ := hQ6
      have N6 := Fr.app N0 Nq6
      obtain ⟨_, _, ⟨T7, L7, k7_, n7⟩, -, X7, ⟨Lc7, hQ7, l7, y7, z7⟩, st7⟩ := Jvm.LawKit.callS X6 hx (y := (⟨"com/example/prose_to_query/prosetoquery/retrieval/ExactSumValuePinLaw", "mid", "(J)J"⟩ : MethodName)) hown (mvT hZ (hw _ (List.mem_of_getElem? (i := 25) rfl))) (mvT hZ (hw _ (List.mem_of_getElem? (i := 26) rfl))) (mvT hZ (hw _ (List.mem_of_getElem? (i := 21) rfl))) (mvT hZ (hw _ (List.mem_of_getElem? (i := 27) rfl))) (by decide) (backOf (W := 0) (rm4 l Z a0 hw [] p2  h0 n0 Z0) hZ (hw _ (List.mem_of_getElem? (i := 27) rfl)) (hw _ (List.mem_of_getElem? (i := 21) rfl)) (by decide) (by decide)) (g := (mkF m 74 #[.val (.long p1), .second, .val (.long p2), .second, .val (.long p3), .second, .val (.long p4), .second, .val (.int p5), .val (.int (1 : Int32)), .val (.long t1), .second, .unset, .unset, .unset, .unset, .unset, .unset, .unset, .unset, .unset, .unset, .unset, .unset, .unset, .unset] [(.long p2)])) rfl (by rw [hml]; rfl) (argsL := [(.long p2)]) (rest := []) (lenOf pd_3 rfl) rfl (by show 2 * 0 + _ ≤ _; exact Nat.le_of_eq rfl) (hb hby at_74) (fun _ _ => ⟨rfl, eht1, (by decide : 0 + 0 ≤ _), (by decide : 0 + 0 ≤ _)⟩)
      dsimp only [Pt.U, Pt.locs, Pt.cells, Pt.slots] at X7 l7 y7 z7 st7 hQ7
      subst l7 y7 z7
      obtain ⟨t2, rfl, Nq7, eht2, ht2⟩ := hQ7
      have N7 := Fr.app N6 Nq7
      obtain ⟨_, _, ⟨T8, L8, k8_, n8⟩, -, X8, ⟨Lc8, hQ8, l8, y8, z8⟩, st8⟩ := Jvm.LawKit.callS X7 hx (y := (⟨"com/example/prose_to_query/prosetoquery/retrieval/ExactSumValuePinLaw", "mid", "(J)J"⟩ : MethodName)) hown (mvT hZ (hw _ (List.mem_of_getElem? (i := 25) rfl))) (mvT hZ (hw _ (List.mem_of_getElem? (i := 26) rfl))) (mvT hZ (hw _ (List.mem_of_getElem? (i := 21) rfl))) (mvT hZ (hw _ (List.mem_of_getElem? (i := 27) rfl))) (by decide) (backOf (W := 0) (rm4 l Z a0 hw [] p3  h0 n0 Z0) hZ (hw _ (List.mem_of_getElem? (i := 27) rfl)) (hw _ (List.mem_of_getElem? (i := 21) rfl)) (by decide) (by decide)) (g := (mkF m 81 #[.val (.long p1), .second, .val (.long p2), .second, .val (.long p3), .second, .val (.long p4), .second, .val (.int p5), .val (.int (1 : Int32)), .val (.long t1), .second, .val (.long t2), .second, .unset, .unset, .unset, .unset, .unset, .unset, .unset, .unset, .unset, .unset, .unset, .unset] [(.long p3)])) rfl (by rw [hml]; rfl) (argsL := [(.long p3)]) (rest := []) (lenOf pd_3 rfl) rfl (by show 2 * 0 + _ ≤ _; exact Nat.le_of_eq rfl) (hb hby at_81) (fun _ _ => ⟨rfl, eht2, (by decide : 0 + 0 ≤ _), (by decide : 0 + 0 ≤ _)⟩)
      dsimp only [Pt.U, Pt.locs, Pt.cells, Pt.slots] at X8 l8 y8 z8 st8 hQ8
      subst l8 y8 z8
      obtain ⟨t3, rfl, Nq8, eht3, ht3⟩ := hQ8
      have N8 := Fr.app N7 Nq8
      have hM : Int.natAbs (Int32.toInt 0) ≤ 524288 := by decide
      have k9 : ∀ t_, Steps p.tables e below (T8.setTop (mkF m 118 #[.val (.long p1), .second, .val (.long p2), .second, .val (.long p3), .second, .val (.long p4), .second, .val (.int p5), .val (.int (1 : Int32)), .val (.long t1), .second, .val (.long t2), .second, .val (.long t3), .second, .val (.int (0 : Int32)), .val (.int ((20 : Int32) + ((((p4.toUInt64 >>> ((32 : Int32) &&& 0x3f).toInt64.toUInt64).toInt64) - (((p4.toUInt64 >>> ((32 : Int32) &&& 0x3f).toInt64.toUInt64).toInt64) / (43 : Int64)) * (43 : Int64)).toInt32))), .unset, .unset, .unset, .unset, .unset, .unset, .unset, .unset] [])) t_ → Steps p.tables e below A t_ := by
        intro t_ ht_
        refine k5 t_ ?_
        refine own_f_ifNo X0.here hx (hb hby at_43) ((if0 _ _).trans (feq (hc1)).1) (rfl : _ = 46) ?_
        refine own_f_iconst X0.here hx (hb hby at_46) (rfl : _ = (1 : Int32)) (rfl : _ = 47) ?_
        refine own_f_goto X0.here hx (hb hby at_47) (by decide) (by decide : _ = 51) ?_
        refine own_f_istore X0.here hx (hb hby at_51) (rfl : storeLocals _ _ _ = some #[.val (.long p1), .second, .val (.long p2), .second, .val (.long p3), .second, .val (.long p4), .second, .val (.int p5), .val (.int (1 : Int32)), .unset, .unset, .unset, .unset, .unset, .unset, .unset, .unset, .unset, .unset, .unset, .unset, .unset, .unset, .unset, .unset]) (rfl : _ = 53) ?_
        refine own_f_iload X0.here hx (hb hby at_53) rfl (rfl : _ = 55) ?_
        refine own_f_ifNo X0.here hx (hb hby at_55) ((if0 _ _).trans (feq (by decide)).1) (rfl : _ = 58) ?_
        refine own_f_lloadN X0.here hx (hb hby at_58) rfl (rfl : _ = 59) ?_
        refine st6 _ ?_
        show Steps p.tables e below (T6.setTop (mkF m 62 #[.val (.long p1), .second, .val (.long p2), .second, .val (.long p3), .second, .val (.long p4), .second, .val (.int p5), .val (.int (1 : Int32)), .unset, .unset, .unset, .unset, .unset, .unset, .unset, .unset, .unset, .unset, .unset, .unset, .unset, .unset, .unset, .unset] [(.long t1)])) t_
        refine own_f_lstore X6.here hx (hb hby at_62) (rfl : storeLocals _ _ _ = some #[.val (.long p1), .second, .val (.long p2), .second, .val (.long p3), .second, .val (.long p4), .second, .val (.int p5), .val (.int (1 : Int32)), .val (.long t1), .second, .unset, .unset, .unset, .unset, .unset, .unset, .unset, .unset, .unset, .unset, .unset, .unset, .unset, .unset]) (rfl : _ = 64) ?_
        refine own_f_goto X6.here hx (hb hby at_64) (by decide) (by decide : _ = 73) ?_
        refine own_f_lloadN X6.here hx (hb hby at_73) rfl (rfl : _ = 74) ?_
        refine st7 _ ?_
        show Steps p.tables e below (T7.setTop (mkF m 77 #[.val (.long p1), .second, .val (.long p2), .second, .val (.long p3), .second, .val (.long p4), .second, .val (.int p5), .val (.int (1 : Int32)), .val (.long t1), .second, .unset, .unset, .unset, .unset, .unset, .unset, .unset, .unset, .unset, .unset, .unset, .unset, .unset, .unset] [(.long t2)])) t_
        refine own_f_lstore X7.here hx (hb hby at_77) (rfl : storeLocals _ _ _ = some #[.val (.long p1), .second, .val (.long p2), .second, .val (.long p3), .second, .val (.long p4), .second, .val (.int p5), .val (.int (1 : Int32)), .val (.long t1), .second, .val (.long t2), .second, .unset, .unset, .unset, .unset, .unset, .unset, .unset, .unset, .unset, .unset, .unset, .unset]) (rfl : _ = 79) ?_
        refine own_f_lload X7.here hx (hb hby at_79) rfl (rfl : _ = 81) ?_
        refine st8 _ ?_
        show Steps p.tables e below (T8.setTop (mkF m 84 #[.val (.long p1), .second, .val (.long p2), .second, .val (.long p3), .second, .val (.long p4), .second, .val (.int p5), .val (.int (1 : Int32)), .val (.long t1), .second, .val (.long t2), .second, .unset, .unset, .unset, .unset, .unset, .unset, .unset, .unset, .unset, .unset, .unset, .unset] [(.long t3)])) t_
        refine own_f_lstore X8.here hx (hb hby at_84) (rfl : storeLocals _ _ _ = some #[.val (.long p1), .second, .val (.long p2), .second, .val (.long p3), .second, .val (.long p4), .second, .val (.int p5), .val (.int (1 : Int32)), .val (.long t1), .second, .val (.long t2), .second, .val (.long t3), .second, .unset, .unset, .unset, .unset, .unset, .unset, .unset, .unset, .unset, .unset]) (rfl : _ = 86) ?_
        refine own_f_iload X8.here hx (hb hby at_86) rfl (rfl : _ = 88) ?_
        refine own_f_ifNo X8.here hx (hb hby at_88) ((if0 _ _).trans (feq (by decide)).1) (rfl : _ = 91) ?_
        refine own_f_iconst X8.here hx (hb hby at_91) (rfl : _ = (0 : Int32)) (rfl : _ = 92) ?_
        refine own_f_goto X8.here hx (hb hby at_92) (by decide) (by decide : _ = 101) ?_
        refine own_f_istore X8.here hx (hb hby at_101) (rfl : storeLocals _ _ _ = some #[.val (.long p1), .second, .val (.long p2), .second, .val (.long p3), .second, .val (.long p4), .second, .val (.int p5), .val (.int (1 : Int32)), .val (.long t1), .second, .val (.long t2), .second, .val (.long t3), .second, .val (.int (0 : Int32)), .unset, .unset, .unset, .unset, .unset, .unset, .unset, .unset, .unset]) (rfl : _ = 103) ?_
        refine own_f_bipush X8.here hx (hb hby at_103) (rfl : _ = (20 : Int32)) (rfl : _ = 105) ?_
        refine own_f_lload X8.here hx (hb hby at_105) rfl (rfl : _ = 107) ?_
        refine own_f_bipush X8.here hx (hb hby at_107) (rfl : _ = (32 : Int32)) (rfl : _ = 109) ?_
        refine own_f_lushr X8.here hx (hb hby at_109) (rfl : _ = 110) ?_
        refine own_f_ldc2Long X8 hx hown (mvT hZ (hw _ (List.mem_of_getElem? (i := 29) rfl))) (hb hby at_110) (rfl : _ = 113) ?_
        refine own_f_lrem X8.here hx (hb hby at_113) (by decide) (rfl : _ = 114) ?_
        refine own_f_l2i X8.here hx (hb hby at_114) (rfl : _ = 115) ?_
        refine own_f_iadd X8.here hx (hb hby at_115) rfl (rfl : _ = 116) ?_
        refine own_f_istore X8.here hx (hb hby at_116) (rfl : storeLocals _ _ _ = some #[.val (.long p1), .second, .val (.long p2), .second, .val (.long p3), .second, .val (.long p4), .second, .val (.int p5), .val (.int (1 : Int32)), .val (.long t1), .second, .val (.long t2), .second, .val (.long t3), .second, .val (.int (0 : Int32)), .val (.int ((20 : Int32) + ((((p4.toUInt64 >>> ((32 : Int32) &&& 0x3f).toInt64.toUInt64).toInt64) - (((p4.toUInt64 >>> ((32 : Int32) &&& 0x3f).toInt64.toUInt64).toInt64) / (43 : Int64)) * (43 : Int64)).toInt32))), .unset, .unset, .unset, .unset, .unset, .unset, .unset, .unset]) (rfl : _ = 118) ?_
        exact ht_
      obtain ⟨eq, heq⟩ : ∃ z : Int32, z = ((20 : Int32) + ((((p4.toUInt64 >>> ((32 : Int32) &&& 0x3f).toInt64.toUInt64).toInt64) - (((p4.toUInt64 >>> ((32 : Int32) &&& 0x3f).toInt64.toUInt64).toInt64) / (43 : Int64)) * (43 : Int64)).toInt32)) := ⟨_, rfl⟩
      rw [← heq] at k9
      obtain ⟨he1, he2⟩ := own_ee heq
      have hT := own_tiny (m := (0 : Int32)) he1 he2 hM
      have hT2 := own_tiny_b (m := Int32.toInt (0 : Int32)) (e := eq.toInt.toNat) (by omega) (by omega) hM
      have k10 : ∀ t_, Steps p.tables e below (T8.setTop (mkF m 129 #[.val (.long p1), .second, .val (.long p2), .second, .val (.long p3), .second, .val (.long p4), .second, .val (.int p5), .val (.int (1 : Int32)), .val (.long t1), .second, .val (.long t2), .second, .val (.long t3), .second, .val (.int (0 : Int32)), .val (.int eq), .val (.double (FP.ddiv (FP.i2d (0 : Int32)) (FP.l2d ((1 : Int64) <<< (eq &&& 0x3f).toInt64)))), .second, .unset, .unset, .unset, .unset, .unset, .unset] [])) t_ → Steps p.tables e below A t_ := by
        intro t_ ht_
        refine k9 t_ ?_
        refine own_f_iload X8.here hx (hb hby at_118) rfl (rfl : _ = 120) ?_
        refine own_f_i2d X8.here hx (hb hby at_120) rfl (rfl : _ = 121) ?_
        refine own_f_lconst X8.here hx (hb hby at_121) (rfl : _ = (1 : Int64)) (rfl : _ = 122) ?_
        refine own_f_iload X8.here hx (hb hby at_122) rfl (rfl : _ = 124) ?_
        refine own_f_lshl X8.here hx (hb hby at_124) (rfl : _ = 125) ?_
        refine own_f_l2d X8.here hx (hb hby at_125) rfl (rfl : _ = 126) ?_
        refine own_f_ddiv X8.here hx (hb hby at_126) (own_V_nn hT) rfl (rfl : _ = 127) ?_
        refine own_f_dstore X8.here hx (hb hby at_127) (rfl : storeLocals _ _ _ = some #[.val (.long p1), .second, .val (.long p2), .second, .val (.long p3), .second, .val (.long p4), .second, .val (.int p5), .val (.int (1 : Int32)), .val (.long t1), .second, .val (.long t2), .second, .val (.long t3), .second, .val (.int (0 : Int32)), .val (.int eq), .val (.double (FP.ddiv (FP.i2d (0 : Int32)) (FP.l2d ((1 : Int64) <<< (eq &&& 0x3f).toInt64)))), .second, .unset, .unset, .unset, .unset, .unset, .unset]) (rfl : _ = 129) ?_
        exact ht_
      obtain ⟨ty, hty⟩ : ∃ z : UInt64, z = (FP.ddiv (FP.i2d (0 : Int32)) (FP.l2d ((1 : Int64) <<< (eq &&& 0x3f).toInt64))) := ⟨_, rfl⟩
      rw [← hty] at k10
      replace hT : own_V ty (Int32.toInt (0 : Int32) * own_p (1074 - eq.toInt.toNat)) := by rw [hty]; exact hT
      have hB1 := own_mid_b ht1
      have hV1 := own_mid_V ht1
      have hB1' : (t1.toInt.natAbs : Int) ≤ 576460752303423488 := by omega
      have hQ := own_q4 hV1 ht2 ht3 hT hB1' hT2
      obtain ⟨T11, h11, c11, X11, e11, E11, A11, st11⟩ := newP X8 hx hZ (hw _ (List.mem_of_getElem? (i := 9) rfl)) eht3 (g := (mkF m 130 #[.val (.long p1), .second, .val (.long p2), .second, .val (.long p3), .second, .val (.long p4), .second, .val (.int p5), .val (.int (1 : Int32)), .val (.long t1), .second, .val (.long t2), .second, .val (.long t3), .second, .val (.int (0 : Int32)), .val (.int eq), .val (.double ty), .second, .unset, .unset, .unset, .unset, .unset, .unset] [(.int (4 : Int32))])) rfl (hb hby at_130) rfl (by decide) (cap := 4) (by decide) (by decide) (by decide) (by decide)
      obtain ⟨b11, g11⟩ : ∃ z, z = h0.size := ⟨_, rfl⟩
      rw [← g11] at A11 st11
      have g_b11 : n0 ≤ b11 := Nat.le_trans Z0 (Nat.le_of_eq g11.symm)
      have Zs11 := Nat.le_trans Z0 E11.1
      have V_b11 : Arv Z h11 b11 c11 .double (4 : Int32) [(.double (0 : UInt64)), (.double (0 : UInt64)), (.double (0 : UInt64)), (.double (0 : UInt64))] (.double (0 : UInt64)) := (Arv.new A11 (by decide)).pad (pad_rep [] (.double (0 : UInt64)) 4)
      obtain ⟨cl12, Ar12, q12, Sz12, Ng12, Hs12, Gs12⟩ := V_b11
      have hin12 : ¬ ((0 : Int32) < 0 ∨ cl12.slots.size ≤ ((0 : Int32)).toNatClampNeg) := inb_of Sz12 ⟨by decide, by decide⟩
      obtain ⟨T13, h13, X13, e13, W13, st13⟩ := stD X11 hx hZ e11 Ar12 (j := (0 : Int32)) hin12 (g := (mkF m 140 #[.val (.long p1), .second, .val (.long p2), .second, .val (.long p3), .second, .val (.long p4), .second, .val (.int p5), .val (.int (1 : Int32)), .val (.long t1), .second, .val (.long t2), .second, .val (.long t3), .second, .val (.int (0 : Int32)), .val (.int eq), .val (.double ty), .second, .val (.ref b11), .unset, .unset, .unset, .unset, .unset] [(.double (FP.l2d t1)), (.int (0 : Int32)), (.ref b11)])) rfl rfl (hb hby at_140)
      have Zs13 := Nat.le_trans Zs11 (Keep.of_wr W13).1
      have V_b11 : Arv Z h13 b11 c11 .double (4 : Int32) [(.double (FP.l2d t1)), (.double (0 : UInt64)), (.double (0 : UInt64)), (.double (0 : UInt64))] (.double (0 : UInt64)) := Arv.set Ar12 q12 Sz12 Ng12 Hs12 Gs12 rfl W13 0 rfl (Nat.le_of_ble_eq_true rfl)
      have N13 := Fr.snoc X13 N8 g_b11
      obtain ⟨cl14, Ar14, q14, Sz14, Ng14, Hs14, Gs14⟩ := V_b11
      have hin14 : ¬ ((1 : Int32) < 0 ∨ cl14.slots.size ≤ ((1 : Int32)).toNatClampNeg) := inb_of Sz14 ⟨by decide, by decide⟩
      obtain ⟨T15, h15, X15, e15, W15, st15⟩ := stD X13 hx hZ e13 Ar14 (j := (1 : Int32)) hin14 (g := (mkF m 147 #[.val (.long p1), .second, .val (.long p2), .second, .val (.long p3), .second, .val (.long p4), .second, .val (.int p5), .val (.int (1 : Int32)), .val (.long t1), .second, .val (.long t2), .second, .val (.long t3), .second, .val (.int (0 : Int32)), .val (.int eq), .val (.double ty), .second, .val (.ref b11), .unset, .unset, .unset, .unset, .unset] [(.double (FP.l2d t2)), (.int (1 : Int32)), (.ref b11)])) rfl rfl (hb hby at_147)
      have Zs15 := Nat.le_trans Zs13 (Keep.of_wr W15).1
      have V_b11 : Arv Z h15 b11 c11 .double (4 : Int32) [(.double (FP.l2d t1)), (.double (FP.l2d t2)), (.double (0 : UInt64)), (.double (0 : UInt64))] (.double (0 : UInt64)) := Arv.set Ar14 q14 Sz14 Ng14 Hs14 Gs14 rfl W15 1 rfl (Nat.le_of_ble_eq_true rfl)
      have N15 := Fr.snoc X15 N13 g_b11
      obtain ⟨cl16, Ar16, q16, Sz16, Ng16, Hs16, Gs16⟩ := V_b11
      have hin16 : ¬ ((2 : Int32) < 0 ∨ cl16.slots.size ≤ ((2 : Int32)).toNatClampNeg) := inb_of Sz16 ⟨by decide, by decide⟩
      obtain ⟨T17, h17, X17, e17, W17, st17⟩ := stD X15 hx hZ e15 Ar16 (j := (2 : Int32)) hin16 (g := (mkF m 154 #[.val (.long p1), .second, .val (.long p2), .second, .val (.long p3), .second, .val (.long p4), .second, .val (.int p5), .val (.int (1 : Int32)), .val (.long t1), .second, .val (.long t2), .second, .val (.long t3), .second, .val (.int (0 : Int32)), .val (.int eq), .val (.double ty), .second, .val (.ref b11), .unset, .unset, .unset, .unset, .unset] [(.double (FP.l2d t3)), (.int (2 : Int32)), (.ref b11)])) rfl rfl (hb hby at_154)
      have Zs17 := Nat.le_trans Zs15 (Keep.of_wr W17).1
      have V_b11 : Arv Z h17 b11 c11 .double (4 : Int32) [(.double (FP.l2d t1)), (.double (FP.l2d t2)), (.double (FP.l2d t3)), (.double (0 : UInt64))] (.double (0 : UInt64)) := Arv.set Ar16 q16 Sz16 Ng16 Hs16 Gs16 rfl W17 2 rfl (Nat.le_of_ble_eq_true rfl)
      have N17 := Fr.snoc X17 N15 g_b11
      obtain ⟨cl18, Ar18, q18, Sz18, Ng18, Hs18, Gs18⟩ := V_b11
      have hin18 : ¬ ((3 : Int32) < 0 ∨ cl18.slots.size ≤ ((3 : Int32)).toNatClampNeg) := inb_of Sz18 ⟨by decide, by decide⟩
      obtain ⟨T19, h19, X19, e19, W19, st19⟩ := stD X17 hx hZ e17 Ar18 (j := (3 : Int32)) hin18 (g := (mkF m 160 #[.val (.long p1), .second, .val (.long p2), .second, .val (.long p3), .second, .val (.long p4), .second, .val (.int p5), .val (.int (1 : Int32)), .val (.long t1), .second, .val (.long t2), .second, .val (.long t3), .second, .val (.int (0 : Int32)), .val (.int eq), .val (.double ty), .second, .val (.ref b11), .unset, .unset, .unset, .unset, .unset] [(.double ty), (.int (3 : Int32)), (.ref b11)])) rfl rfl (hb hby at_160)
      have Zs19 := Nat.le_trans Zs17 (Keep.of_wr W19).1
      have V_b11 : Arv Z h19 b11 c11 .double (4 : Int32) [(.double (FP.l2d t1)), (.double (FP.l2d t2)), (.double (FP.l2d t3)), (.double ty)] (.double (0 : UInt64)) := Arv.set Ar18 q18 Sz18 Ng18 Hs18 Gs18 rfl W19 3 rfl (Nat.le_of_ble_eq_true rfl)
      have N19 := Fr.snoc X19 N17 g_b11
      obtain ⟨_, _, ⟨T20, L20, k20_, n20⟩, -, X20, ⟨Lc20, hQ20, l20, y20, z20⟩, st20⟩ := Jvm.LawKit.callS X19 hx (y := (⟨"com/example/prose_to_query/prosetoquery/retrieval/ExactSumValuePinLaw", "swap", "([DII)V"⟩ : MethodName)) hown (mvT hZ (hw _ (List.mem_of_getElem? (i := 30) rfl))) (mvT hZ (hw _ (List.mem_of_getElem? (i := 31) rfl))) (mvT hZ (hw _ (List.mem_of_getElem? (i := 21) rfl))) (mvT hZ (hw _ (List.mem_of_getElem? (i := 32) rfl))) (by decide) (backOf (W := 0) (rm6 l Z a0 hw [] b11 (p5 &&& (3 : Int32)) (((p5.toUInt32 >>> ((2 : Int32) &&& 31).toUInt32).toInt32) &&& (3 : Int32)) c11 (FP.l2d t1) (FP.l2d t2) (FP.l2d t3) ty h19 n0 Zs19 V_b11 g_b11 (own_and3 _) (own_and3 _)) hZ (hw _ (List.mem_of_getElem? (i := 32) rfl)) (hw _ (List.mem_of_getElem? (i := 21) rfl)) (by decide) (by decide)) (g := (mkF m 173 #[.val (.long p1), .second, .val (.long p2), .second, .val (.long p3), .second, .val (.long p4), .second, .val (.int p5), .val (.int (1 : Int32)), .val (.long t1), .second, .val (.long t2), .second, .val (.long t3), .second, .val (.int (0 : Int32)), .val (.int eq), .val (.double ty), .second, .val (.ref b11), .unset, .unset, .unset, .unset, .unset] [(.int (((p5.toUInt32 >>> ((2 : Int32) &&& 31).toUInt32).toInt32) &&& (3 : Int32))), (.int (p5 &&& (3 : Int32))), (.ref b11)])) rfl (by rw [hml]; rfl) (argsL := [(.ref b11), (.int (p5 &&& (3 : Int32))), (.int (((p5.toUInt32 >>> ((2 : Int32) &&& 31).toUInt32).toInt32) &&& (3 : Int32)))]) (rest := []) (lenOf pd_4 rfl) rfl (by show 2 * 0 + _ ≤ _; exact Nat.le_of_eq rfl) (hb hby at_173) (fun _ _ => ⟨rfl, e19, (by decide : 1 + 0 ≤ _), (by decide : 4 + 0 ≤ _)⟩)
      dsimp only [Pt.U, Pt.locs, Pt.cells, Pt.slots] at X20 l20 y20 z20 st20 hQ20
      subst l20 y20 z20
      obtain ⟨s0_0, s0_1, s0_2, s0_3, rfl, Nq20, Ks0, Vs0, Pm0⟩ := hQ20
      have N20 := Fr.app N19 Nq20
      have Zs20 := Nat.le_trans Zs19 Ks0.1
      replace hQ := Pm0 _ hQ
      obtain ⟨_, _, ⟨T21, L21, k21_, n21⟩, -, X21, ⟨Lc21, hQ21, l21, y21, z21⟩, st21⟩ := Jvm.LawKit.callS X20 hx (y := (⟨"com/example/prose_to_query/prosetoquery/retrieval/ExactSumValuePinLaw", "swap", "([DII)V"⟩ : MethodName)) hown (mvT hZ (hw _ (List.mem_of_getElem? (i := 30) rfl))) (mvT hZ (hw _ (List.mem_of_getElem? (i := 31) rfl))) (mvT hZ (hw _ (List.mem_of_getElem? (i := 21) rfl))) (mvT hZ (hw _ (List.mem_of_getElem? (i := 32) rfl))) (by decide) (backOf (W := 0) (rm6 l Z a0 hw [] b11 (((p5.toUInt32 >>> ((4 : Int32) &&& 31).toUInt32).toInt32) &&& (3 : Int32)) (((p5.toUInt32 >>> ((6 : Int32) &&& 31).toUInt32).toInt32) &&& (3 : Int32)) c11 s0_0 s0_1 s0_2 s0_3 T20.heap n0 Zs20 Vs0 g_b11 (own_and3 _) (own_and3 _)) hZ (hw _ (List.mem_of_getElem? (i := 32) rfl)) (hw _ (List.mem_of_getElem? (i := 21) rfl)) (by decide) (by decide)) (g := (mkF m 191 #[.val (.long p1), .second, .val (.long p2), .second, .val (.long p3), .second, .val (.long p4), .second, .val (.int p5), .val (.int (1 : Int32)), .val (.long t1), .second, .val (.long t2), .second, .val (.long t3), .second, .val (.int (0 : Int32)), .val (.int eq), .val (.double ty), .second, .val (.ref b11), .unset, .unset, .unset, .unset, .unset] [(.int (((p5.toUInt32 >>> ((6 : Int32) &&& 31).toUInt32).toInt32) &&& (3 : Int32))), (.int (((p5.toUInt32 >>> ((4 : Int32) &&& 31).toUInt32).toInt32) &&& (3 : Int32))), (.ref b11)])) rfl (by rw [hml]; rfl) (argsL := [(.ref b11), (.int (((p5.toUInt32 >>> ((4 : Int32) &&& 31).toUInt32).toInt32) &&& (3 : Int32))), (.int (((p5.toUInt32 >>> ((6 : Int32) &&& 31).toUInt32).toInt32) &&& (3 : Int32)))]) (rest := []) (lenOf pd_4 rfl) rfl (by show 2 * 0 + _ ≤ _; exact Nat.le_of_eq rfl) (hb hby at_191) (fun _ _ => ⟨rfl, rfl, (by decide : 1 + 0 ≤ _), (by decide : 4 + 0 ≤ _)⟩)
      dsimp only [Pt.U, Pt.locs, Pt.cells, Pt.slots] at X21 l21 y21 z21 st21 hQ21
      subst l21 y21 z21
      obtain ⟨s1_0, s1_1, s1_2, s1_3, rfl, Nq21, Ks1, Vs1, Pm1⟩ := hQ21
      have N21 := Fr.app N20 Nq21
      have Zs21 := Nat.le_trans Zs20 Ks1.1
      replace hQ := Pm1 _ hQ
      obtain ⟨_, _, ⟨T22, L22, k22_, n22⟩, -, X22, ⟨Lc22, hQ22, l22, y22, z22⟩, st22⟩ := Jvm.LawKit.callS X21 hx (y := (⟨"com/example/prose_to_query/prosetoquery/retrieval/ExactSumValuePinLaw", "swap", "([DII)V"⟩ : MethodName)) hown (mvT hZ (hw _ (List.mem_of_getElem? (i := 30) rfl))) (mvT hZ (hw _ (List.mem_of_getElem? (i := 31) rfl))) (mvT hZ (hw _ (List.mem_of_getElem? (i := 21) rfl))) (mvT hZ (hw _ (List.mem_of_getElem? (i := 32) rfl))) (by decide) (backOf (W := 0) (rm6 l Z a0 hw [] b11 (((p5.toUInt32 >>> ((8 : Int32) &&& 31).toUInt32).toInt32) &&& (3 : Int32)) (((p5.toUInt32 >>> ((10 : Int32) &&& 31).toUInt32).toInt32) &&& (3 : Int32)) c11 s1_0 s1_1 s1_2 s1_3 T21.heap n0 Zs21 Vs1 g_b11 (own_and3 _) (own_and3 _)) hZ (hw _ (List.mem_of_getElem? (i := 32) rfl)) (hw _ (List.mem_of_getElem? (i := 21) rfl)) (by decide) (by decide)) (g := (mkF m 210 #[.val (.long p1), .second, .val (.long p2), .second, .val (.long p3), .second, .val (.long p4), .second, .val (.int p5), .val (.int (1 : Int32)), .val (.long t1), .second, .val (.long t2), .second, .val (.long t3), .second, .val (.int (0 : Int32)), .val (.int eq), .val (.double ty), .second, .val (.ref b11), .unset, .unset, .unset, .unset, .unset] [(.int (((p5.toUInt32 >>> ((10 : Int32) &&& 31).toUInt32).toInt32) &&& (3 : Int32))), (.int (((p5.toUInt32 >>> ((8 : Int32) &&& 31).toUInt32).toInt32) &&& (3 : Int32))), (.ref b11)])) rfl (by rw [hml]; rfl) (argsL := [(.ref b11), (.int (((p5.toUInt32 >>> ((8 : Int32) &&& 31).toUInt32).toInt32) &&& (3 : Int32))), (.int (((p5.toUInt32 >>> ((10 : Int32) &&& 31).toUInt32).toInt32) &&& (3 : Int32)))]) (rest := []) (lenOf pd_4 rfl) rfl (by show 2 * 0 + _ ≤ _; exact Nat.le_of_eq rfl) (hb hby at_210) (fun _ _ => ⟨rfl, rfl, (by decide : 1 + 0 ≤ _), (by decide : 4 + 0 ≤ _)⟩)
      dsimp only [Pt.U, Pt.locs, Pt.cells, Pt.slots] at X22 l22 y22 z22 st22 hQ22
      subst l22 y22 z22
      obtain ⟨s2_0, s2_1, s2_2, s2_3, rfl, Nq22, Ks2, Vs2, Pm2⟩ := hQ22
      have N22 := Fr.app N21 Nq22
      have Zs22 := Nat.le_trans Zs21 Ks2.1
      replace hQ := Pm2 _ hQ
      obtain ⟨T23, h23, X23, e23, E23, A23, D23, -, st23⟩ := newO X22 hx hZ hown (hw _ (List.mem_of_getElem? (i := 0) rfl)) (hw _ (List.mem_of_getElem? (i := 1) rfl)) (hw _ (List.mem_of_getElem? (i := 2) rfl)) rfl (g := (mkF m 213 #[.val (.long p1), .second, .val (.long p2), .second, .val (.long p3), .second, .val (.long p4), .second, .val (.int p5), .val (.int (1 : Int32)), .val (.long t1), .second, .val (.long t2), .second, .val (.long t3), .second, .val (.int (0 : Int32)), .val (.int eq), .val (.double ty), .second, .val (.ref b11), .unset, .unset, .unset, .unset, .unset] [])) rfl (hb hby at_213) (by decide) (by decide)
      obtain ⟨b23, g23⟩ : ∃ z, z = T22.heap.size := ⟨_, rfl⟩
      rw [← g23] at A23 D23 st23
      have ne_b11_b23 : b11 ≠ b23 := Nat.ne_of_lt (Nat.lt_of_lt_of_le Vs2.lt (Nat.le_of_eq g23.symm))
      have g_b23 : n0 ≤ b23 := Nat.le_trans Zs22 (Nat.le_of_eq g23.symm)
      replace Vs2 := Vs2.ext E23
      have Zs23 := Nat.le_trans Zs22 E23.1
      have Ex_b23 := A23
      have F_partials_b23 : Fld Z h23 b23 "com/example/prose_to_query/prosetoquery/retrieval/ExactSum" "partials" "[D" .null := D23 (Or.inl (hw _ (List.mem_of_getElem? (i := 11) rfl))) (ty := (.array .double)) (by decide)
      have F_size_b23 : Fld Z h23 b23 "com/example/prose_to_query/prosetoquery/retrieval/ExactSum" "size" "I" (.int (0 : Int32)) := D23 (Or.inl (hw _ (List.mem_of_getElem? (i := 18) rfl))) (ty := .int) (by decide)
      obtain ⟨n0_, l1, n1, l2, n2, l3, n3, l4, vn, hV⟩ := own_four_Q hQ
      obtain ⟨_, _, ⟨T24, L24, k24_, n24⟩, -, X24, ⟨Lc24, hQ24, l24, y24, z24⟩, st24⟩ := X23.specialBack hx (y := (⟨"com/example/prose_to_query/prosetoquery/retrieval/ExactSum", "<init>", "()V"⟩ : MethodName)) rfl hown (mvT hZ (hw _ (List.mem_of_getElem? (i := 3) rfl))) (mvT hZ (hw _ (List.mem_of_getElem? (i := 4) rfl))) (mvT hZ (hw _ (List.mem_of_getElem? (i := 5) rfl))) (by decide) (backOf (W := 1) (rm1 l Z a0 hw [] b23 _ h23 n0 Zs23 Ex_b23 F_partials_b23 F_size_b23 g_b23) hZ (hw _ (List.mem_of_getElem? (i := 5) rfl)) (hw _ (List.mem_of_getElem? (i := 2) rfl)) (by decide) (by decide)) (g := (mkF m 217 #[.val (.long p1), .second, .val (.long p2), .second, .val (.long p3), .second, .val (.long p4), .second, .val (.int p5), .val (.int (1 : Int32)), .val (.long t1), .second, .val (.long t2), .second, .val (.long t3), .second, .val (.int (0 : Int32)), .val (.int eq), .val (.double ty), .second, .val (.ref b11), .unset, .unset, .unset, .unset, .unset] [(.ref b23), (.ref b23)])) rfl (by rw [hml]; rfl) (Steps.refl _) (a := b23) (argsL := []) (rest := [(.ref b23)]) (lenOf pd_1 rfl) rfl (by show 2 * 0 + _ ≤ _; exact Nat.le_of_eq rfl) (hb hby at_217) (fun _ _ => ⟨rfl, e23, (by decide : 2 + 1 ≤ _), (by decide : 6 + 4 ≤ _)⟩)
      dsimp only [Pt.U, Pt.locs, Pt.cells, Pt.slots] at X24 l24 y24 z24 st24 hQ24
      subst l24 y24 z24
      obtain ⟨ar, kc, rfl, Nq24, K1, Fp, Fs, Va, Ear, Gar⟩ := hQ24
      have N24 := Fr.app N22 Nq24
      have ne_b23_ar : b23 ≠ ar := Nat.ne_of_lt (Nat.lt_of_lt_of_le Ex_b23.lt Gar)
      have g_ar : n0 ≤ ar := Nat.le_trans Zs23 Gar
      have ne_b11_ar : b11 ≠ ar := Nat.ne_of_lt (Nat.lt_of_lt_of_le Vs2.lt Gar)
      replace Vs2 := Vs2.keep K1 (by simpa using ne_b11_b23)
      replace Ex_b23 := Ex_b23.keep K1
      have Zs24 := Nat.le_trans Zs23 K1.1
      obtain ⟨cl25, Ar25, -, Sz25, Ng25, Hs25, -⟩ := id Vs2
      have hin25 : ¬ ((0 : Int32) < 0 ∨ cl25.slots.size ≤ ((0 : Int32)).toNatClampNeg) := inb_of Sz25 ⟨by decide, by decide⟩
      have hat25 : cl25.slots[((0 : Int32)).toNatClampNeg]? = some (.double s2_0) := Hs25 _ (Nat.lt_of_not_le fun q => hin25 (Or.inr q))
      obtain ⟨cq26, kq26, q26a, q26b, q26c⟩ := isOf hZ rfl Ex_b23
      obtain ⟨_, _, ⟨T26, L26, k26_, n26⟩, -, X26, ⟨Lc26, hQ26, l26, y26, z26⟩, st26⟩ := X24.virtualBack hx (y := (⟨"com/example/prose_to_query/prosetoquery/retrieval/ExactSum", "add", "(D)V"⟩ : MethodName)) (z := (⟨"com/example/prose_to_query/prosetoquery/retrieval/ExactSum", "add", "(D)V"⟩ : MethodName)) hown (mvT hZ (hw _ (List.mem_of_getElem? (i := 33) rfl))) (mvT hZ (hw _ (List.mem_of_getElem? (i := 34) rfl))) (notFace_of_selects (args := #[]) (mvT hZ (hw _ (List.mem_of_getElem? (i := 36) rfl)))) (mvT hZ (hw _ (List.mem_of_getElem? (i := 36) rfl))) (mvT hZ (hw _ (List.mem_of_getElem? (i := 35) rfl))) (by decide) (backOf (W := 0) (rm2 l Z a0 hw [] b23 s2_0 0 ar kc 0 0 0 0 [] T24.heap n0 Zs24 Ex_b23 Fp Fs Va ne_b23_ar g_b23 g_ar own_res0 (by decide) n0_) hZ (hw _ (List.mem_of_getElem? (i := 37) rfl)) (hw _ (List.mem_of_getElem? (i := 2) rfl)) (by decide) (by decide)) q26a q26c (g := (mkF m 228 #[.val (.long p1), .second, .val (.long p2), .second, .val (.long p3), .second, .val (.long p4), .second, .val (.int p5), .val (.int (1 : Int32)), .val (.long t1), .second, .val (.long t2), .second, .val (.long t3), .second, .val (.int (0 : Int32)), .val (.int eq), .val (.double ty), .second, .val (.ref b11), .val (.ref b23), .unset, .unset, .unset, .unset] [(.double s2_0), (.ref b23)])) rfl (by rw [hml]; rfl) (Steps.refl _) (argsL := [(.double s2_0)]) (rest := []) (lenOf pd_5 rfl) rfl (by show 2 * 0 + _ ≤ _; exact Nat.le_of_eq rfl) (hb hby at_228) (fun _ _ => ⟨rfl, rfl, (by decide : 3 + 0 ≤ _), (by decide : 10 + 0 ≤ _)⟩)
      dsimp only [Pt.U, Pt.locs, Pt.cells, Pt.slots] at X26 l26 y26 z26 st26 hQ26
      subst l26 y26 z26
      obtain ⟨kx0, rx0_0, rx0_1, rx0_2, rx0_3, rfl, Nq26, Kx0, Fpx0, Fsx0, Vax0, Rx0⟩ := hQ26
      have N26 := Fr.app N24 Nq26
      replace Vs2 := Vs2.keep Kx0 (by simp; exact ⟨ne_b11_b23, ne_b11_ar⟩)
      replace Ex_b23 := Ex_b23.keep Kx0
      replace Ear := Ear.keep Kx0
      have Zs26 := Nat.le_trans Zs24 Kx0.1
      obtain ⟨cl27, Ar27, -, Sz27, Ng27, Hs27, -⟩ := id Vs2
      have hin27 : ¬ ((1 : Int32) < 0 ∨ cl27.slots.size ≤ ((1 : Int32)).toNatClampNeg) := inb_of Sz27 ⟨by decide, by decide⟩
      have hat27 : cl27.slots[((1 : Int32)).toNatClampNeg]? = some (.double s2_1) := Hs27 _ (Nat.lt_of_not_le fun q => hin27 (Or.inr q))
      obtain ⟨cq28, kq28, q28a, q28b, q28c⟩ := isOf hZ rfl Ex_b23
      obtain ⟨_, _, ⟨T28, L28, k28_, n28⟩, -, X28, ⟨Lc28, hQ28, l28, y28, z28⟩, st28⟩ := X26.virtualBack hx (y := (⟨"com/example/prose_to_query/prosetoquery/retrieval/ExactSum", "add", "(D)V"⟩ : MethodName)) (z := (⟨"com/example/prose_to_query/prosetoquery/retrieval/ExactSum", "add", "(D)V"⟩ : MethodName)) hown (mvT hZ (hw _ (List.mem_of_getElem? (i := 33) rfl))) (mvT hZ (hw _ (List.mem_of_getElem? (i := 34) rfl))) (notFace_of_selects (args := #[]) (mvT hZ (hw _ (List.mem_of_getElem? (i := 36) rfl)))) (mvT hZ (hw _ (List.mem_of_getElem? (i := 36) rfl))) (mvT hZ (hw _ (List.mem_of_getElem? (i := 35) rfl))) (by decide) (backOf (W := 0) (rm2 l Z a0 hw [] b23 s2_1 kx0 ar kc rx0_0 rx0_1 rx0_2 rx0_3 (own_ins [] s2_0) T26.heap n0 Zs26 Ex_b23 Fpx0 Fsx0 Vax0 ne_b23_ar g_b23 g_ar Rx0 l1 n1) hZ (hw _ (List.mem_of_getElem? (i := 37) rfl)) (hw _ (List.mem_of_getElem? (i := 2) rfl)) (by decide) (by decide)) q28a q28c (g := (mkF m 237 #[.val (.long p1), .second, .val (.long p2), .second, .val (.long p3), .second, .val (.long p4), .second, .val (.int p5), .val (.int (1 : Int32)), .val (.long t1), .second, .val (.long t2), .second, .val (.long t3), .second, .val (.int (0 : Int32)), .val (.int eq), .val (.double ty), .second, .val (.ref b11), .val (.ref b23), .unset, .unset, .unset, .unset] [(.double s2_1), (.ref b23)])) rfl (by rw [hml]; rfl) (Steps.refl _) (argsL := [(.double s2_1)]) (rest := []) (lenOf pd_5 rfl) rfl (by show 2 * 0 + _ ≤ _; exact Nat.le_of_eq rfl) (hb hby at_237) (fun _ _ => ⟨rfl, rfl, (by decide : 3 + 0 ≤ _), (by decide : 10 + 0 ≤ _)⟩)
      dsimp only [Pt.U, Pt.locs, Pt.cells, Pt.slots] at X28 l28 y28 z28 st28 hQ28
      subst l28 y28 z28
      obtain ⟨kx1, rx1_0, rx1_1, rx1_2, rx1_3, rfl, Nq28, Kx1, Fpx1, Fsx1, Vax1, Rx1⟩ := hQ28
      have N28 := Fr.app N26 Nq28
      replace Vs2 := Vs2.keep Kx1 (by simp; exact ⟨ne_b11_b23, ne_b11_ar⟩)
      replace Ex_b23 := Ex_b23.keep Kx1
      replace Ear := Ear.keep Kx1
      have Zs28 := Nat.le_trans Zs26 Kx1.1
      obtain ⟨cl29, Ar29, -, Sz29, Ng29, Hs29, -⟩ := id Vs2
      have hin29 : ¬ ((2 : Int32) < 0 ∨ cl29.slots.size ≤ ((2 : Int32)).toNatClampNeg) := inb_of Sz29 ⟨by decide, by decide⟩
      have hat29 : cl29.slots[((2 : Int32)).toNatClampNeg]? = some (.double s2_2) := Hs29 _ (Nat.lt_of_not_le fun q => hin29 (Or.inr q))
      obtain ⟨cq30, kq30, q30a, q30b, q30c⟩ := isOf hZ rfl Ex_b23
      obtain ⟨_, _, ⟨T30, L30, k30_, n30⟩, -, X30, ⟨Lc30, hQ30, l30, y30, z30⟩, st30⟩ := X28.virtualBack hx (y := (⟨"com/example/prose_to_query/prosetoquery/retrieval/ExactSum", "add", "(D)V"⟩ : MethodName)) (z := (⟨"com/example/prose_to_query/prosetoquery/retrieval/ExactSum", "add", "(D)V"⟩ : MethodName)) hown (mvT hZ (hw _ (List.mem_of_getElem? (i := 33) rfl))) (mvT hZ (hw _ (List.mem_of_getElem? (i := 34) rfl))) (notFace_of_selects (args := #[]) (mvT hZ (hw _ (List.mem_of_getElem? (i := 36) rfl)))) (mvT hZ (hw _ (List.mem_of_getElem? (i := 36) rfl))) (mvT hZ (hw _ (List.mem_of_getElem? (i := 35) rfl))) (by decide) (backOf (W := 0) (rm2 l Z a0 hw [] b23 s2_2 kx1 ar kc rx1_0 rx1_1 rx1_2 rx1_3 (own_ins (own_ins [] s2_0) s2_1) T28.heap n0 Zs28 Ex_b23 Fpx1 Fsx1 Vax1 ne_b23_ar g_b23 g_ar Rx1 l2 n2) hZ (hw _ (List.mem_of_getElem? (i := 37) rfl)) (hw _ (List.mem_of_getElem? (i := 2) rfl)) (by decide) (by decide)) q30a q30c (g := (mkF m 246 #[.val (.long p1), .second, .val (.long p2), .second, .val (.long p3), .second, .val (.long p4), .second, .val (.int p5), .val (.int (1 : Int32)), .val (.long t1), .second, .val (.long t2), .second, .val (.long t3), .second, .val (.int (0 : Int32)), .val (.int eq), .val (.double ty), .second, .val (.ref b11), .val (.ref b23), .unset, .unset, .unset, .unset] [(.double s2_2), (.ref b23)])) rfl (by rw [hml]; rfl) (Steps.refl _) (argsL := [(.double s2_2)]) (rest := []) (lenOf pd_5 rfl) rfl (by show 2 * 0 + _ ≤ _; exact Nat.le_of_eq rfl) (hb hby at_246) (fun _ _ => ⟨rfl, rfl, (by decide : 3 + 0 ≤ _), (by decide : 10 + 0 ≤ _)⟩)
      dsimp only [Pt.U, Pt.locs, Pt.cells, Pt.slots] at X30 l30 y30 z30 st30 hQ30
      subst l30 y30 z30
      obtain ⟨kx2, rx2_0, rx2_1, rx2_2, rx2_3, rfl, Nq30, Kx2, Fpx2, Fsx2, Vax2, Rx2⟩ := hQ30
      have N30 := Fr.app N28 Nq30
      replace Vs2 := Vs2.keep Kx2 (by simp; exact ⟨ne_b11_b23, ne_b11_ar⟩)
      replace Ex_b23 := Ex_b23.keep Kx2
      replace Ear := Ear.keep Kx2
      have Zs30 := Nat.le_trans Zs28 Kx2.1
      obtain ⟨cl31, Ar31, -, Sz31, Ng31, Hs31, -⟩ := id Vs2
      have hin31 : ¬ ((3 : Int32) < 0 ∨ cl31.slots.size ≤ ((3 : Int32)).toNatClampNeg) := inb_of Sz31 ⟨by decide, by decide⟩
      have hat31 : cl31.slots[((3 : Int32)).toNatClampNeg]? = some (.double s2_3) := Hs31 _ (Nat.lt_of_not_le fun q => hin31 (Or.inr q))
      obtain ⟨cq32, kq32, q32a, q32b, q32c⟩ := isOf hZ rfl Ex_b23
      obtain ⟨_, _, ⟨T32, L32, k32_, n32⟩, -, X32, ⟨Lc32, hQ32, l32, y32, z32⟩, st32⟩ := X30.virtualBack hx (y := (⟨"com/example/prose_to_query/prosetoquery/retrieval/ExactSum", "add", "(D)V"⟩ : MethodName)) (z := (⟨"com/example/prose_to_query/prosetoquery/retrieval/ExactSum", "add", "(D)V"⟩ : MethodName)) hown (mvT hZ (hw _ (List.mem_of_getElem? (i := 33) rfl))) (mvT hZ (hw _ (List.mem_of_getElem? (i := 34) rfl))) (notFace_of_selects (args := #[]) (mvT hZ (hw _ (List.mem_of_getElem? (i := 36) rfl)))) (mvT hZ (hw _ (List.mem_of_getElem? (i := 36) rfl))) (mvT hZ (hw _ (List.mem_of_getElem? (i := 35) rfl))) (by decide) (backOf (W := 0) (rm2 l Z a0 hw [] b23 s2_3 kx2 ar kc rx2_0 rx2_1 rx2_2 rx2_3 (own_ins (own_ins (own_ins [] s2_0) s2_1) s2_2) T30.heap n0 Zs30 Ex_b23 Fpx2 Fsx2 Vax2 ne_b23_ar g_b23 g_ar Rx2 l3 n3) hZ (hw _ (List.mem_of_getElem? (i := 37) rfl)) (hw _ (List.mem_of_getElem? (i := 2) rfl)) (by decide) (by decide)) q32a q32c (g := (mkF m 255 #[.val (.long p1), .second, .val (.long p2), .second, .val (.long p3), .second, .val (.long p4), .second, .val (.int p5), .val (.int (1 : Int32)), .val (.long t1), .second, .val (.long t2), .second, .val (.long t3), .second, .val (.int (0 : Int32)), .val (.int eq), .val (.double ty), .second, .val (.ref b11), .val (.ref b23), .unset, .unset, .unset, .unset] [(.double s2_3), (.ref b23)])) rfl (by rw [hml]; rfl) (Steps.refl _) (argsL := [(.double s2_3)]) (rest := []) (lenOf pd_5 rfl) rfl (by show 2 * 0 + _ ≤ _; exact Nat.le_of_eq rfl) (hb hby at_255) (fun _ _ => ⟨rfl, rfl, (by decide : 3 + 0 ≤ _), (by decide : 10 + 0 ≤ _)⟩)
      dsimp only [Pt.U, Pt.locs, Pt.cells, Pt.slots] at X32 l32 y32 z32 st32 hQ32
      subst l32 y32 z32
      obtain ⟨kx3, rx3_0, rx3_1, rx3_2, rx3_3, rfl, Nq32, Kx3, Fpx3, Fsx3, Vax3, Rx3⟩ := hQ32
      have N32 := Fr.app N30 Nq32
      replace Vs2 := Vs2.keep Kx3 (by simp; exact ⟨ne_b11_b23, ne_b11_ar⟩)
      replace Ex_b23 := Ex_b23.keep Kx3
      replace Ear := Ear.keep Kx3
      have Zs32 := Nat.le_trans Zs30 Kx3.1
      have k33 : ∀ t_, Steps p.tables e below (T32.setTop (mkF m 268 #[.val (.long p1), .second, .val (.long p2), .second, .val (.long p3), .second, .val (.long p4), .second, .val (.int p5), .val (.int (1 : Int32)), .val (.long t1), .second, .val (.long t2), .second, .val (.long t3), .second, .val (.int (0 : Int32)), .val (.int eq), .val (.double ty), .second, .val (.ref b11), .val (.ref b23), .val (.long ((t1 + t2) + t3)), .second, .unset, .unset] [])) t_ → Steps p.tables e below A t_ := by
        intro t_ ht_
        refine k10 t_ ?_
        refine own_f_iconst X8.here hx (hb hby at_129) (rfl : _ = (4 : Int32)) (rfl : _ = 130) ?_
        refine st11 _ ?_
        show Steps p.tables e below (T11.setTop (mkF m 132 #[.val (.long p1), .second, .val (.long p2), .second, .val (.long p3), .second, .val (.long p4), .second, .val (.int p5), .val (.int (1 : Int32)), .val (.long t1), .second, .val (.long t2), .second, .val (.long t3), .second, .val (.int (0 : Int32)), .val (.int eq), .val (.double ty), .second, .unset, .unset, .unset, .unset, .unset, .unset] [(.ref b11)])) t_
        refine own_f_astore X11.here hx (hb hby at_132) rfl (rfl : storeLocals _ _ _ = some #[.val (.long p1), .second, .val (.long p2), .second, .val (.long p3), .second, .val (.long p4), .second, .val (.int p5), .val (.int (1 : Int32)), .val (.long t1), .second, .val (.long t2), .second, .val (.long t3), .second, .val (.int (0 : Int32)), .val (.int eq), .val (.double ty), .second, .val (.ref b11), .unset, .unset, .unset, .unset, .unset]) (rfl : _ = 134) ?_
        refine own_f_aload X11.here hx (hb hby at_134) rfl rfl (rfl : _ = 136) ?_
        refine own_f_iconst X11.here hx (hb hby at_136) (rfl : _ = (0 : Int32)) (rfl : _ = 137) ?_
        refine own_f_lload X11.here hx (hb hby at_137) rfl (rfl : _ = 139) ?_
        refine own_f_l2d X11.here hx (hb hby at_139) rfl (rfl : _ = 140) ?_
        refine st13 _ ?_
        show Steps p.tables e below (T13.setTop (mkF m 141 #[.val (.long p1), .second, .val (.long p2), .second, .val (.long p3), .second, .val (.long p4), .second, .val (.int p5), .val (.int (1 : Int32)), .val (.long t1), .second, .val (.long t2), .second, .val (.long t3), .second, .val (.int (0 : Int32)), .val (.int eq), .val (.double ty), .second, .val (.ref b11), .unset, .unset, .unset, .unset, .unset] [])) t_
        refine own_f_aload X13.here hx (hb hby at_141) rfl rfl (rfl : _ = 143) ?_
        refine own_f_iconst X13.here hx (hb hby at_143) (rfl : _ = (1 : Int32)) (rfl : _ = 144) ?_
        refine own_f_lload X13.here hx (hb hby at_144) rfl (rfl : _ = 146) ?_
        refine own_f_l2d X13.here hx (hb hby at_146) rfl (rfl : _ = 147) ?_
        refine st15 _ ?_
        show Steps p.tables e below (T15.setTop (mkF m 148 #[.val (.long p1), .second, .val (.long p2), .second, .val (.long p3), .second, .val (.long p4), .second, .val (.int p5), .val (.int (1 : Int32)), .val (.long t1), .second, .val (.long t2), .second, .val (.long t3), .second, .val (.int (0 : Int32)), .val (.int eq), .val (.double ty), .second, .val (.ref b11), .unset, .unset, .unset, .unset, .unset] [])) t_
        refine own_f_aload X15.here hx (hb hby at_148) rfl rfl (rfl : _ = 150) ?_
        refine own_f_iconst X15.here hx (hb hby at_150) (rfl : _ = (2 : Int32)) (rfl : _ = 151) ?_
        refine own_f_lload X15.here hx (hb hby at_151) rfl (rfl : _ = 153) ?_
        refine own_f_l2d X15.here hx (hb hby at_153) rfl (rfl : _ = 154) ?_
        refine st17 _ ?_
        show Steps p.tables e below (T17.setTop (mkF m 155 #[.val (.long p1), .second, .val (.long p2), .second, .val (.long p3), .second, .val (.long p4), .second, .val (.int p5), .val (.int (1 : Int32)), .val (.long t1), .second, .val (.long t2), .second, .val (.long t3), .second, .val (.int (0 : Int32)), .val (.int eq), .val (.double ty), .second, .val (.ref b11), .unset, .unset, .unset, .unset, .unset] [])) t_
        refine own_f_aload X17.here hx (hb hby at_155) rfl rfl (rfl : _ = 157) ?_
        refine own_f_iconst X17.here hx (hb hby at_157) (rfl : _ = (3 : Int32)) (rfl : _ = 158) ?_
        refine own_f_dload X17.here hx (hb hby at_158) rfl (rfl : _ = 160) ?_
        refine st19 _ ?_
        show Steps p.tables e below (T19.setTop (mkF m 161 #[.val (.long p1), .second, .val (.long p2), .second, .val (.long p3), .second, .val (.long p4), .second, .val (.int p5), .val (.int (1 : Int32)), .val (.long t1), .second, .val (.long t2), .second, .val (.long t3), .second, .val (.int (0 : Int32)), .val (.int eq), .val (.double ty), .second, .val (.ref b11), .unset, .unset, .unset, .unset, .unset] [])) t_
        refine own_f_aload X19.here hx (hb hby at_161) rfl rfl (rfl : _ = 163) ?_
        refine own_f_iload X19.here hx (hb hby at_163) rfl (rfl : _ = 165) ?_
        refine own_f_iconst X19.here hx (hb hby at_165) (rfl : _ = (3 : Int32)) (rfl : _ = 166) ?_
        refine own_f_iand X19.here hx (hb hby at_166) rfl (rfl : _ = 167) ?_
        refine own_f_iload X19.here hx (hb hby at_167) rfl (rfl : _ = 169) ?_
        refine own_f_iconst X19.here hx (hb hby at_169) (rfl : _ = (2 : Int32)) (rfl : _ = 170) ?_
        refine own_f_iushr X19.here hx (hb hby at_170) (rfl : _ = 171) ?_
        refine own_f_iconst X19.here hx (hb hby at_171) (rfl : _ = (3 : Int32)) (rfl : _ = 172) ?_
        refine own_f_iand X19.here hx (hb hby at_172) rfl (rfl : _ = 173) ?_
        refine st20 _ ?_
        show Steps p.tables e below (T20.setTop (mkF m 176 #[.val (.long p1), .second, .val (.long p2), .second, .val (.long p3), .second, .val (.long p4), .second, .val (.int p5), .val (.int (1 : Int32)), .val (.long t1), .second, .val (.long t2), .second, .val (.long t3), .second, .val (.int (0 : Int32)), .val (.int eq), .val (.double ty), .second, .val (.ref b11), .unset, .unset, .unset, .unset, .unset] [])) t_
        refine own_f_aload X20.here hx (hb hby at_176) rfl rfl (rfl : _ = 178) ?_
        refine own_f_iload X20.here hx (hb hby at_178) rfl (rfl : _ = 180) ?_
        refine own_f_iconst X20.here hx (hb hby at_180) (rfl : _ = (4 : Int32)) (rfl : _ = 181) ?_
        refine own_f_iushr X20.here hx (hb hby at_181) (rfl : _ = 182) ?_
        refine own_f_iconst X20.here hx (hb hby at_182) (rfl : _ = (3 : Int32)) (rfl : _ = 183) ?_
        refine own_f_iand X20.here hx (hb hby at_183) rfl (rfl : _ = 184) ?_
        refine own_f_iload X20.here hx (hb hby at_184) rfl (rfl : _ = 186) ?_
        refine own_f_bipush X20.here hx (hb hby at_186) (rfl : _ = (6 : Int32)) (rfl : _ = 188) ?_
        refine own_f_iushr X20.here hx (hb hby at_188) (rfl : _ = 189) ?_
        refine own_f_iconst X20.here hx (hb hby at_189) (rfl : _ = (3 : Int32)) (rfl : _ = 190) ?_
        refine own_f_iand X20.here hx (hb hby at_190) rfl (rfl : _ = 191) ?_
        refine st21 _ ?_
        show Steps p.tables e below (T21.setTop (mkF m 194 #[.val (.long p1), .second, .val (.long p2), .second, .val (.long p3), .second, .val (.long p4), .second, .val (.int p5), .val (.int (1 : Int32)), .val (.long t1), .second, .val (.long t2), .second, .val (.long t3), .second, .val (.int (0 : Int32)), .val (.int eq), .val (.double ty), .second, .val (.ref b11), .unset, .unset, .unset, .unset, .unset] [])) t_
        refine own_f_aload X21.here hx (hb hby at_194) rfl rfl (rfl : _ = 196) ?_
        refine own_f_iload X21.here hx (hb hby at_196) rfl (rfl : _ = 198) ?_
        refine own_f_bipush X21.here hx (hb hby at_198) (rfl : _ = (8 : Int32)) (rfl : _ = 200) ?_
        refine own_f_iushr X21.here hx (hb hby at_200) (rfl : _ = 201) ?_
        refine own_f_iconst X21.here hx (hb hby at_201) (rfl : _ = (3 : Int32)) (rfl : _ = 202) ?_
        refine own_f_iand X21.here hx (hb hby at_202) rfl (rfl : _ = 203) ?_
        refine own_f_iload X21.here hx (hb hby at_203) rfl (rfl : _ = 205) ?_
        refine own_f_bipush X21.here hx (hb hby at_205) (rfl : _ = (10 : Int32)) (rfl : _ = 207) ?_
        refine own_f_iushr X21.here hx (hb hby at_207) (rfl : _ = 208) ?_
        refine own_f_iconst X21.here hx (hb hby at_208) (rfl : _ = (3 : Int32)) (rfl : _ = 209) ?_
        refine own_f_iand X21.here hx (hb hby at_209) rfl (rfl : _ = 210) ?_
        refine st22 _ ?_
        show Steps p.tables e below (T22.setTop (mkF m 213 #[.val (.long p1), .second, .val (.long p2), .second, .val (.long p3), .second, .val (.long p4), .second, .val (.int p5), .val (.int (1 : Int32)), .val (.long t1), .second, .val (.long t2), .second, .val (.long t3), .second, .val (.int (0 : Int32)), .val (.int eq), .val (.double ty), .second, .val (.ref b11), .unset, .unset, .unset, .unset, .unset] [])) t_
        refine st23 _ ?_
        show Steps p.tables e below (T23.setTop (mkF m 216 #[.val (.long p1), .second, .val (.long p2), .second, .val (.long p3), .second, .val (.long p4), .second, .val (.int p5), .val (.int (1 : Int32)), .val (.long t1), .second, .val (.long t2), .second, .val (.long t3), .second, .val (.int (0 : Int32)), .val (.int eq), .val (.double ty), .second, .val (.ref b11), .unset, .unset, .unset, .unset, .unset] [(.ref b23)])) t_
        refine own_f_dup X23.here hx (hb hby at_216) rfl (rfl : _ = 217) ?_
        refine st24.trans ?_
        show Steps p.tables e below (T24.setTop (mkF m 220 #[.val (.long p1), .second, .val (.long p2), .second, .val (.long p3), .second, .val (.long p4), .second, .val (.int p5), .val (.int (1 : Int32)), .val (.long t1), .second, .val (.long t2), .second, .val (.long t3), .second, .val (.int (0 : Int32)), .val (.int eq), .val (.double ty), .second, .val (.ref b11), .unset, .unset, .unset, .unset, .unset] [(.ref b23)])) t_
        refine own_f_astore X24.here hx (hb hby at_220) rfl (rfl : storeLocals _ _ _ = some #[.val (.long p1), .second, .val (.long p2), .second, .val (.long p3), .second, .val (.long p4), .second, .val (.int p5), .val (.int (1 : Int32)), .val (.long t1), .second, .val (.long t2), .second, .val (.long t3), .second, .val (.int (0 : Int32)), .val (.int eq), .val (.double ty), .second, .val (.ref b11), .val (.ref b23), .unset, .unset, .unset, .unset]) (rfl : _ = 222) ?_
        refine own_f_aload X24.here hx (hb hby at_222) rfl rfl (rfl : _ = 224) ?_
        refine own_f_aload X24.here hx (hb hby at_224) rfl rfl (rfl : _ = 226) ?_
        refine own_f_iconst X24.here hx (hb hby at_226) (rfl : _ = (0 : Int32)) (rfl : _ = 227) ?_
        refine X24.daload hx (j := (0 : Int32)) (v := (.double s2_0)) (Ar25.1) (State.isArrayOf_alike hZ.alike Ar25.2.1) Ar25.2.2 hin25 hat25 (g := (mkF m 227 #[.val (.long p1), .second, .val (.long p2), .second, .val (.long p3), .second, .val (.long p4), .second, .val (.int p5), .val (.int (1 : Int32)), .val (.long t1), .second, .val (.long t2), .second, .val (.long t3), .second, .val (.int (0 : Int32)), .val (.int eq), .val (.double ty), .second, .val (.ref b11), .val (.ref b23), .unset, .unset, .unset, .unset] [(.int (0 : Int32)), (.ref b11), (.ref b23)])) rfl rfl (hb hby at_227) _ ?_
        show Steps p.tables e below (T24.setTop (mkF m 228 #[.val (.long p1), .second, .val (.long p2), .second, .val (.long p3), .second, .val (.long p4), .second, .val (.int p5), .val (.int (1 : Int32)), .val (.long t1), .second, .val (.long t2), .second, .val (.long t3), .second, .val (.int (0 : Int32)), .val (.int eq), .val (.double ty), .second, .val (.ref b11), .val (.ref b23), .unset, .unset, .unset, .unset] [(.double s2_0), (.ref b23)])) t_
        refine st26.trans ?_
        show Steps p.tables e below (T26.setTop (mkF m 231 #[.val (.long p1), .second, .val (.long p2), .second, .val (.long p3), .second, .val (.long p4), .second, .val (.int p5), .val (.int (1 : Int32)), .val (.long t1), .second, .val (.long t2), .second, .val (.long t3), .second, .val (.int (0 : Int32)), .val (.int eq), .val (.double ty), .second, .val (.ref b11), .val (.ref b23), .unset, .unset, .unset, .unset] [])) t_
        refine own_f_aload X26.here hx (hb hby at_231) rfl rfl (rfl : _ = 233) ?_
        refine own_f_aload X26.here hx (hb hby at_233) rfl rfl (rfl : _ = 235) ?_
        refine own_f_iconst X26.here hx (hb hby at_235) (rfl : _ = (1 : Int32)) (rfl : _ = 236) ?_
        refine X26.daload hx (j := (1 : Int32)) (v := (.double s2_1)) (Ar27.1) (State.isArrayOf_alike hZ.alike Ar27.2.1) Ar27.2.2 hin27 hat27 (g := (mkF m 236 #[.val (.long p1), .second, .val (.long p2), .second, .val (.long p3), .second, .val (.long p4), .second, .val (.int p5), .val (.int (1 : Int32)), .val (.long t1), .second, .val (.long t2), .second, .val (.long t3), .second, .val (.int (0 : Int32)), .val (.int eq), .val (.double ty), .second, .val (.ref b11), .val (.ref b23), .unset, .unset, .unset, .unset] [(.int (1 : Int32)), (.ref b11), (.ref b23)])) rfl rfl (hb hby at_236) _ ?_
        show Steps p.tables e below (T26.setTop (mkF m 237 #[.val (.long p1), .second, .val (.long p2), .second, .val (.long p3), .second, .val (.long p4), .second, .val (.int p5), .val (.int (1 : Int32)), .val (.long t1), .second, .val (.long t2), .second, .val (.long t3), .second, .val (.int (0 : Int32)), .val (.int eq), .val (.double ty), .second, .val (.ref b11), .val (.ref b23), .unset, .unset, .unset, .unset] [(.double s2_1), (.ref b23)])) t_
        refine st28.trans ?_
        show Steps p.tables e below (T28.setTop (mkF m 240 #[.val (.long p1), .second, .val (.long p2), .second, .val (.long p3), .second, .val (.long p4), .second, .val (.int p5), .val (.int (1 : Int32)), .val (.long t1), .second, .val (.long t2), .second, .val (.long t3), .second, .val (.int (0 : Int32)), .val (.int eq), .val (.double ty), .second, .val (.ref b11), .val (.ref b23), .unset, .unset, .unset, .unset] [])) t_
        refine own_f_aload X28.here hx (hb hby at_240) rfl rfl (rfl : _ = 242) ?_
        refine own_f_aload X28.here hx (hb hby at_242) rfl rfl (rfl : _ = 244) ?_
        refine own_f_iconst X28.here hx (hb hby at_244) (rfl : _ = (2 : Int32)) (rfl : _ = 245) ?_
        refine X28.daload hx (j := (2 : Int32)) (v := (.double s2_2)) (Ar29.1) (State.isArrayOf_alike hZ.alike Ar29.2.1) Ar29.2.2 hin29 hat29 (g := (mkF m 245 #[.val (.long p1), .second, .val (.long p2), .second, .val (.long p3), .second, .val (.long p4), .second, .val (.int p5), .val (.int (1 : Int32)), .val (.long t1), .second, .val (.long t2), .second, .val (.long t3), .second, .val (.int (0 : Int32)), .val (.int eq), .val (.double ty), .second, .val (.ref b11), .val (.ref b23), .unset, .unset, .unset, .unset] [(.int (2 : Int32)), (.ref b11), (.ref b23)])) rfl rfl (hb hby at_245) _ ?_
        show Steps p.tables e below (T28.setTop (mkF m 246 #[.val (.long p1), .second, .val (.long p2), .second, .val (.long p3), .second, .val (.long p4), .second, .val (.int p5), .val (.int (1 : Int32)), .val (.long t1), .second, .val (.long t2), .second, .val (.long t3), .second, .val (.int (0 : Int32)), .val (.int eq), .val (.double ty), .second, .val (.ref b11), .val (.ref b23), .unset, .unset, .unset, .unset] [(.double s2_2), (.ref b23)])) t_
        refine st30.trans ?_
        show Steps p.tables e below (T30.setTop (mkF m 249 #[.val (.long p1), .second, .val (.long p2), .second, .val (.long p3), .second, .val (.long p4), .second, .val (.int p5), .val (.int (1 : Int32)), .val (.long t1), .second, .val (.long t2), .second, .val (.long t3), .second, .val (.int (0 : Int32)), .val (.int eq), .val (.double ty), .second, .val (.ref b11), .val (.ref b23), .unset, .unset, .unset, .unset] [])) t_
        refine own_f_aload X30.here hx (hb hby at_249) rfl rfl (rfl : _ = 251) ?_
        refine own_f_aload X30.here hx (hb hby at_251) rfl rfl (rfl : _ = 253) ?_
        refine own_f_iconst X30.here hx (hb hby at_253) (rfl : _ = (3 : Int32)) (rfl : _ = 254) ?_
        refine X30.daload hx (j := (3 : Int32)) (v := (.double s2_3)) (Ar31.1) (State.isArrayOf_alike hZ.alike Ar31.2.1) Ar31.2.2 hin31 hat31 (g := (mkF m 254 #[.val (.long p1), .second, .val (.long p2), .second, .val (.long p3), .second, .val (.long p4), .second, .val (.int p5), .val (.int (1 : Int32)), .val (.long t1), .second, .val (.long t2), .second, .val (.long t3), .second, .val (.int (0 : Int32)), .val (.int eq), .val (.double ty), .second, .val (.ref b11), .val (.ref b23), .unset, .unset, .unset, .unset] [(.int (3 : Int32)), (.ref b11), (.ref b23)])) rfl rfl (hb hby at_254) _ ?_
        show Steps p.tables e below (T30.setTop (mkF m 255 #[.val (.long p1), .second, .val (.long p2), .second, .val (.long p3), .second, .val (.long p4), .second, .val (.int p5), .val (.int (1 : Int32)), .val (.long t1), .second, .val (.long t2), .second, .val (.long t3), .second, .val (.int (0 : Int32)), .val (.int eq), .val (.double ty), .second, .val (.ref b11), .val (.ref b23), .unset, .unset, .unset, .unset] [(.double s2_3), (.ref b23)])) t_
        refine st32.trans ?_
        show Steps p.tables e below (T32.setTop (mkF m 258 #[.val (.long p1), .second, .val (.long p2), .second, .val (.long p3), .second, .val (.long p4), .second, .val (.int p5), .val (.int (1 : Int32)), .val (.long t1), .second, .val (.long t2), .second, .val (.long t3), .second, .val (.int (0 : Int32)), .val (.int eq), .val (.double ty), .second, .val (.ref b11), .val (.ref b23), .unset, .unset, .unset, .unset] [])) t_
        refine own_f_lload X32.here hx (hb hby at_258) rfl (rfl : _ = 260) ?_
        refine own_f_lload X32.here hx (hb hby at_260) rfl (rfl : _ = 262) ?_
        refine own_f_ladd X32.here hx (hb hby at_262) rfl (rfl : _ = 263) ?_
        refine own_f_lload X32.here hx (hb hby at_263) rfl (rfl : _ = 265) ?_
        refine own_f_ladd X32.here hx (hb hby at_265) rfl (rfl : _ = 266) ?_
        refine own_f_lstore X32.here hx (hb hby at_266) (rfl : storeLocals _ _ _ = some #[.val (.long p1), .second, .val (.long p2), .second, .val (.long p3), .second, .val (.long p4), .second, .val (.int p5), .val (.int (1 : Int32)), .val (.long t1), .second, .val (.long t2), .second, .val (.long t3), .second, .val (.int (0 : Int32)), .val (.int eq), .val (.double ty), .second, .val (.ref b11), .val (.ref b23), .val (.long ((t1 + t2) + t3)), .second, .unset, .unset]) (rfl : _ = 268) ?_
        exact ht_
      obtain ⟨ex, hex⟩ : ∃ z : Int64, z = ((t1 + t2) + t3) := ⟨_, rfl⟩
      rw [← hex] at k33
      obtain ⟨cq34, kq34, q34a, q34b, q34c⟩ := isOf hZ rfl Ex_b23
      obtain ⟨_, _, ⟨T34, L34, k34_, n34⟩, -, X34, ⟨Lc34, hQ34, l34, y34, z34⟩, st34⟩ := X32.virtualBack hx (y := (⟨"com/example/prose_to_query/prosetoquery/retrieval/ExactSum", "value", "()D"⟩ : MethodName)) (z := (⟨"com/example/prose_to_query/prosetoquery/retrieval/ExactSum", "value", "()D"⟩ : MethodName)) hown (mvT hZ (hw _ (List.mem_of_getElem? (i := 12) rfl))) (mvT hZ (hw _ (List.mem_of_getElem? (i := 13) rfl))) (notFace_of_selects (args := #[]) (mvT hZ (hw _ (List.mem_of_getElem? (i := 15) rfl)))) (mvT hZ (hw _ (List.mem_of_getElem? (i := 15) rfl))) (mvT hZ (hw _ (List.mem_of_getElem? (i := 14) rfl))) (by decide) (backOf (W := 0) (rm3 l Z a0 hw [] b23 kx3 ar kc rx3_0 rx3_1 rx3_2 rx3_3 (own_ins (own_ins (own_ins (own_ins [] s2_0) s2_1) s2_2) s2_3) T32.heap n0 Zs32 Fpx3 Fsx3 Vax3 Rx3 l4 vn) hZ (hw _ (List.mem_of_getElem? (i := 16) rfl)) (hw _ (List.mem_of_getElem? (i := 2) rfl)) (by decide) (by decide)) q34a q34c (g := (mkF m 321 #[.val (.long p1), .second, .val (.long p2), .second, .val (.long p3), .second, .val (.long p4), .second, .val (.int p5), .val (.int (1 : Int32)), .val (.long t1), .second, .val (.long t2), .second, .val (.long t3), .second, .val (.int (0 : Int32)), .val (.int eq), .val (.double ty), .second, .val (.ref b11), .val (.ref b23), .val (.long ex), .second, .val (.double (FP.l2d ex)), .second] [(.ref b23)])) rfl (by rw [hml]; rfl) (Steps.refl _) (argsL := []) (rest := []) (lenOf pd_2 rfl) rfl (by show 2 * 0 + _ ≤ _; exact Nat.le_of_eq rfl) (hb hby at_321) (fun _ _ => ⟨rfl, rfl, (by decide : 3 + 0 ≤ _), (by decide : 10 + 0 ≤ _)⟩)
      dsimp only [Pt.U, Pt.locs, Pt.cells, Pt.slots] at X34 l34 y34 z34 st34 hQ34
      subst l34 y34 z34
      obtain ⟨rfl, Nq34, e34⟩ := hQ34
      have N34 := Fr.app N32 Nq34
      obtain ⟨fs, hr, hrun, hended, hW, hsame⟩ := X34.leave (v := some (.int (1 : Int32))) (fun h => by rw [Bd.returns] at h; cases h) hlk
      refine ⟨_, _, ?_, hrun, hended, _, _, rfl, ?_, ⟨_, rfl⟩, hW, hsame.mono (by decide) (by decide)⟩
      · refine hA0 _ ?_
        refine k33 _ ?_
        refine own_f_iload X32.here hx (hb hby at_268) rfl (rfl : _ = 270) ?_
        refine own_f_ifNo X32.here hx (hb hby at_270) ((if0 _ _).trans (teq (by decide)).2) (rfl : _ = 273) ?_
        refine own_f_lload X32.here hx (hb hby at_273) rfl (rfl : _ = 275) ?_
        refine own_f_l2d X32.here hx (hb hby at_275) rfl (rfl : _ = 276) ?_
        refine own_f_dstore X32.here hx (hb hby at_276) (rfl : storeLocals _ _ _ = some #[.val (.long p1), .second, .val (.long p2), .second, .val (.long p3), .second, .val (.long p4), .second, .val (.int p5), .val (.int (1 : Int32)), .val (.long t1), .second, .val (.long t2), .second, .val (.long t3), .second, .val (.int (0 : Int32)), .val (.int eq), .val (.double ty), .second, .val (.ref b11), .val (.ref b23), .val (.long ex), .second, .val (.double (FP.l2d ex)), .second]) (rfl : _ = 278) ?_
        refine own_f_goto X32.here hx (hb hby at_278) (by decide) (by decide : _ = 319) ?_
        refine own_f_aload X32.here hx (hb hby at_319) rfl rfl (rfl : _ = 321) ?_
        refine st34.trans ?_
        show Steps p.tables e below (T34.setTop (mkF m 324 #[.val (.long p1), .second, .val (.long p2), .second, .val (.long p3), .second, .val (.long p4), .second, .val (.int p5), .val (.int (1 : Int32)), .val (.long t1), .second, .val (.long t2), .second, .val (.long t3), .second, .val (.int (0 : Int32)), .val (.int eq), .val (.double ty), .second, .val (.ref b11), .val (.ref b23), .val (.long ex), .second, .val (.double (FP.l2d ex)), .second] [(.double (own_value (own_ins (own_ins (own_ins (own_ins [] s2_0) s2_1) s2_2) s2_3)))])) _
        refine own_f_dload X34.here hx (hb hby at_324) rfl (rfl : _ = 326) ?_
        refine own_f_dcmp X34.here hx (hb hby at_326) rfl (rfl : _ = 327) ?_
        refine own_f_ifNo X34.here hx (hb hby at_327) ((if0 _ _).trans (teq (own_end0 hex hB1' ht2 ht3 (by rw [show Int32.toInt 0 = 0 from by decide, Int.zero_mul]) hV)).2) (rfl : _ = 330) ?_
        refine own_f_iconst X34.here hx (hb hby at_330) (rfl : _ = (1 : Int32)) (rfl : _ = 331) ?_
        refine own_f_goto X34.here hx (hb hby at_331) (by decide) (by decide : _ = 335) ?_
        exact retN X34 hx (t := .boolean) Bd.returns (by simp) (hb hby at_335) hr
      · show Q0 Z p1 p2 p3 p4 p5 h0 n0 _ T34.heap _
        rw [e34]
        exact ⟨rfl, N34⟩
set_option maxRecDepth 65536 in
set_option maxHeartbeats 40000000 in
theorem comes_1 {Post : Tables → Env → Array Value → State → Outcome → State → Prop} (hpost : ∀ tb e args s v u, (limb_1_1.after args s (.returned v) u = true ∧ limb_1_2.after args s (.returned v) u = true ∧ True) → FrameEnd s (.returned v) u (Jvm.fieldLocs frame_1_writes args s ++ Jvm.arrayLocs frame_1_arrays args s ++ Jvm.staticLocs frame_1_statics s) 16 128 → Post tb e args s (.returned v) u) :
    ArmFor flags0 classFile x code maxLocals ret World_1 tables_1 room_1 Calls_1 rest_1 Pre_1 Post := by
  intro l hfl _ _ p e ha hc hk s m args below hf hA hF happ hP
  obtain ⟨hcalls, hrest, hpre⟩ := hP
  obtain ⟨-, -, -, hnamed, -, -, -, hat⟩ := (Spec.applies_iff hf).mp happ
  obtain ⟨hg, hn⟩ := and_e (Cond.before_iff.mp (show (Jvm.Cond.and given_1 narrow_1).before args s = true from hpre))
  obtain ⟨gc, gr0⟩ := and_e hg
  obtain ⟨g0, gr1⟩ := and_e gr0
  obtain ⟨g1, gr2⟩ := and_e gr1
  obtain ⟨g2, gr3⟩ := and_e gr2
  obtain ⟨g3, gr4⟩ := and_e gr3
  have g4 := gr4
  obtain ⟨w0, w1, w2, w3, w4, rfl⟩ : ∃ w0 w1 w2 w3 w4 : Value, args = #[w0, w1, w2, w3, w4] := by
    have hs : args.size = 5 := by simpa [Cond.value, given_1] using gc
    obtain ⟨L⟩ := args
    match L, hs with
    | [w0, w1, w2, w3, w4], _ => exact ⟨w0, w1, w2, w3, w4, rfl⟩
  have hw := fun d (hd : d ∈ tables_1) => atoms_spec (ws := Jvm.Cond.code x code maxLocals ret :: tables_1) hat d (List.mem_cons_of_mem _ hd)
  have hfit : Fit s := fun {y c} hc i hi => by
    obtain ⟨ha, rfl⟩ := Array.getElem?_eq_some_iff.mp hc
    have q := List.all_eq_true.mp ((Array.all_eq_true_iff_forall_mem.mp hF) _ (Array.getElem_mem ha)) i (List.mem_range.mpr hi)
    simpa [Array.getElem?_eq_getElem hi] using q
  obtain ⟨i0, ei0⟩ := isL_v g0
  obtain rfl : w0 = (.long i0) := Option.some.inj ei0
  obtain ⟨i1, ei1⟩ := isL_v g1
  obtain rfl : w1 = (.long i1) := Option.some.inj ei1
  obtain ⟨i2, ei2⟩ := isL_v g2
  obtain rfl : w2 = (.long i2) := Option.some.inj ei2
  obtain ⟨i3, ei3⟩ := isL_v g3
  obtain rfl : w3 = (.long i3) := Option.some.inj ei3
  obtain ⟨i4, ei4⟩ := is_v g4
  obtain rfl : w4 = (.int i4) := Option.some.inj ei4
  obtain ⟨n, o, h1, h2, h3, _, L, rfl, ⟨rfl, N⟩, hq⟩ := rm0 l s _ hw tables_1 i0 i1 i2 i3 i4  s.heap s.heap.size (Nat.le_refl _)  p e ha hc hk s m _ below hf ((Spec.applies_iff_loose hf).mp happ).1 ⟨rfl, State.Warmed39.refl s, rfl⟩ trivial
  refine ⟨n, _, h1, h2, h3, hpost _ _ _ _ _ _ ⟨Cond.after_iff.mpr rfl, Cond.after_iff.mpr (eq_i res_at (Term.int_eval (1)) rfl), trivial⟩ ⟨hq.1, hq.2.1, (hq.2.2.sift fun y hy => Or.inr (N y hy)).mono (by decide) (by decide)⟩⟩
theorem main_1_1 : Claimed_1_1 := comes_1 fun _ _ _ _ _ _ h hF => ⟨h.1, hF⟩
theorem main_1_2 : Claimed_1_2 := comes_1 fun _ _ _ _ _ _ h hF => ⟨h.2.1, hF⟩
end Jvm.Pilot.@@N@@
namespace Jvm.Pilot.@@N@@
open Jvm Jvm.ClassFile Sem Op Lib Jvm.Free Jvm.Stand Jvm.Pilot.@@N@@.Jvm.D
/-! MADE BY PROGRAM (witnessworld.py) out of the Statement's table words and the real class files: 10 classes; the members and pool entries that the words name. The judged class is class 1, her method 1. -/
namespace start1
open Jvm.ClassFile
def u (s : String) : CpInfo := .utf8 (stringToUtf16 s)
/-- a pool by its gaps: so many unusable entries, then the entry; so many at the end -/
def gap : Nat → List CpInfo → List CpInfo
  | 0, r => r
  | n + 1, r => .unusable :: gap n r
def poolList (es : List (Nat × CpInfo)) (last : Nat) : List CpInfo := es.foldr (fun e r => gap e.1 (e.2 :: r)) (gap last [])
def pool (es : List (Nat × CpInfo)) (last : Nat) : Array CpInfo := ⟨poolList es last⟩
def fileOf (pool : Array CpInfo) (this : Nat) (attrs : Array Attribute := #[]) (ms : Array MethodInfo := #[]) (fl : Nat := 33) (sup : Nat := 0) (ifs : Array Nat := #[]) (fds : Array FieldInfo := #[]) : ClassFile where
  minorVersion := 0
  majorVersion := 65
  constantPool := pool
  accessFlags := fl
  thisClass := this
  superClass := sup
  interfaces := ifs
  fields := fds
  methods := ms
  attributes := attrs
def plain (name : String) (sup : Option ClassId) : Class where
  name := name
  kind := .ordinary
  loader := none
  accessFlags := 33
  super := sup
  interfaces := #[]
  cf := none
  fields := #[]
  methods := #[]
  instanceTypes := #[]
  staticTypes := #[]
  resolved := #[]
  callSites := []
  init := .initialized
  statics := none
  mirror := none

def pool0 : Array CpInfo := pool [(5, u "<init>"), (0, u "()V"), (1, .class_ 10), (1, u "java/lang/Object")] 113

def k0c0 : Code := { maxStack := 0, maxLocals := 1, code := object_method_1_code, exceptionTable := #[], attributes := #[] }
def k0m0 : Method := { name := "<init>", desc := "()V", sig := { parameters := [], returnType := none }, accessFlags := 1, code := some k0c0 }
/-- java/lang/Object -/
def k0 : Class := { plain "java/lang/Object" none with
  accessFlags := 33
  interfaces := #[]
  cf := some (fileOf pool0 8 #[] #[{ accessFlags := 1, nameIndex := 5, descriptorIndex := 6, attributes := #[] }] 33 0 #[] #[])
  fields := #[]
  methods := #[k0m0]
  instanceTypes := #[]
  staticTypes := #[]
  resolved := Array.replicate 124 none
  statics := none }

def pool1 : Array CpInfo := pool [(2, .class_ 4), (0, .nameAndType 5 6), (0, u "java/lang/Object"), (0, u "<init>"), (0, u "()V"), (0, .class_ 8), (0, u "com/example/prose_to_query/prosetoquery/retrieval/ExactSum"), (0, .methodref 7 3), (0, .methodref 7 11), (0, .nameAndType 12 13), (0, u "value"), (0, u "()D"), (0, .methodref 15 16), (0, .class_ 17), (0, .nameAndType 18 19), (0, u "com/example/prose_to_query/prosetoquery/retrieval/ExactSumValuePinLaw"), (0, u "mid"), (0, u "(J)J"), (0, .methodref 15 21), (0, .nameAndType 22 19), (0, u "big"), (0, .long 43), (1, .methodref 15 26), (0, .nameAndType 27 28), (0, u "swap"), (0, u "([DII)V"), (0, .methodref 7 30), (0, .nameAndType 31 32), (0, u "add"), (0, u "(D)V"), (0, .long 2), (1, .double 4611686018427387904), (1, .long 26), (1, .long 4503599627370496), (1, .long 4503599627370495), (3, u "law"), (0, u "(JJJJI)Z")] 5

def k1m0 : Method := { name := "<init>", desc := "()V", sig := { parameters := [], returnType := none }, accessFlags := 1, code := none }
def k1c1 : Code := { maxStack := 5, maxLocals := 26, code := code, exceptionTable := #[], attributes := #[] }
def k1m1 : Method := { name := "law", desc := "(JJJJI)Z", sig := { parameters := [.long, .long, .long, .long, .int], returnType := some .boolean }, accessFlags := 9, code := some k1c1 }
def k1c2 : Code := { maxStack := 4, maxLocals := 4, code := method_3_code, exceptionTable := #[], attributes := #[] }
def k1m2 : Method := { name := "mid", desc := "(J)J", sig := { parameters := [.long], returnType := some .long }, accessFlags := 10, code := some k1c2 }
def k1c3 : Code := { maxStack := 6, maxLocals := 4, code := method_4_code, exceptionTable := #[], attributes := #[] }
def k1m3 : Method := { name := "big", desc := "(J)J", sig := { parameters := [.long], returnType := some .long }, accessFlags := 10, code := some k1c3 }
def k1c4 : Code := { maxStack := 4, maxLocals := 5, code := method_5_code, exceptionTable := #[], attributes := #[] }
def k1m4 : Method := { name := "swap", desc := "([DII)V", sig := { parameters := [(.array .double), .int, .int], returnType := none }, accessFlags := 10, code := some k1c4 }
/-- com/example/prose_to_query/prosetoquery/retrieval/ExactSumValuePinLaw -/
def k1 : Class := { plain "com/example/prose_to_query/prosetoquery/retrieval/ExactSumValuePinLaw" (some 0) with
  accessFlags := 49
  interfaces := #[]
  cf := some (fileOf pool1 15 #[] #[{ accessFlags := 1, nameIndex := 5, descriptorIndex := 6, attributes := #[] }, { accessFlags := 9, nameIndex := 45, descriptorIndex := 46, attributes := #[] }, { accessFlags := 10, nameIndex := 18, descriptorIndex := 19, attributes := #[] }, { accessFlags := 10, nameIndex := 22, descriptorIndex := 19, attributes := #[] }, { accessFlags := 10, nameIndex := 27, descriptorIndex := 28, attributes := #[] }] 49 2 #[] #[])
  fields := #[]
  methods := #[k1m0, k1m1, k1m2, k1m3, k1m4]
  instanceTypes := #[]
  staticTypes := #[]
  resolved := Array.replicate 52 none
  statics := none }

def pool2 : Array CpInfo := pool [(1, .methodref 2 3), (0, .class_ 4), (0, .nameAndType 5 6), (0, u "java/lang/Object"), (0, u "<init>"), (0, u "()V"), (0, .fieldref 8 9), (0, .class_ 10), (0, .nameAndType 11 12), (0, u "com/example/prose_to_query/prosetoquery/retrieval/ExactSum"), (0, u "partials"), (0, u "[D"), (0, .fieldref 8 14), (0, .nameAndType 15 16), (0, u "size"), (0, u "I"), (0, .methodref 18 19), (0, .class_ 20), (0, .nameAndType 21 22), (0, u "java/lang/Math"), (0, u "abs"), (0, u "(D)D"), (8, u "add"), (0, u "(D)V"), (4, .double 4611686018427387904), (6, u "value"), (0, u "()D")] 4

def k2c0 : Code := { maxStack := 2, maxLocals := 1, code := prog_8_method_1_code, exceptionTable := #[], attributes := #[] }
def k2m0 : Method := { name := "<init>", desc := "()V", sig := { parameters := [], returnType := none }, accessFlags := 1, code := some k2c0 }
def k2c1 : Code := { maxStack := 6, maxLocals := 13, code := prog_8_method_2_code, exceptionTable := #[], attributes := #[] }
def k2m1 : Method := { name := "add", desc := "(D)V", sig := { parameters := [.double], returnType := none }, accessFlags := 1, code := some k2c1 }
def k2c2 : Code := { maxStack := 6, maxLocals := 10, code := prog_8_method_4_code, exceptionTable := #[], attributes := #[] }
def k2m2 : Method := { name := "value", desc := "()D", sig := { parameters := [], returnType := some .double }, accessFlags := 1, code := some k2c2 }
/-- com/example/prose_to_query/prosetoquery/retrieval/ExactSum -/
def k2 : Class := { plain "com/example/prose_to_query/prosetoquery/retrieval/ExactSum" (some 0) with
  accessFlags := 49
  interfaces := #[]
  cf := some (fileOf pool2 8 #[] #[{ accessFlags := 1, nameIndex := 5, descriptorIndex := 6, attributes := #[] }, { accessFlags := 1, nameIndex := 31, descriptorIndex := 32, attributes := #[] }, { accessFlags := 1, nameIndex := 44, descriptorIndex := 45, attributes := #[] }] 49 2 #[] #[{ accessFlags := 2, nameIndex := 11, descriptorIndex := 12, attributes := #[] }, { accessFlags := 2, nameIndex := 15, descriptorIndex := 16, attributes := #[] }])
  fields := #[{ name := "partials", type := (.array .double), accessFlags := 2, slot := 0, constantValue := 0 }, { name := "size", type := .int, accessFlags := 2, slot := 1, constantValue := 0 }]
  methods := #[k2m0, k2m1, k2m2]
  instanceTypes := #[(.array .double), .int]
  staticTypes := #[]
  resolved := Array.replicate 50 none
  statics := none }

def pool3 : Array CpInfo := pool [(1, .class_ 2), (0, u "java/lang/Math"), (1, .class_ 6), (1, u "java/lang/Object"), (0, u "<init>"), (0, u "()V"), (5, u "(D)D"), (83, .class_ 100), (1, u "java/lang/Math$RandomNumberGeneratorHolder"), (23, u "abs"), (47, u "negativeZeroFloatBits"), (0, u "J"), (2, u "negativeZeroDoubleBits"), (68, u "$assertionsDisabled"), (0, u "Z"), (91, u "twoToTheDoubleScaleDown"), (0, u "D"), (4, u "twoToTheDoubleScaleUp"), (9, u "E"), (3, u "PI"), (2, u "TAU"), (2, u "DEGREES_TO_RADIANS"), (0, u "RADIANS_TO_DEGREES")] 94

def k3m0 : Method := { name := "<init>", desc := "()V", sig := { parameters := [], returnType := none }, accessFlags := 2, code := none }
def k3c1 : Code := { maxStack := 4, maxLocals := 2, code := jdk_29_method_64_code, exceptionTable := #[], attributes := #[] }
def k3m1 : Method := { name := "abs", desc := "(D)D", sig := { parameters := [.double], returnType := some .double }, accessFlags := 9, code := some k3c1 }
/-- java/lang/Math -/
def k3 : Class := { plain "java/lang/Math" (some 0) with
  accessFlags := 49
  interfaces := #[]
  cf := some (fileOf pool3 1 #[.nestMembers #[98]] #[{ accessFlags := 2, nameIndex := 7, descriptorIndex := 8, attributes := #[] }, { accessFlags := 9, nameIndex := 124, descriptorIndex := 14, attributes := #[] }] 49 4 #[] #[{ accessFlags := 25, nameIndex := 354, descriptorIndex := 339, attributes := #[] }, { accessFlags := 25, nameIndex := 358, descriptorIndex := 339, attributes := #[] }, { accessFlags := 25, nameIndex := 361, descriptorIndex := 339, attributes := #[] }, { accessFlags := 26, nameIndex := 364, descriptorIndex := 339, attributes := #[] }, { accessFlags := 26, nameIndex := 365, descriptorIndex := 339, attributes := #[] }, { accessFlags := 26, nameIndex := 172, descriptorIndex := 173, attributes := #[] }, { accessFlags := 26, nameIndex := 176, descriptorIndex := 173, attributes := #[] }, { accessFlags := 8, nameIndex := 344, descriptorIndex := 339, attributes := #[] }, { accessFlags := 8, nameIndex := 338, descriptorIndex := 339, attributes := #[] }, { accessFlags := 4120, nameIndex := 245, descriptorIndex := 246, attributes := #[] }])
  fields := #[{ name := "E", type := .double, accessFlags := 25, slot := 0, constantValue := 0 }, { name := "PI", type := .double, accessFlags := 25, slot := 1, constantValue := 0 }, { name := "TAU", type := .double, accessFlags := 25, slot := 2, constantValue := 0 }, { name := "DEGREES_TO_RADIANS", type := .double, accessFlags := 26, slot := 3, constantValue := 0 }, { name := "RADIANS_TO_DEGREES", type := .double, accessFlags := 26, slot := 4, constantValue := 0 }, { name := "negativeZeroFloatBits", type := .long, accessFlags := 26, slot := 5, constantValue := 0 }, { name := "negativeZeroDoubleBits", type := .long, accessFlags := 26, slot := 6, constantValue := 0 }, { name := "twoToTheDoubleScaleUp", type := .double, accessFlags := 8, slot := 7, constantValue := 0 }, { name := "twoToTheDoubleScaleDown", type := .double, accessFlags := 8, slot := 8, constantValue := 0 }, { name := "$assertionsDisabled", type := .boolean, accessFlags := 4120, slot := 9, constantValue := 0 }]
  methods := #[k3m0, k3m1]
  instanceTypes := #[]
  staticTypes := #[.double, .double, .double, .double, .double, .long, .long, .double, .double, .boolean]
  resolved := Array.replicate 460 none
  statics := none }

def pool4 : Array CpInfo := pool [(1, u "java/lang/Cloneable"), (0, .class_ 1), (0, u "java/lang/Object"), (0, .class_ 3)] 3

/-- java/lang/Cloneable -/
def k4 : Class := { plain "java/lang/Cloneable" (some 0) with
  accessFlags := 1537
  interfaces := #[]
  cf := some (fileOf pool4 2 #[] #[] 1537 4 #[] #[])
  fields := #[]
  methods := #[]
  instanceTypes := #[]
  staticTypes := #[]
  resolved := Array.replicate 8 none
  statics := none }

def pool5 : Array CpInfo := pool [(1, u "java/io/Serializable"), (0, .class_ 1), (0, u "java/lang/Object"), (0, .class_ 3)] 3

/-- java/io/Serializable -/
def k5 : Class := { plain "java/io/Serializable" (some 0) with
  accessFlags := 1537
  interfaces := #[]
  cf := some (fileOf pool5 2 #[] #[] 1537 4 #[] #[])
  fields := #[]
  methods := #[]
  instanceTypes := #[]
  staticTypes := #[]
  resolved := Array.replicate 8 none
  statics := none }

/-- the primitive byte -/
def k6 : Class := { plain "byte" none with kind := .primitive 'B', accessFlags := 0x411 }
/-- [B -/
def k7 : Class := { plain "[B" (some 0) with kind := .array 6 .byte, interfaces := #[4, 5], accessFlags := 1041 }

/-- the primitive double -/
def k8 : Class := { plain "double" none with kind := .primitive 'D', accessFlags := 0x411 }
/-- [D -/
def k9 : Class := { plain "[D" (some 0) with kind := .array 8 .double, interfaces := #[4, 5], accessFlags := 1041 }

def heap : Heap := #[]
def classes : Array Class := #[k0, k1, k2, k3, k4, k5, k6, k7, k8, k9]
def interned : List (Array UInt16 × Addr) := []
def slotsUsed : Nat := 0
def theMethod : MethodId := ⟨1, 1⟩
def args0 : Array Value := #[.long 3, .long 4, .long 5, .long 6, .int 7]
def aboutOver (below : List Frame) : State where
  vm := { classes := classes, interned := interned.toArray }
  heap := heap
  slotsUsed := slotsUsed
  threads := #[{ frames := .invoking theMethod args0 :: below }]
def below0 : List Frame := [.native { method := ⟨0, 0⟩, args := #[] }]
def about1 : State := aboutOver below0
def p0 : Program := .bare "" "" ""
def e0 : Env := launch0.env 0 0 0
theorem w_frames : about1.frames = Frame.invoking theMethod args0 :: below0 := rfl
set_option maxRecDepth 65536 in
theorem w_args : argsFit about1.vm theMethod args0 = true := by decide +kernel
set_option maxRecDepth 65536 in
theorem w_heap : heapFits about1 = true := by decide +kernel
set_option maxRecDepth 65536 in
theorem w_runnable : about1.curStatus? = some .runnable := by decide +kernel
set_option maxRecDepth 65536 in
theorem w_alone : about1.alone = true := by decide +kernel
set_option maxRecDepth 65536 in
theorem w_named : about1.methodNamed? x = some theMethod := by decide +kernel
set_option maxRecDepth 65536 in
theorem w_hears : about1.hears theMethod below0 = true := by decide +kernel
set_option maxRecDepth 65536 in
theorem w_ripe : about1.ripe theMethod args0 below0 = true := by decide +kernel
theorem w_running : about1.status = .running := rfl
set_option maxRecDepth 65536 in
theorem w_room : about1.hasRoom e0.platform room_1 = true :=
  launch0.hasRoom_least _ room_1 (by decide +kernel) (by decide +kernel) (by decide +kernel) (by decide +kernel) (by decide +kernel) (by decide +kernel)
theorem allAtoms_all (ts : List Jvm.Cond) (a : Array Jvm.Value) (st : Jvm.State) : (allAtoms ts).before a st = ts.all (fun c => c.before a st) := by
  induction ts with
  | nil => rfl
  | cons c t ih =>
    show (Jvm.Cond.and c (allAtoms t)).before a st = _
    rw [Jvm.Cond.before_and, ih, List.all_cons]
def words1 : List Jvm.Cond := Jvm.Cond.code x code maxLocals ret :: tables_1
/-- a 'code' word, met by the world's own term for the bytes: nothing is compared byte by byte -/
theorem code_word {y : MethodName} {bytes : ByteArray} {mx : Nat} {rt : Option FieldType} {a : Array Value} {s : State} {m : MethodId} {meth : Method} {c : Code} (h1 : s.methodNamed? y = some m) (h2 : s.vm.method? m = some meth) (h3 : meth.code = some c) (h4 : c.code = bytes)
    (h5 : (c.maxLocals == mx && c.exceptionTable.isEmpty && decide (c.maxStack ≤ mostOperands) && decide (meth.sig.returnType = rt) && !meth.locks && decide (parseMethodDescriptor y.desc = some meth.sig)) = true) : (Jvm.Cond.code y bytes mx rt).before a s = true := by
  simp only [Bool.and_eq_true, beq_iff_eq, Bool.not_eq_true', decide_eq_true_eq] at h5
  obtain ⟨⟨⟨⟨⟨g1, g2⟩, g3⟩, g4⟩, g5⟩, g6⟩ := h5
  simp [Cond.before, Cond.holds, Cond.value, h1, h2, h3, h4, g1, g2, g3, g4, g5, g6]
def isCode : Jvm.Cond → Bool
  | .code _ _ _ _ => true
  | _ => false
theorem all_split {L : List Jvm.Cond} {P : Jvm.Cond → Bool} (h1 : L.all (fun c => isCode c || P c) = true) (h2 : ∀ c ∈ L.filter isCode, P c = true) : L.all P = true := by
  refine List.all_eq_true.mpr fun c hc => ?_
  have h := List.all_eq_true.mp h1 c hc
  rcases Bool.eq_false_or_eq_true (isCode c) with hi | hi
  · exact h2 c (List.mem_filter.mpr ⟨hc, hi⟩)
  · simpa [hi] using h
set_option maxRecDepth 65536 in
theorem w_c0 : (Jvm.Cond.code x code maxLocals ret).before args0 about1 = true := code_word (m := ⟨1, 1⟩) (meth := k1m1) (c := k1c1) (by decide +kernel) rfl rfl rfl (by decide +kernel)
set_option maxRecDepth 65536 in
theorem w_c1 : (Jvm.Cond.code ({ cls := "com/example/prose_to_query/prosetoquery/retrieval/ExactSum", name := "<init>", desc := "()V" } : Jvm.MethodName) prog_8_method_1_code (1 : Nat) (Option.none : Option Jvm.ClassFile.FieldType)).before args0 about1 = true := code_word (m := ⟨2, 0⟩) (meth := k2m0) (c := k2c0) (by decide +kernel) rfl rfl rfl (by decide +kernel)
set_option maxRecDepth 65536 in
theorem w_c2 : (Jvm.Cond.code ({ cls := "java/lang/Object", name := "<init>", desc := "()V" } : Jvm.MethodName) object_method_1_code (1 : Nat) (Option.none : Option Jvm.ClassFile.FieldType)).before args0 about1 = true := code_word (m := ⟨0, 0⟩) (meth := k0m0) (c := k0c0) (by decide +kernel) rfl rfl rfl (by decide +kernel)
set_option maxRecDepth 65536 in
theorem w_c3 : (Jvm.Cond.code ({ cls := "com/example/prose_to_query/prosetoquery/retrieval/ExactSum", name := "value", desc := "()D" } : Jvm.MethodName) prog_8_method_4_code (10 : Nat) (Option.some Jvm.ClassFile.FieldType.double)).before args0 about1 = true := code_word (m := ⟨2, 2⟩) (meth := k2m2) (c := k2c2) (by decide +kernel) rfl rfl rfl (by decide +kernel)
set_option maxRecDepth 65536 in
theorem w_c4 : (Jvm.Cond.code ({ cls := "com/example/prose_to_query/prosetoquery/retrieval/ExactSumValuePinLaw", name := "big", desc := "(J)J" } : Jvm.MethodName) method_4_code (4 : Nat) (Option.some Jvm.ClassFile.FieldType.long)).before args0 about1 = true := code_word (m := ⟨1, 3⟩) (meth := k1m3) (c := k1c3) (by decide +kernel) rfl rfl rfl (by decide +kernel)
set_option maxRecDepth 65536 in
theorem w_c5 : (Jvm.Cond.code ({ cls := "com/example/prose_to_query/prosetoquery/retrieval/ExactSumValuePinLaw", name := "mid", desc := "(J)J" } : Jvm.MethodName) method_3_code (4 : Nat) (Option.some Jvm.ClassFile.FieldType.long)).before args0 about1 = true := code_word (m := ⟨1, 2⟩) (meth := k1m2) (c := k1c2) (by decide +kernel) rfl rfl rfl (by decide +kernel)
set_option maxRecDepth 65536 in
theorem w_c6 : (Jvm.Cond.code ({ cls := "com/example/prose_to_query/prosetoquery/retrieval/ExactSumValuePinLaw", name := "swap", desc := "([DII)V" } : Jvm.MethodName) method_5_code (5 : Nat) (Option.none : Option Jvm.ClassFile.FieldType)).before args0 about1 = true := code_word (m := ⟨1, 4⟩) (meth := k1m4) (c := k1c4) (by decide +kernel) rfl rfl rfl (by decide +kernel)
set_option maxRecDepth 65536 in
theorem w_c7 : (Jvm.Cond.code ({ cls := "com/example/prose_to_query/prosetoquery/retrieval/ExactSum", name := "add", desc := "(D)V" } : Jvm.MethodName) prog_8_method_2_code (13 : Nat) (Option.none : Option Jvm.ClassFile.FieldType)).before args0 about1 = true := code_word (m := ⟨2, 1⟩) (meth := k2m1) (c := k2c1) (by decide +kernel) rfl rfl rfl (by decide +kernel)
set_option maxRecDepth 65536 in
theorem w_c8 : (Jvm.Cond.code ({ cls := "java/lang/Math", name := "abs", desc := "(D)D" } : Jvm.MethodName) jdk_29_method_64_code (2 : Nat) (Option.some Jvm.ClassFile.FieldType.double)).before args0 about1 = true := code_word (m := ⟨3, 1⟩) (meth := k3m1) (c := k3c1) (by decide +kernel) rfl rfl rfl (by decide +kernel)
def codes1 : List Jvm.Cond := [Jvm.Cond.code x code maxLocals ret, Jvm.Cond.code ({ cls := "com/example/prose_to_query/prosetoquery/retrieval/ExactSum", name := "<init>", desc := "()V" } : Jvm.MethodName) prog_8_method_1_code (1 : Nat) (Option.none : Option Jvm.ClassFile.FieldType), Jvm.Cond.code ({ cls := "java/lang/Object", name := "<init>", desc := "()V" } : Jvm.MethodName) object_method_1_code (1 : Nat) (Option.none : Option Jvm.ClassFile.FieldType), Jvm.Cond.code ({ cls := "com/example/prose_to_query/prosetoquery/retrieval/ExactSum", name := "value", desc := "()D" } : Jvm.MethodName) prog_8_method_4_code (10 : Nat) (Option.some Jvm.ClassFile.FieldType.double), Jvm.Cond.code ({ cls := "com/example/prose_to_query/prosetoquery/retrieval/ExactSumValuePinLaw", name := "big", desc := "(J)J" } : Jvm.MethodName) method_4_code (4 : Nat) (Option.some Jvm.ClassFile.FieldType.long), Jvm.Cond.code ({ cls := "com/example/prose_to_query/prosetoquery/retrieval/ExactSumValuePinLaw", name := "mid", desc := "(J)J" } : Jvm.MethodName) method_3_code (4 : Nat) (Option.some Jvm.ClassFile.FieldType.long), Jvm.Cond.code ({ cls := "com/example/prose_to_query/prosetoquery/retrieval/ExactSumValuePinLaw", name := "swap", desc := "([DII)V" } : Jvm.MethodName) method_5_code (5 : Nat) (Option.none : Option Jvm.ClassFile.FieldType), Jvm.Cond.code ({ cls := "com/example/prose_to_query/prosetoquery/retrieval/ExactSum", name := "add", desc := "(D)V" } : Jvm.MethodName) prog_8_method_2_code (13 : Nat) (Option.none : Option Jvm.ClassFile.FieldType), Jvm.Cond.code ({ cls := "java/lang/Math", name := "abs", desc := "(D)D" } : Jvm.MethodName) jdk_29_method_64_code (2 : Nat) (Option.some Jvm.ClassFile.FieldType.double)]
set_option maxRecDepth 65536 in
theorem codes_eq : words1.filter isCode = codes1 := rfl
theorem w_codes : ∀ c ∈ words1.filter isCode, c.before args0 about1 = true := by
  rw [codes_eq]
  intro c hc
  simp only [codes1, List.mem_cons, List.not_mem_nil, or_false] at hc
  rcases hc with rfl | rfl | rfl | rfl | rfl | rfl | rfl | rfl | rfl
  · exact w_c0
  · exact w_c1
  · exact w_c2
  · exact w_c3
  · exact w_c4
  · exact w_c5
  · exact w_c6
  · exact w_c7
  · exact w_c8
set_option maxRecDepth 65536 in
theorem w_t1 : (words1.take 24).all (fun c => isCode c || c.before args0 about1) = true := by decide +kernel
set_option maxRecDepth 65536 in
theorem w_t2 : (words1.drop 24).all (fun c => isCode c || c.before args0 about1) = true := by decide +kernel
theorem w_tables : (allAtoms (Jvm.Cond.code x code maxLocals ret :: tables_1)).before args0 about1 = true := by
  rw [allAtoms_all]
  show words1.all (fun c => c.before args0 about1) = true
  refine all_split ?_ w_codes
  rw [← List.take_append_drop 24 words1, List.all_append, w_t1, w_t2]
  rfl
set_option maxRecDepth 65536 in
theorem w_case : (Jvm.Cond.and given_1 narrow_1).before args0 about1 = true := by decide +kernel
theorem w_applies : (headSpec (Jvm.Cond.code x code maxLocals ret :: tables_1) room_1).applies x e0.platform about1 = true :=
  (Spec.applies_iff w_frames).mpr ⟨w_running, w_runnable, w_alone, w_named, w_hears, w_ripe, w_room, w_tables⟩
theorem atStart : AtStart classFile x code maxLocals ret World_1 tables_1 room_1 Calls_1 rest_1 Pre_1 launch0 p0 e0 about1 theMethod args0 below0 :=
  ⟨lists_1, trivial, launch0.admits_env _ _ _, launch0.least_env, fairChoices_fair.cas, fairChoices_fair.clock, w_frames, w_args, w_heap, w_applies, trivial, trivial, w_case⟩
end start1
theorem witness_1 : WitnessClaimed_1 := ⟨start1.p0, start1.e0, start1.about1, start1.theMethod, start1.args0, start1.below0, start1.atStart⟩
end Jvm.Pilot.@@N@@
